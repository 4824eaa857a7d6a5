import JvmDerived
import JvmDerived.Pilot.@@N@@Statement
import JvmDerived.Pilot.@@N@@Code
set_option linter.unusedVariables false
set_option linter.unusedSimpArgs false
namespace Jvm.Pilot.@@N@@
open Jvm Jvm.ClassFile Sem Op Lib Jvm.Free Jvm.Stand Jvm.LawKit Jvm.RoadKit Bundle Jvm.Pilot.@@N@@.Jvm.D
section OwnKit
variable {p : Program} {l : Launch} {e : Env} {R : Room} {s : State} {m : MethodId} {args : Array Value} {below : List Frame} {meth : Method} {c : Code} {T : State} {locs : List Loc} {cells slots : Nat} {Z : State} {a0 : Array Value} {h : Heap} {Qr : Option Value → Heap → List Loc → Prop}
/-- from this frame on the run ends, and Q holds of the end -/
def own_G (tb : Tables) (e : Env) (below : List Frame) (T : State) (f : JFrame) (Qe : Outcome → State → Prop) : Prop := ∃ s₂ o, Steps tb e below (T.setTop f) s₂ ∧ s₂.status = .running ∧ Ended s₂ below o ∧ Qe o s₂
theorem own_pre {tb : Tables} {T' : State} {f f' : JFrame} {Qe : Outcome → State → Prop} (k1 : ∀ t, Steps tb e below (T'.setTop f') t → Steps tb e below (T.setTop f) t) (k2 : own_G tb e below T' f' Qe) : own_G tb e below T f Qe := by
  obtain ⟨s2, o, h1, h2⟩ := k2
  exact ⟨s2, o, k1 _ h1, h2⟩
/-- the end of a body: it returned v with Qr; the frame -/
abbrev own_P (R : Room) (s : State) (Qr : Option Value → Heap → List Loc → Prop) : Outcome → State → Prop := fun o U' => ∃ v L, o = .returned v ∧ Qr v U'.heap L ∧ FrameEnd s o U' L R.cells R.slots
/-- a body's contract -/
abbrev own_C (l : Launch) (y : MethodName) (code : ByteArray) (ml : Nat) (ret : Option FieldType) (ws : List Jvm.Cond) (R : Room) (as : Array Value) (Z : State) (h0 : Heap) (Qr : Option Value → Heap → List Loc → Prop) : Prop :=
  MetFree l y (head1 (Jvm.Cond.code y code ml ret :: ws) R) (fun a U => a = as ∧ Z.Warmed39 U.vm ∧ U.heap = h0) (fun _ _ _ _ _ => True) (fun _ U o U' => ∃ v L, o = .returned v ∧ Qr v U'.heap L ∧ FrameEnd U o U' L R.cells R.slots)
theorem own_enter {y : MethodName} {code : ByteArray} {ml : Nat} {ret : Option FieldType} {ws : List Jvm.Cond} {as : Array Value} {LS : Array Slot} {h0 : Heap} (hp : plainFor y = true) (hef : ∀ m, entryFrame m as ml = mkF m 0 LS [])
    (body : ∀ (p : Program) (e : Env) (s : State) (m : MethodId) (below : List Frame) (meth : Method) (c : Code) (s₁ : State), p.tables.exec = Jvm.exec → c.code = code → c.maxLocals = ml → s.vm.findClass y.cls = some m.cls → meth.name = y.name → meth.sig.returnType = ret → meth.locks = false → Z.Warmed39 s.vm → Stand p l e R s m as below meth c s₁ [] 0 0 → s₁.heap = h0 → s.heap = h0 → own_G p.tables e below s₁ (mkF m 0 LS []) (own_P R s Qr)) : own_C l y code ml ret ws R as Z h0 Qr := by
  refine MetFree.of_bodySF hp hisR ?_
  intro p e s m args below meth c s₁ Bd hml0 hP hK
  obtain ⟨rfl, hZ, hh⟩ := hP
  have e0 : s₁.heap = h0 := by rw [← hh, Bd.state]; rfl
  obtain ⟨s2, o, h1, h2⟩ := body p e s m below meth c s₁ Bd.exec Bd.bytes hml0 (findClass_of_methodNamed Bd.named) (name_of_methodNamed Bd.named Bd.method).1 Bd.returns Bd.notSynchronized hZ (Stand.of_body Bd) e0 hh
  exact ⟨s2, o, castTop (hef m) h1, h2⟩
theorem own_retZ (X : Stand p l e R s m args below meth c T locs cells slots) (hx : p.tables.exec = Jvm.exec) (hlk : meth.locks = false) {pc : Nat} {Ls : Array Slot} {z z' : Int32} {rest : List Value} (hret : meth.sig.returnType = some .boolean) (hd : decode c.code pc = .ok (.ireturn, 1)) (hz : nar .boolean z = z')
    (hQ : Qr (some (.int z')) T.heap locs) (hc : cells ≤ R.cells) (hs : slots ≤ R.slots) : own_G p.tables e below T (mkF m pc Ls (.int z :: rest)) (own_P R s Qr) := by
  subst hz
  obtain ⟨fs, hr, hrun, hended, hW, hsame⟩ := X.leave (v := some (.int (nar .boolean z))) (fun h => by rw [hret] at h; cases h) hlk
  exact ⟨_, _, retN X hx hret (by simp) hd hr, hrun, hended, _, _, rfl, hQ, ⟨_, rfl⟩, hW, hsame.mono hc hs⟩
theorem own_retI (X : Stand p l e R s m args below meth c T locs cells slots) (hx : p.tables.exec = Jvm.exec) (hlk : meth.locks = false) {pc : Nat} {Ls : Array Slot} {z : Int32} {rest : List Value} (hret : meth.sig.returnType = some .int) (hd : decode c.code pc = .ok (.ireturn, 1))
    (hQ : Qr (some (.int z)) T.heap locs) (hc : cells ≤ R.cells) (hs : slots ≤ R.slots) : own_G p.tables e below T (mkF m pc Ls (.int z :: rest)) (own_P R s Qr) := by
  obtain ⟨fs, hr, hrun, hended, hW, hsame⟩ := X.leave (v := some (.int z)) (fun h => by rw [hret] at h; cases h) hlk
  exact ⟨_, _, retOut X hx hret rfl (Or.inl ⟨rfl, Or.inl rfl, _, rfl⟩) hd hr, hrun, hended, _, _, rfl, hQ, ⟨_, rfl⟩, hW, hsame.mono hc hs⟩
theorem own_retR (X : Stand p l e R s m args below meth c T locs cells slots) (hx : p.tables.exec = Jvm.exec) (hlk : meth.locks = false) {pc : Nat} {Ls : Array Slot} {w : Value} {t : FieldType} {rest : List Value} (hret : meth.sig.returnType = some t) (hd : decode c.code pc = .ok (.areturn, 1)) (hn : narrow t w = w) (ht : t.isReference = true) (hw : w.isRef = true)
    (hQ : Qr (some w) T.heap locs) (hc : cells ≤ R.cells) (hs : slots ≤ R.slots) : own_G p.tables e below T (mkF m pc Ls (w :: rest)) (own_P R s Qr) := by
  obtain ⟨fs, hr, hrun, hended, hW, hsame⟩ := X.leave (v := some w) (fun h => by rw [hret] at h; cases h) hlk
  exact ⟨_, _, retOut X hx hret hn (Or.inr (Or.inr (Or.inr (Or.inr ⟨rfl, ht, hw⟩)))) hd hr, hrun, hended, _, _, rfl, hQ, ⟨_, rfl⟩, hW, hsame.mono hc hs⟩
theorem own_ret0 (X : Stand p l e R s m args below meth c T locs cells slots) (hx : p.tables.exec = Jvm.exec) (hlk : meth.locks = false) {pc : Nat} {Ls : Array Slot} (hret : meth.sig.returnType = none) (hd : decode c.code pc = .ok (.return_, 1))
    (hQ : Qr none T.heap locs) (hc : cells ≤ R.cells) (hs : slots ≤ R.slots) : own_G p.tables e below T (mkF m pc Ls []) (own_P R s Qr) := by
  obtain ⟨fs, hr, hrun, hended, hW, hsame⟩ := X.leave (v := none) (fun _ => rfl) hlk
  exact ⟨_, _, X.returnOut hx hret hd hr, hrun, hended, _, _, rfl, hQ, ⟨_, rfl⟩, hW, hsame.mono hc hs⟩
theorem own_callV (X : Stand p l e R s m args below meth c T locs cells slots) (hx : p.tables.exec = Jvm.exec) (hZ : Z.Warmed39 s.vm) (eT : T.heap = h) {own C : String} {index : Nat} {y : MethodName} {bytes : ByteArray} {maxL : Nat} {ret : Option FieldType} {R' : Room} {b : Addr} {Qc : Option Value → Heap → List Loc → Prop}
    (hown : s.vm.findClass own = some m.cls) (w1 : (Jvm.Cond.methodLink own index y).before a0 Z = true) (w2 : (Jvm.Cond.declares y).before a0 Z = true) (w3 : (Jvm.Cond.selects C y y).before a0 Z = true) (w4 : (Jvm.Cond.instanceMethod y).before a0 Z = true) (w5 : (Jvm.Cond.code y bytes maxL ret).before a0 Z = true) (w6 : (Jvm.Cond.initialized y.cls).before a0 Z = true)
    (hy : y.cls ≠ "java/lang/invoke/MethodHandle" ∧ y.cls ≠ "java/lang/invoke/VarHandle") (W : Nat) (argsL rest : List Value) (hM : own_C l y bytes maxL ret [] R' (.ref b :: argsL).toArray Z h Qc) (hf : R'.frames + 1 ≤ R.frames) (hl : W + (maxL + 11) + R'.locals ≤ R.locals) (hc : cells + R'.cells ≤ R.cells) (hs : slots + R'.slots ≤ R.slots)
    (E : Exa Z h b C) {g : JFrame} (hg : g.method = m) (hsize : g.locals.size = c.maxLocals) (hlen : ∀ sig, parseMethodDescriptor y.desc = some sig → argsL.length = sig.parameters.length) (hstack : g.stack = argsL.reverse ++ .ref b :: rest) (hW : 2 * g.monitorRoom + (rest.map fun v => v.category).sum ≤ W) (hd : decode c.code g.pc = .ok (.invokevirtual index, 3)) :
    ∃ (T' : State) (L : List Loc) (v : Option Value), Stand p l e R s m args below meth c T' (locs ++ L) (cells + R'.cells) (slots + R'.slots) ∧ Qc v T'.heap L ∧ ∀ target, Steps p.tables e below (T'.setTop { g with pc := g.pc + 3, stack := v.toList ++ rest }) target → Steps p.tables e below (T.setTop g) target := by
  obtain ⟨cq, kq, qa, qb, qc⟩ := isOf hZ eT E
  obtain ⟨v, _, ⟨T2, L2, k2, n2⟩, -, X2, ⟨Lc, hQ, l2, y2, z2⟩, st⟩ := X.virtualBack hx (y := y) (z := y) hown (mvT hZ w1) (mvT hZ w2) (notFace_of_selects (args := #[]) (mvT hZ w3)) (mvT hZ w3) (mvT hZ w4) hy (backOf (W := W) hM hZ w5 w6 hf hl) qa qc (g := g) hg hsize (Steps.refl _) (argsL := argsL) (rest := rest) hlen hstack hW hd (fun _ _ => ⟨rfl, eT, hc, hs⟩)
  dsimp only [Pt.U, Pt.locs, Pt.cells, Pt.slots] at X2 l2 y2 z2 st hQ
  subst l2 y2 z2
  exact ⟨T2, Lc, v, X2, hQ, fun t k => st.trans k⟩
theorem own_callU (X : Stand p l e R s m args below meth c T locs cells slots) (hx : p.tables.exec = Jvm.exec) (hZ : Z.Warmed39 s.vm) (eT : T.heap = h) {own C owner : String} {index : Nat} {y z : MethodName} {bytes : ByteArray} {maxL : Nat} {ret : Option FieldType} {R' : Room} {b : Addr} {Qc : Option Value → Heap → List Loc → Prop}
    (hown : s.vm.findClass own = some m.cls) (w1 : (Jvm.Cond.methodLink own index z).before a0 Z = true) (w0 : (Jvm.Cond.sameMethod z.cls owner z.name z.desc).before a0 Z = true) (w2 : (Jvm.Cond.declares ⟨owner, z.name, z.desc⟩).before a0 Z = true) (w3 : (Jvm.Cond.selects C z y).before a0 Z = true) (w4 : (Jvm.Cond.instanceMethod y).before a0 Z = true) (w5 : (Jvm.Cond.code y bytes maxL ret).before a0 Z = true) (w6 : (Jvm.Cond.initialized y.cls).before a0 Z = true)
    (hy : owner ≠ "java/lang/invoke/MethodHandle" ∧ owner ≠ "java/lang/invoke/VarHandle") (W : Nat) (argsL rest : List Value) (hM : own_C l y bytes maxL ret [] R' (.ref b :: argsL).toArray Z h Qc) (hf : R'.frames + 1 ≤ R.frames) (hl : W + (maxL + 11) + R'.locals ≤ R.locals) (hc : cells + R'.cells ≤ R.cells) (hs : slots + R'.slots ≤ R.slots)
    (E : Exa Z h b C) {g : JFrame} (hg : g.method = m) (hsize : g.locals.size = c.maxLocals) (hlen : ∀ sig, parseMethodDescriptor z.desc = some sig → argsL.length = sig.parameters.length) (hstack : g.stack = argsL.reverse ++ .ref b :: rest) (hW : 2 * g.monitorRoom + (rest.map fun v => v.category).sum ≤ W) (hd : decode c.code g.pc = .ok (.invokevirtual index, 3)) :
    ∃ (T' : State) (L : List Loc) (v : Option Value), Stand p l e R s m args below meth c T' (locs ++ L) (cells + R'.cells) (slots + R'.slots) ∧ Qc v T'.heap L ∧ ∀ target, Steps p.tables e below (T'.setTop { g with pc := g.pc + 3, stack := v.toList ++ rest }) target → Steps p.tables e below (T.setTop g) target := by
  obtain ⟨cq, kq, qa, qb, qc⟩ := isOf hZ eT E
  obtain ⟨v, _, ⟨T2, L2, k2, n2⟩, -, X2, ⟨Lc, hQ, l2, y2, z2⟩, st⟩ := X.virtualBackUp hx (x := z) (y := y) hown (mvT hZ w1) (mvT hZ w0) (mvT hZ w2) hy (mvT hZ w3) (mvT hZ w4) (backOf (W := W) hM hZ w5 w6 hf hl) qa qc (g := g) hg hsize (Steps.refl _) (argsL := argsL) (rest := rest) hlen hstack hW hd (fun _ _ => ⟨rfl, eT, hc, hs⟩)
  dsimp only [Pt.U, Pt.locs, Pt.cells, Pt.slots] at X2 l2 y2 z2 st hQ
  subst l2 y2 z2
  exact ⟨T2, Lc, v, X2, hQ, fun t k => st.trans k⟩
theorem own_callS (X : Stand p l e R s m args below meth c T locs cells slots) (hx : p.tables.exec = Jvm.exec) (hZ : Z.Warmed39 s.vm) (eT : T.heap = h) {own : String} {index : Nat} {y : MethodName} {bytes : ByteArray} {maxL : Nat} {ret : Option FieldType} {R' : Room} {Qc : Option Value → Heap → List Loc → Prop}
    (hown : s.vm.findClass own = some m.cls) (w1 : (Jvm.Cond.methodLink own index y).before a0 Z = true) (w2 : (Jvm.Cond.static y).before a0 Z = true) (w5 : (Jvm.Cond.code y bytes maxL ret).before a0 Z = true) (w6 : (Jvm.Cond.initialized y.cls).before a0 Z = true)
    (hy : y.cls ≠ "java/lang/invoke/MethodHandle" ∧ y.cls ≠ "java/lang/invoke/VarHandle") (W : Nat) (argsL rest : List Value) (hM : own_C l y bytes maxL ret [] R' argsL.toArray Z h Qc) (hf : R'.frames + 1 ≤ R.frames) (hl : W + (maxL + 11) + R'.locals ≤ R.locals) (hc : cells + R'.cells ≤ R.cells) (hs : slots + R'.slots ≤ R.slots)
    {g : JFrame} (hg : g.method = m) (hsize : g.locals.size = c.maxLocals) (hlen : ∀ sig, parseMethodDescriptor y.desc = some sig → argsL.length = sig.parameters.length) (hstack : g.stack = argsL.reverse ++ rest) (hW : 2 * g.monitorRoom + (rest.map fun v => v.category).sum ≤ W) (hd : decode c.code g.pc = .ok (.invokestatic index, 3)) :
    ∃ (T' : State) (L : List Loc) (v : Option Value), Stand p l e R s m args below meth c T' (locs ++ L) (cells + R'.cells) (slots + R'.slots) ∧ Qc v T'.heap L ∧ ∀ target, Steps p.tables e below (T'.setTop { g with pc := g.pc + 3, stack := v.toList ++ rest }) target → Steps p.tables e below (T.setTop g) target := by
  obtain ⟨v, _, ⟨T2, L2, k2, n2⟩, -, X2, ⟨Lc, hQ, l2, y2, z2⟩, st⟩ := Jvm.LawKit.callS X hx (y := y) hown (mvT hZ w1) (mvT hZ w2) (mvT hZ w6) (mvT hZ w5) hy (backOf (W := W) hM hZ w5 w6 hf hl) (g := g) hg hsize (argsL := argsL) (rest := rest) hlen hstack hW hd (fun _ _ => ⟨rfl, eT, hc, hs⟩)
  dsimp only [Pt.U, Pt.locs, Pt.cells, Pt.slots] at X2 l2 y2 z2 st hQ
  subst l2 y2 z2
  exact ⟨T2, Lc, v, X2, hQ, st⟩
theorem own_callI (X : Stand p l e R s m args below meth c T locs cells slots) (hx : p.tables.exec = Jvm.exec) (hZ : Z.Warmed39 s.vm) (eT : T.heap = h) {own : String} {index : Nat} {y : MethodName} {bytes : ByteArray} {maxL : Nat} {R' : Room} {b : Addr} {Qc : Option Value → Heap → List Loc → Prop} (hy1 : y.name = "<init>")
    (hown : s.vm.findClass own = some m.cls) (w1 : (Jvm.Cond.methodLink own index y).before a0 Z = true) (w4 : (Jvm.Cond.instanceMethod y).before a0 Z = true) (w5 : (Jvm.Cond.code y bytes maxL none).before a0 Z = true) (w6 : (Jvm.Cond.initialized y.cls).before a0 Z = true)
    (hy : y.cls ≠ "java/lang/invoke/MethodHandle" ∧ y.cls ≠ "java/lang/invoke/VarHandle") (W : Nat) (argsL rest : List Value) (hM : own_C l y bytes maxL none [] R' (.ref b :: argsL).toArray Z h Qc) (hf : R'.frames + 1 ≤ R.frames) (hl : W + (maxL + 11) + R'.locals ≤ R.locals) (hc : cells + R'.cells ≤ R.cells) (hs : slots + R'.slots ≤ R.slots)
    {g : JFrame} (hg : g.method = m) (hsize : g.locals.size = c.maxLocals) (hlen : ∀ sig, parseMethodDescriptor y.desc = some sig → argsL.length = sig.parameters.length) (hstack : g.stack = argsL.reverse ++ .ref b :: rest) (hW : 2 * g.monitorRoom + (rest.map fun v => v.category).sum ≤ W) (hd : decode c.code g.pc = .ok (.invokespecial index, 3)) :
    ∃ (T' : State) (L : List Loc) (v : Option Value), Stand p l e R s m args below meth c T' (locs ++ L) (cells + R'.cells) (slots + R'.slots) ∧ Qc v T'.heap L ∧ ∀ target, Steps p.tables e below (T'.setTop { g with pc := g.pc + 3, stack := v.toList ++ rest }) target → Steps p.tables e below (T.setTop g) target := by
  obtain ⟨v, _, ⟨T2, L2, k2, n2⟩, -, X2, ⟨Lc, hQ, l2, y2, z2⟩, st⟩ := X.specialBack hx (y := y) hy1 hown (mvT hZ w1) (mvT hZ w4) (mvT hZ w5) hy (backOf (W := W) hM hZ w5 w6 hf hl) (g := g) hg hsize (Steps.refl _) (a := b) (argsL := argsL) (rest := rest) hlen hstack hW hd (fun _ _ => ⟨rfl, eT, hc, hs⟩)
  dsimp only [Pt.U, Pt.locs, Pt.cells, Pt.slots] at X2 l2 y2 z2 st hQ
  subst l2 y2 z2
  exact ⟨T2, Lc, v, X2, hQ, fun t k => st.trans k⟩
/-- a callee that leaves the heap alone: what it returns -/
abbrev own_Q0 (v : Option Value) (h0 : Heap) : Option Value → Heap → List Loc → Prop := fun v' h' L => v' = v ∧ h' = h0 ∧ L = []
abbrev own_R (f n : Nat) : Room := { frames := f, cells := 0, slots := 0, locals := n }
theorem own_pure {f n : Nat} {v : Option Value} {h0 : Heap} {P : State → Option Value → Prop}
    (q : ∃ (T' : State) (L : List Loc) (v' : Option Value), Stand p l e R s m args below meth c T' (locs ++ L) (cells + (own_R f n).cells) (slots + (own_R f n).slots) ∧ own_Q0 v h0 v' T'.heap L ∧ P T' v') : ∃ T', Stand p l e R s m args below meth c T' locs cells slots ∧ T'.heap = h0 ∧ P T' v := by
  obtain ⟨T', L, v', X, ⟨rfl, hh, rfl⟩, k⟩ := q
  rw [List.append_nil] at X
  exact ⟨T', X, hh, k⟩
theorem own_eqI {ar : Array Value} {first st : State} {o : Option Outcome} {idx : List Nat} {t : Term} {n : Int32} (q : (Jvm.Cond.eq t (.int n)).value ar first o st idx = some true) : t.eval ar first o idx st = some (.int n) := by
  simp only [Jvm.Cond.value, Term.eval] at q
  cases ht : t.eval ar first o idx st with
  | none => simp [ht] at q
  | some x => cases x <;> simp [ht] at q ⊢; exact q
theorem own_eqR {ar : Array Value} {first st : State} {o : Option Outcome} {idx : List Nat} {t u : Term} {b : Addr} (q : (Jvm.Cond.eq t u).value ar first o st idx = some true) (hu : u.eval ar first o idx st = some (.ref b)) : t.eval ar first o idx st = some (.ref b) := by
  cases ht : t.eval ar first o idx st with
  | none => simp [Jvm.Cond.value, ht] at q
  | some x => cases x <;> simp [Jvm.Cond.value, ht, hu] at q ⊢; exact q
theorem own_arrlen {ar : Array Value} {st : State} {t : Term} {a : Addr} {cl : Cell} {ty : FieldType} {n : Int32} (A : Arr st st.heap a cl ty) (ht : t.eval ar st none [] st = some (.ref a)) (hl : (Term.length t).eval ar st none [] st = some (.int n)) : cl.slots.size < 2 ^ 31 ∧ cl.slots.size.toInt32 = n := by
  have ha : st.arrayAt? a = some cl := Arr.fin (Vm.Alike.refl _) A
  by_cases q : cl.slots.size < 2 ^ 31
  · rw [len_f ht ha q] at hl
    exact ⟨q, Value.int.inj (Option.some.inj hl)⟩
  · simp [Term.eval, ht, ha, q] at hl
theorem own_neI {a b : Int32} (q : a ≠ b) : (Value.int a) ≠ (Value.int b) := fun z => q (Value.int.inj z)
end OwnKit
section OwnHeap
variable {p : Program} {l : Launch} {e : Env} {R : Room} {s : State} {m : MethodId} {args : Array Value} {below : List Frame} {meth : Method} {c : Code} {T : State} {locs : List Loc} {cells slots : Nat} {Z : State} {a0 : Array Value} {h h' h0 : Heap}
theorem own_extR : Ext h h := ⟨Nat.le_refl _, fun _ _ q => q⟩
theorem own_extE (A : Ext h0 h) (B : Ext h h') : Ext h0 h' := ⟨Nat.le_trans A.1 B.1, fun x c q => B.2 _ _ (A.2 _ _ q)⟩
theorem own_extW {a : Addr} {sl : Nat} {v : Value} (A : Ext h0 h) (W : Wr h h' a sl v) (q : h0.size ≤ a) : Ext h0 h' :=
  ⟨Nat.le_trans A.1 (Keep.of_wr W).1, fun x c hc => (Keep.of_wr W).2.1 x c (A.2 x c hc) fun z => by
    cases List.mem_singleton.mp z; exact absurd (Array.getElem?_eq_some_iff.mp hc).1 (Nat.not_lt.mpr q)⟩
theorem own_stR (X : Stand p l e R s m args below meth c T locs cells slots) (hx : p.tables.exec = Jvm.exec) (hZ : Z.Warmed39 s.vm) (eT : T.heap = h) {a y : Addr} {k : ClassId} {ty : FieldType} {z j : Int32} {vs : List Value} {dv : Value} {C : String} (V : Arv Z h a k ty z vs dv) (hty : ty.isReference = true) (hf : fits ty (.ref y) = true) (O : Ovr Z k C) (E : Exa Z h y C)
    (i : Nat) (hi : j.toNatClampNeg = i) (hl : i < vs.length) (hb : ¬ j < 0 ∧ j < z) (ha : s.heap.size ≤ a) {g : JFrame} (hg : g.method = m) {rest : List Value} (hs : g.stack = .ref y :: .int j :: .ref a :: rest) (hd : decode c.code g.pc = .ok (.aastore, 1)) :
    ∃ T' h', Stand p l e R s m args below meth c T' locs cells slots ∧ T'.heap = h' ∧ Wr h h' a j.toNatClampNeg (.ref y) ∧ Arv Z h' a k ty z (vs.set i (.ref y)) dv ∧ ∀ target, Steps p.tables e below (T'.setTop { g with pc := g.pc + 1, stack := rest }) target → Steps p.tables e below (T.setTop g) target := by
  obtain ⟨cl, A, q1, S, q3, H, G⟩ := V
  obtain ⟨T', h', X', e', W, st⟩ := stR X hx hZ eT A (inb_of S hb) hty (Sto.ofV A q1 O (Ins.self E)) hg hs hd
  exact ⟨T', h', X'.forget (fun y hy => by cases List.mem_singleton.mp hy; exact ha), e', W, Arv.set A q1 S q3 H G hf W i hi hl, st⟩
theorem own_stZ (X : Stand p l e R s m args below meth c T locs cells slots) (hx : p.tables.exec = Jvm.exec) (hZ : Z.Warmed39 s.vm) (eT : T.heap = h) {a : Addr} {k : ClassId} {z j x : Int32} {vs : List Value} {dv : Value} (V : Arv Z h a k .boolean z vs dv)
    (i : Nat) (hi : j.toNatClampNeg = i) (hl : i < vs.length) (hb : ¬ j < 0 ∧ j < z) (ha : s.heap.size ≤ a) {g : JFrame} (hg : g.method = m) {rest : List Value} (hs : g.stack = .int x :: .int j :: .ref a :: rest) (hd : decode c.code g.pc = .ok (.bastore, 1)) :
    ∃ T' h', Stand p l e R s m args below meth c T' locs cells slots ∧ T'.heap = h' ∧ Wr h h' a j.toNatClampNeg (.int (nar .boolean x)) ∧ Arv Z h' a k .boolean z (vs.set i (.int (nar .boolean x))) dv ∧ ∀ target, Steps p.tables e below (T'.setTop { g with pc := g.pc + 1, stack := rest }) target → Steps p.tables e below (T.setTop g) target := by
  obtain ⟨cl, A, q1, S, q3, H, G⟩ := V
  obtain ⟨T', h', X', e', W, st⟩ := stZ X hx hZ eT A (inb_of S hb) hg hs hd
  exact ⟨T', h', X'.forget (fun y hy => by cases List.mem_singleton.mp hy; exact ha), e', W, Arv.set A q1 S q3 H G (fits_nar_bool x) W i hi hl, st⟩
theorem own_stI (X : Stand p l e R s m args below meth c T locs cells slots) (hx : p.tables.exec = Jvm.exec) (hZ : Z.Warmed39 s.vm) (eT : T.heap = h) {a : Addr} {k : ClassId} {z j x : Int32} {vs : List Value} {dv : Value} (V : Arv Z h a k .int z vs dv)
    (i : Nat) (hi : j.toNatClampNeg = i) (hl : i < vs.length) (hb : ¬ j < 0 ∧ j < z) {g : JFrame} (hg : g.method = m) {rest : List Value} (hs : g.stack = .int x :: .int j :: .ref a :: rest) (hd : decode c.code g.pc = .ok (.iastore, 1)) :
    ∃ T' h', Stand p l e R s m args below meth c T' (locs ++ [⟨a, j.toNatClampNeg⟩]) cells slots ∧ T'.heap = h' ∧ Wr h h' a j.toNatClampNeg (.int x) ∧ Arv Z h' a k .int z (vs.set i (.int x)) dv ∧ ∀ target, Steps p.tables e below (T'.setTop { g with pc := g.pc + 1, stack := rest }) target → Steps p.tables e below (T.setTop g) target := by
  obtain ⟨cl, A, q1, S, q3, H, G⟩ := V
  obtain ⟨T', h', X', e', W, st⟩ := stI X hx hZ eT A (inb_of S hb) hg hs hd
  exact ⟨T', h', X', e', W, Arv.set A q1 S q3 H G rfl W i hi hl, st⟩
theorem own_ldR (X : Stand p l e R s m args below meth c T locs cells slots) (hx : p.tables.exec = Jvm.exec) (hZ : Z.Warmed39 s.vm) (eT : T.heap = h) {a : Addr} {k : ClassId} {ty : FieldType} {z j : Int32} {vs : List Value} {dv v : Value} (V : Arv Z h a k ty z vs dv) (hty : ty.isReference = true) (hb : ¬ j < 0 ∧ j < z) (hv : vs.getD j.toNatClampNeg dv = v)
    {g : JFrame} (hg : g.method = m) {rest : List Value} (hs : g.stack = .int j :: .ref a :: rest) (hd : decode c.code g.pc = .ok (.aaload, 1)) : ∀ target, Steps p.tables e below (T.setTop { g with pc := g.pc + 1, stack := v :: rest }) target → Steps p.tables e below (T.setTop g) target := by
  obtain ⟨cl, A, q1, S, q3, H, G⟩ := V
  intro t k
  exact X.aaload hx (by rw [eT]; exact A.1) (State.isArrayOf_alike hZ.alike A.2.1) hty A.2.2 (inb_of S hb) (H.at (inb_of S hb) hv) hg hs hd t k
theorem own_ldZ (X : Stand p l e R s m args below meth c T locs cells slots) (hx : p.tables.exec = Jvm.exec) (hZ : Z.Warmed39 s.vm) (eT : T.heap = h) {a : Addr} {k : ClassId} {z j : Int32} {vs : List Value} {dv v : Value} (V : Arv Z h a k .boolean z vs dv) (hb : ¬ j < 0 ∧ j < z) (hv : vs.getD j.toNatClampNeg dv = v)
    {g : JFrame} (hg : g.method = m) {rest : List Value} (hs : g.stack = .int j :: .ref a :: rest) (hd : decode c.code g.pc = .ok (.baload, 1)) : ∀ target, Steps p.tables e below (T.setTop { g with pc := g.pc + 1, stack := v :: rest }) target → Steps p.tables e below (T.setTop g) target := by
  obtain ⟨cl, A, q1, S, q3, H, G⟩ := V
  intro t k
  exact X.baloadBooleans hx (by rw [eT]; exact A.1) (State.isArrayOf_alike hZ.alike A.2.1) A.2.2 (inb_of S hb) (H.at (inb_of S hb) hv) hg hs hd t k
theorem own_ldI (X : Stand p l e R s m args below meth c T locs cells slots) (hx : p.tables.exec = Jvm.exec) (hZ : Z.Warmed39 s.vm) (eT : T.heap = h) {a : Addr} {k : ClassId} {z j : Int32} {vs : List Value} {dv v : Value} (V : Arv Z h a k .int z vs dv) (hb : ¬ j < 0 ∧ j < z) (hv : vs.getD j.toNatClampNeg dv = v)
    {g : JFrame} (hg : g.method = m) {rest : List Value} (hs : g.stack = .int j :: .ref a :: rest) (hd : decode c.code g.pc = .ok (.iaload, 1)) : ∀ target, Steps p.tables e below (T.setTop { g with pc := g.pc + 1, stack := v :: rest }) target → Steps p.tables e below (T.setTop g) target := by
  obtain ⟨cl, A, q1, S, q3, H, G⟩ := V
  intro t k
  exact X.iaload hx (by rw [eT]; exact A.1) (State.isArrayOf_alike hZ.alike A.2.1) A.2.2 (inb_of S hb) (H.at (inb_of S hb) hv) hg hs hd t k
theorem own_len (X : Stand p l e R s m args below meth c T locs cells slots) (hx : p.tables.exec = Jvm.exec) (hZ : Z.Warmed39 s.vm) (eT : T.heap = h) {a : Addr} {k : ClassId} {ty : FieldType} {z : Int32} {vs : List Value} {dv : Value} (V : Arv Z h a k ty z vs dv)
    {g : JFrame} (hg : g.method = m) {rest : List Value} (hs : g.stack = .ref a :: rest) (hd : decode c.code g.pc = .ok (.arraylength, 1)) : ∀ target, Steps p.tables e below (T.setTop { g with pc := g.pc + 1, stack := .int z :: rest }) target → Steps p.tables e below (T.setTop g) target := by
  obtain ⟨cl, A, q1, S, q3, H, G⟩ := V
  intro t k
  refine X.arraylength hx (by rw [eT]; exact A.1) (State.isArrayOf_alike hZ.alike A.2.1) hg hs hd t ?_
  rw [len_of S q3]; exact k
theorem own_extK {ws : List Addr} (A : Ext h0 h) (K : Keep h h' ws) (q : ∀ x ∈ ws, h0.size ≤ x) : Ext h0 h' :=
  ⟨Nat.le_trans A.1 K.1, fun x c hc => K.2.1 x c (A.2 x c hc) fun z => absurd (Array.getElem?_eq_some_iff.mp hc).1 (Nat.not_lt.mpr (q x z))⟩
theorem own_ltT {z k : Int32} {b : Int} (hu : z.toInt < b) (q : b ≤ k.toInt) : z < k := Int32.lt_iff_toInt_lt.mpr (by omega)
theorem own_ltF {z k : Int32} {a : Int} (hl : a ≤ z.toInt) (q : k.toInt ≤ a) : ¬ z < k := fun y => by have := Int32.lt_iff_toInt_lt.mp y; omega
theorem own_gtT {z k : Int32} {a : Int} (hl : a ≤ z.toInt) (q : k.toInt < a) : k < z := Int32.lt_iff_toInt_lt.mpr (by omega)
theorem own_gtF {z k : Int32} {b : Int} (hu : z.toInt < b) (q : b ≤ k.toInt + 1) : ¬ k < z := fun y => by have := Int32.lt_iff_toInt_lt.mp y; omega
theorem own_eqT {z k : Int32} {a b : Int} (hl : a ≤ z.toInt) (hu : z.toInt < b) (q1 : a = k.toInt) (q2 : b = k.toInt + 1) : z = k := Int32.toInt_inj.mp (by omega)
theorem own_eqL {z k : Int32} {a : Int} (hl : a ≤ z.toInt) (q : k.toInt < a) : ¬ z = k := fun y => by subst y; omega
theorem own_eqU {z k : Int32} {b : Int} (hu : z.toInt < b) (q : b ≤ k.toInt) : ¬ z = k := fun y => by subst y; omega
/-- a callee that makes cells and leaves the old ones alone -/
abbrev own_QA (v : Option Value) (h0 : Heap) (A : Heap → Prop) : Option Value → Heap → List Loc → Prop := fun v' h' L => v' = v ∧ Ext h0 h' ∧ A h' ∧ L = []
abbrev own_RC (f k n lo : Nat) : Room := { frames := f, cells := k, slots := n, locals := lo }
theorem own_grow {R' : Room} {v : Option Value} {A : Heap → Prop} {P : State → Option Value → Prop}
    (q : ∃ (T' : State) (L : List Loc) (v' : Option Value), Stand p l e R s m args below meth c T' (locs ++ L) (cells + R'.cells) (slots + R'.slots) ∧ own_QA v h A v' T'.heap L ∧ P T' v') : ∃ T' h', Stand p l e R s m args below meth c T' locs (cells + R'.cells) (slots + R'.slots) ∧ T'.heap = h' ∧ Ext h h' ∧ A h' ∧ P T' v := by
  obtain ⟨T', L, v', X, ⟨rfl, hh, hA, rfl⟩, k⟩ := q
  rw [List.append_nil] at X
  exact ⟨T', _, X, rfl, hh, hA, k⟩
end OwnHeap

theorem pd_0 : parseMethodDescriptor "(Ljava/lang/Object;)Ljava/lang/Object;" = some ⟨[(.object "java/lang/Object")], some (.object "java/lang/Object")⟩ := by decide +kernel
theorem pd_1 : parseMethodDescriptor "(Ljava/lang/Object;)V" = some ⟨[(.object "java/lang/Object")], none⟩ := by decide +kernel
theorem pd_2 : parseMethodDescriptor "()[Lcom/example/kormilo/kormilo/CharacterClass;" = some ⟨[], some (.array (.object "com/example/kormilo/kormilo/CharacterClass"))⟩ := by decide +kernel
theorem pd_3 : parseMethodDescriptor "()Ljava/util/Optional;" = some ⟨[], some (.object "java/util/Optional")⟩ := by decide +kernel
theorem pd_4 : parseMethodDescriptor "(Ljava/lang/Object;)Ljava/util/Optional;" = some ⟨[(.object "java/lang/Object")], some (.object "java/util/Optional")⟩ := by decide +kernel
theorem pd_5 : parseMethodDescriptor "(I)Z" = some ⟨[.int], some .boolean⟩ := by decide +kernel
theorem pd_6 : parseMethodDescriptor "(I)Ljava/util/Optional;" = some ⟨[.int], some (.object "java/util/Optional")⟩ := by decide +kernel
theorem pd_7 : parseMethodDescriptor "(I)Lcom/example/kormilo/kormilo/CharacterClass;" = some ⟨[.int], some (.object "com/example/kormilo/kormilo/CharacterClass")⟩ := by decide +kernel
abbrev own_QO (Z : State) (x : Value) (h0 : Heap) : Option Value → Heap → List Loc → Prop := fun v h' L => ∃ r, v = some (.ref r) ∧ Ext h0 h' ∧ L = [] ∧ Exa Z h' r "java/util/Optional" ∧ Fld Z h' r "java/util/Optional" "value" "Ljava/lang/Object;" x
def own_o (z lo hi : Int32) : Bool := decide (z < lo) || decide (hi < z)
theorem own_oL {z lo hi : Int32} (q : z < lo) : own_o z lo hi = true := by simp [own_o, q]
theorem own_oH {z lo hi : Int32} (q : hi < z) : own_o z lo hi = true := by simp [own_o, q]
theorem own_oF {z lo hi : Int32} (q : ¬ (z < lo)) (r : ¬ (hi < z)) : ¬ (own_o z lo hi = true) := by simp [own_o, q, r]
def own_cls (z : Int32) (w_CYRILLIC_UPPER w_CYRILLIC_LOWER w_LATIN_UPPER w_LATIN_LOWER w_DIGITS w_SPECIAL : Addr) : Value := (if own_o z (1040 : Int32) (1071 : Int32) = true then (if own_o z (1025 : Int32) (1025 : Int32) = true then (if own_o z (1072 : Int32) (1103 : Int32) = true then (if own_o z (1105 : Int32) (1105 : Int32) = true then (if own_o z (65 : Int32) (90 : Int32) = true then (if own_o z (97 : Int32) (122 : Int32) = true then (if own_o z (48 : Int32) (57 : Int32) = true then (if own_o z (33 : Int32) (47 : Int32) = true then (if own_o z (58 : Int32) (64 : Int32) = true then (if own_o z (91 : Int32) (96 : Int32) = true then (if own_o z (123 : Int32) (126 : Int32) = true then .null else .ref w_SPECIAL) else .ref w_SPECIAL) else .ref w_SPECIAL) else .ref w_SPECIAL) else .ref w_DIGITS) else .ref w_LATIN_LOWER) else .ref w_LATIN_UPPER) else .ref w_CYRILLIC_LOWER) else .ref w_CYRILLIC_LOWER) else .ref w_CYRILLIC_UPPER) else .ref w_CYRILLIC_UPPER)
def own_b (z lo hi : Int32) : Int32 := if z < lo then (0 : Int32) else (if hi < z then (0 : Int32) else (1 : Int32))
def own_exp (z : Int32) (w_CYRILLIC_UPPER w_CYRILLIC_LOWER w_LATIN_UPPER w_LATIN_LOWER w_DIGITS w_SPECIAL : Addr) : Value := (if z = (1025 : Int32) then .ref w_CYRILLIC_UPPER else (if z < (1040 : Int32) then (if z = (1105 : Int32) then .ref w_CYRILLIC_LOWER else (if z < (1072 : Int32) then (if own_b z (65 : Int32) (90 : Int32) = (0 : Int32) then (if own_b z (97 : Int32) (122 : Int32) = (0 : Int32) then (if own_b z (48 : Int32) (57 : Int32) = (0 : Int32) then (if z < (33 : Int32) then .null else (if (126 : Int32) < z then .null else .ref w_SPECIAL)) else .ref w_DIGITS) else .ref w_LATIN_LOWER) else .ref w_LATIN_UPPER) else (if (1103 : Int32) < z then (if own_b z (65 : Int32) (90 : Int32) = (0 : Int32) then (if own_b z (97 : Int32) (122 : Int32) = (0 : Int32) then (if own_b z (48 : Int32) (57 : Int32) = (0 : Int32) then (if z < (33 : Int32) then .null else (if (126 : Int32) < z then .null else .ref w_SPECIAL)) else .ref w_DIGITS) else .ref w_LATIN_LOWER) else .ref w_LATIN_UPPER) else .ref w_CYRILLIC_LOWER))) else (if (1071 : Int32) < z then (if z = (1105 : Int32) then .ref w_CYRILLIC_LOWER else (if z < (1072 : Int32) then (if own_b z (65 : Int32) (90 : Int32) = (0 : Int32) then (if own_b z (97 : Int32) (122 : Int32) = (0 : Int32) then (if own_b z (48 : Int32) (57 : Int32) = (0 : Int32) then (if z < (33 : Int32) then .null else (if (126 : Int32) < z then .null else .ref w_SPECIAL)) else .ref w_DIGITS) else .ref w_LATIN_LOWER) else .ref w_LATIN_UPPER) else (if (1103 : Int32) < z then (if own_b z (65 : Int32) (90 : Int32) = (0 : Int32) then (if own_b z (97 : Int32) (122 : Int32) = (0 : Int32) then (if own_b z (48 : Int32) (57 : Int32) = (0 : Int32) then (if z < (33 : Int32) then .null else (if (126 : Int32) < z then .null else .ref w_SPECIAL)) else .ref w_DIGITS) else .ref w_LATIN_LOWER) else .ref w_LATIN_UPPER) else .ref w_CYRILLIC_LOWER))) else .ref w_CYRILLIC_UPPER)))
theorem own_iv (z : Int32) : ((-2147483648) ≤ z.toInt ∧ z.toInt < 33) ∨ (33 ≤ z.toInt ∧ z.toInt < 48) ∨ (48 ≤ z.toInt ∧ z.toInt < 58) ∨ (58 ≤ z.toInt ∧ z.toInt < 65) ∨ (65 ≤ z.toInt ∧ z.toInt < 91) ∨ (91 ≤ z.toInt ∧ z.toInt < 97) ∨ (97 ≤ z.toInt ∧ z.toInt < 123) ∨ (123 ≤ z.toInt ∧ z.toInt < 127) ∨ (127 ≤ z.toInt ∧ z.toInt < 1025) ∨ (1025 ≤ z.toInt ∧ z.toInt < 1026) ∨ (1026 ≤ z.toInt ∧ z.toInt < 1040) ∨ (1040 ≤ z.toInt ∧ z.toInt < 1072) ∨ (1072 ≤ z.toInt ∧ z.toInt < 1104) ∨ (1104 ≤ z.toInt ∧ z.toInt < 1105) ∨ (1105 ≤ z.toInt ∧ z.toInt < 1106) ∨ (1106 ≤ z.toInt ∧ z.toInt < 2147483648) := by
  have q := rng32 z
  omega
set_option maxHeartbeats 4000000 in
theorem own_same (z : Int32) (w_CYRILLIC_UPPER w_CYRILLIC_LOWER w_LATIN_UPPER w_LATIN_LOWER w_DIGITS w_SPECIAL : Addr) : ∃ x : Value, own_cls z w_CYRILLIC_UPPER w_CYRILLIC_LOWER w_LATIN_UPPER w_LATIN_LOWER w_DIGITS w_SPECIAL = x ∧ own_exp z w_CYRILLIC_UPPER w_CYRILLIC_LOWER w_LATIN_UPPER w_LATIN_LOWER w_DIGITS w_SPECIAL = x ∧ (x = .null ∨ x = .ref w_CYRILLIC_UPPER ∨ x = .ref w_CYRILLIC_LOWER ∨ x = .ref w_LATIN_UPPER ∨ x = .ref w_LATIN_LOWER ∨ x = .ref w_DIGITS ∨ x = .ref w_SPECIAL) := by
  rcases own_iv z with ⟨hl, hu⟩ | ⟨hl, hu⟩ | ⟨hl, hu⟩ | ⟨hl, hu⟩ | ⟨hl, hu⟩ | ⟨hl, hu⟩ | ⟨hl, hu⟩ | ⟨hl, hu⟩ | ⟨hl, hu⟩ | ⟨hl, hu⟩ | ⟨hl, hu⟩ | ⟨hl, hu⟩ | ⟨hl, hu⟩ | ⟨hl, hu⟩ | ⟨hl, hu⟩ | ⟨hl, hu⟩
  · refine ⟨.null, ?_, ?_, by simp⟩
    · have f0 : (own_o z (1040 : Int32) (1071 : Int32) = true) := own_oL (own_ltT hu (by decide) : z < (1040 : Int32))
      have f1 : (own_o z (1025 : Int32) (1025 : Int32) = true) := own_oL (own_ltT hu (by decide) : z < (1025 : Int32))
      have f2 : (own_o z (1072 : Int32) (1103 : Int32) = true) := own_oL (own_ltT hu (by decide) : z < (1072 : Int32))
      have f3 : (own_o z (1105 : Int32) (1105 : Int32) = true) := own_oL (own_ltT hu (by decide) : z < (1105 : Int32))
      have f4 : (own_o z (65 : Int32) (90 : Int32) = true) := own_oL (own_ltT hu (by decide) : z < (65 : Int32))
      have f5 : (own_o z (97 : Int32) (122 : Int32) = true) := own_oL (own_ltT hu (by decide) : z < (97 : Int32))
      have f6 : (own_o z (48 : Int32) (57 : Int32) = true) := own_oL (own_ltT hu (by decide) : z < (48 : Int32))
      have f7 : (own_o z (33 : Int32) (47 : Int32) = true) := own_oL (own_ltT hu (by decide) : z < (33 : Int32))
      have f8 : (own_o z (58 : Int32) (64 : Int32) = true) := own_oL (own_ltT hu (by decide) : z < (58 : Int32))
      have f9 : (own_o z (91 : Int32) (96 : Int32) = true) := own_oL (own_ltT hu (by decide) : z < (91 : Int32))
      have f10 : (own_o z (123 : Int32) (126 : Int32) = true) := own_oL (own_ltT hu (by decide) : z < (123 : Int32))
      simp [own_cls, f0, f1, f2, f3, f4, f5, f6, f7, f8, f9, f10]
    · have g0 := (own_eqU hu (by decide) : ¬ (z = (1025 : Int32)))
      have g1 := (own_eqU hu (by decide) : ¬ (z = (1105 : Int32)))
      have g2 := (own_ltT hu (by decide) : z < (1040 : Int32))
      have g3 := (own_ltT hu (by decide) : z < (1072 : Int32))
      have g4 := (own_ltT hu (by decide) : z < (65 : Int32))
      have g5 := (own_ltT hu (by decide) : z < (97 : Int32))
      have g6 := (own_ltT hu (by decide) : z < (48 : Int32))
      have g7 := (own_ltT hu (by decide) : z < (33 : Int32))
      have g8 := (own_gtF hu (by decide) : ¬ ((1071 : Int32) < z))
      have g9 := (own_gtF hu (by decide) : ¬ ((1103 : Int32) < z))
      have g10 := (own_gtF hu (by decide) : ¬ ((90 : Int32) < z))
      have g11 := (own_gtF hu (by decide) : ¬ ((122 : Int32) < z))
      have g12 := (own_gtF hu (by decide) : ¬ ((57 : Int32) < z))
      have g13 := (own_gtF hu (by decide) : ¬ ((126 : Int32) < z))
      simp only [own_exp, own_b, g0, g1, g2, g3, g4, g5, g6, g7, g8, g9, g10, g11, g12, g13, if_true, if_false]
      try simp
  · refine ⟨.ref w_SPECIAL, ?_, ?_, by simp⟩
    · have f0 : (own_o z (1040 : Int32) (1071 : Int32) = true) := own_oL (own_ltT hu (by decide) : z < (1040 : Int32))
      have f1 : (own_o z (1025 : Int32) (1025 : Int32) = true) := own_oL (own_ltT hu (by decide) : z < (1025 : Int32))
      have f2 : (own_o z (1072 : Int32) (1103 : Int32) = true) := own_oL (own_ltT hu (by decide) : z < (1072 : Int32))
      have f3 : (own_o z (1105 : Int32) (1105 : Int32) = true) := own_oL (own_ltT hu (by decide) : z < (1105 : Int32))
      have f4 : (own_o z (65 : Int32) (90 : Int32) = true) := own_oL (own_ltT hu (by decide) : z < (65 : Int32))
      have f5 : (own_o z (97 : Int32) (122 : Int32) = true) := own_oL (own_ltT hu (by decide) : z < (97 : Int32))
      have f6 : (own_o z (48 : Int32) (57 : Int32) = true) := own_oL (own_ltT hu (by decide) : z < (48 : Int32))
      have f7 : ¬ (own_o z (33 : Int32) (47 : Int32) = true) := own_oF (own_ltF hl (by decide) : ¬ (z < (33 : Int32))) (own_gtF hu (by decide) : ¬ ((47 : Int32) < z))
      have f8 : (own_o z (58 : Int32) (64 : Int32) = true) := own_oL (own_ltT hu (by decide) : z < (58 : Int32))
      have f9 : (own_o z (91 : Int32) (96 : Int32) = true) := own_oL (own_ltT hu (by decide) : z < (91 : Int32))
      have f10 : (own_o z (123 : Int32) (126 : Int32) = true) := own_oL (own_ltT hu (by decide) : z < (123 : Int32))
      simp [own_cls, f0, f1, f2, f3, f4, f5, f6, f7, f8, f9, f10]
    · have g0 := (own_eqU hu (by decide) : ¬ (z = (1025 : Int32)))
      have g1 := (own_eqU hu (by decide) : ¬ (z = (1105 : Int32)))
      have g2 := (own_ltT hu (by decide) : z < (1040 : Int32))
      have g3 := (own_ltT hu (by decide) : z < (1072 : Int32))
      have g4 := (own_ltT hu (by decide) : z < (65 : Int32))
      have g5 := (own_ltT hu (by decide) : z < (97 : Int32))
      have g6 := (own_ltT hu (by decide) : z < (48 : Int32))
      have g7 := (own_ltF hl (by decide) : ¬ (z < (33 : Int32)))
      have g8 := (own_gtF hu (by decide) : ¬ ((1071 : Int32) < z))
      have g9 := (own_gtF hu (by decide) : ¬ ((1103 : Int32) < z))
      have g10 := (own_gtF hu (by decide) : ¬ ((90 : Int32) < z))
      have g11 := (own_gtF hu (by decide) : ¬ ((122 : Int32) < z))
      have g12 := (own_gtF hu (by decide) : ¬ ((57 : Int32) < z))
      have g13 := (own_gtF hu (by decide) : ¬ ((126 : Int32) < z))
      simp only [own_exp, own_b, g0, g1, g2, g3, g4, g5, g6, g7, g8, g9, g10, g11, g12, g13, if_true, if_false]
      try simp
  · refine ⟨.ref w_DIGITS, ?_, ?_, by simp⟩
    · have f0 : (own_o z (1040 : Int32) (1071 : Int32) = true) := own_oL (own_ltT hu (by decide) : z < (1040 : Int32))
      have f1 : (own_o z (1025 : Int32) (1025 : Int32) = true) := own_oL (own_ltT hu (by decide) : z < (1025 : Int32))
      have f2 : (own_o z (1072 : Int32) (1103 : Int32) = true) := own_oL (own_ltT hu (by decide) : z < (1072 : Int32))
      have f3 : (own_o z (1105 : Int32) (1105 : Int32) = true) := own_oL (own_ltT hu (by decide) : z < (1105 : Int32))
      have f4 : (own_o z (65 : Int32) (90 : Int32) = true) := own_oL (own_ltT hu (by decide) : z < (65 : Int32))
      have f5 : (own_o z (97 : Int32) (122 : Int32) = true) := own_oL (own_ltT hu (by decide) : z < (97 : Int32))
      have f6 : ¬ (own_o z (48 : Int32) (57 : Int32) = true) := own_oF (own_ltF hl (by decide) : ¬ (z < (48 : Int32))) (own_gtF hu (by decide) : ¬ ((57 : Int32) < z))
      have f7 : (own_o z (33 : Int32) (47 : Int32) = true) := own_oH (own_gtT hl (by decide) : (47 : Int32) < z)
      have f8 : (own_o z (58 : Int32) (64 : Int32) = true) := own_oL (own_ltT hu (by decide) : z < (58 : Int32))
      have f9 : (own_o z (91 : Int32) (96 : Int32) = true) := own_oL (own_ltT hu (by decide) : z < (91 : Int32))
      have f10 : (own_o z (123 : Int32) (126 : Int32) = true) := own_oL (own_ltT hu (by decide) : z < (123 : Int32))
      simp [own_cls, f0, f1, f2, f3, f4, f5, f6, f7, f8, f9, f10]
    · have g0 := (own_eqU hu (by decide) : ¬ (z = (1025 : Int32)))
      have g1 := (own_eqU hu (by decide) : ¬ (z = (1105 : Int32)))
      have g2 := (own_ltT hu (by decide) : z < (1040 : Int32))
      have g3 := (own_ltT hu (by decide) : z < (1072 : Int32))
      have g4 := (own_ltT hu (by decide) : z < (65 : Int32))
      have g5 := (own_ltT hu (by decide) : z < (97 : Int32))
      have g6 := (own_ltF hl (by decide) : ¬ (z < (48 : Int32)))
      have g7 := (own_ltF hl (by decide) : ¬ (z < (33 : Int32)))
      have g8 := (own_gtF hu (by decide) : ¬ ((1071 : Int32) < z))
      have g9 := (own_gtF hu (by decide) : ¬ ((1103 : Int32) < z))
      have g10 := (own_gtF hu (by decide) : ¬ ((90 : Int32) < z))
      have g11 := (own_gtF hu (by decide) : ¬ ((122 : Int32) < z))
      have g12 := (own_gtF hu (by decide) : ¬ ((57 : Int32) < z))
      have g13 := (own_gtF hu (by decide) : ¬ ((126 : Int32) < z))
      simp only [own_exp, own_b, g0, g1, g2, g3, g4, g5, g6, g7, g8, g9, g10, g11, g12, g13, if_true, if_false]
      try simp
  · refine ⟨.ref w_SPECIAL, ?_, ?_, by simp⟩
    · have f0 : (own_o z (1040 : Int32) (1071 : Int32) = true) := own_oL (own_ltT hu (by decide) : z < (1040 : Int32))
      have f1 : (own_o z (1025 : Int32) (1025 : Int32) = true) := own_oL (own_ltT hu (by decide) : z < (1025 : Int32))
      have f2 : (own_o z (1072 : Int32) (1103 : Int32) = true) := own_oL (own_ltT hu (by decide) : z < (1072 : Int32))
      have f3 : (own_o z (1105 : Int32) (1105 : Int32) = true) := own_oL (own_ltT hu (by decide) : z < (1105 : Int32))
      have f4 : (own_o z (65 : Int32) (90 : Int32) = true) := own_oL (own_ltT hu (by decide) : z < (65 : Int32))
      have f5 : (own_o z (97 : Int32) (122 : Int32) = true) := own_oL (own_ltT hu (by decide) : z < (97 : Int32))
      have f6 : (own_o z (48 : Int32) (57 : Int32) = true) := own_oH (own_gtT hl (by decide) : (57 : Int32) < z)
      have f7 : (own_o z (33 : Int32) (47 : Int32) = true) := own_oH (own_gtT hl (by decide) : (47 : Int32) < z)
      have f8 : ¬ (own_o z (58 : Int32) (64 : Int32) = true) := own_oF (own_ltF hl (by decide) : ¬ (z < (58 : Int32))) (own_gtF hu (by decide) : ¬ ((64 : Int32) < z))
      have f9 : (own_o z (91 : Int32) (96 : Int32) = true) := own_oL (own_ltT hu (by decide) : z < (91 : Int32))
      have f10 : (own_o z (123 : Int32) (126 : Int32) = true) := own_oL (own_ltT hu (by decide) : z < (123 : Int32))
      simp [own_cls, f0, f1, f2, f3, f4, f5, f6, f7, f8, f9, f10]
    · have g0 := (own_eqU hu (by decide) : ¬ (z = (1025 : Int32)))
      have g1 := (own_eqU hu (by decide) : ¬ (z = (1105 : Int32)))
      have g2 := (own_ltT hu (by decide) : z < (1040 : Int32))
      have g3 := (own_ltT hu (by decide) : z < (1072 : Int32))
      have g4 := (own_ltT hu (by decide) : z < (65 : Int32))
      have g5 := (own_ltT hu (by decide) : z < (97 : Int32))
      have g6 := (own_ltF hl (by decide) : ¬ (z < (48 : Int32)))
      have g7 := (own_ltF hl (by decide) : ¬ (z < (33 : Int32)))
      have g8 := (own_gtF hu (by decide) : ¬ ((1071 : Int32) < z))
      have g9 := (own_gtF hu (by decide) : ¬ ((1103 : Int32) < z))
      have g10 := (own_gtF hu (by decide) : ¬ ((90 : Int32) < z))
      have g11 := (own_gtF hu (by decide) : ¬ ((122 : Int32) < z))
      have g12 := (own_gtT hl (by decide) : (57 : Int32) < z)
      have g13 := (own_gtF hu (by decide) : ¬ ((126 : Int32) < z))
      simp only [own_exp, own_b, g0, g1, g2, g3, g4, g5, g6, g7, g8, g9, g10, g11, g12, g13, if_true, if_false]
      try simp
  · refine ⟨.ref w_LATIN_UPPER, ?_, ?_, by simp⟩
    · have f0 : (own_o z (1040 : Int32) (1071 : Int32) = true) := own_oL (own_ltT hu (by decide) : z < (1040 : Int32))
      have f1 : (own_o z (1025 : Int32) (1025 : Int32) = true) := own_oL (own_ltT hu (by decide) : z < (1025 : Int32))
      have f2 : (own_o z (1072 : Int32) (1103 : Int32) = true) := own_oL (own_ltT hu (by decide) : z < (1072 : Int32))
      have f3 : (own_o z (1105 : Int32) (1105 : Int32) = true) := own_oL (own_ltT hu (by decide) : z < (1105 : Int32))
      have f4 : ¬ (own_o z (65 : Int32) (90 : Int32) = true) := own_oF (own_ltF hl (by decide) : ¬ (z < (65 : Int32))) (own_gtF hu (by decide) : ¬ ((90 : Int32) < z))
      have f5 : (own_o z (97 : Int32) (122 : Int32) = true) := own_oL (own_ltT hu (by decide) : z < (97 : Int32))
      have f6 : (own_o z (48 : Int32) (57 : Int32) = true) := own_oH (own_gtT hl (by decide) : (57 : Int32) < z)
      have f7 : (own_o z (33 : Int32) (47 : Int32) = true) := own_oH (own_gtT hl (by decide) : (47 : Int32) < z)
      have f8 : (own_o z (58 : Int32) (64 : Int32) = true) := own_oH (own_gtT hl (by decide) : (64 : Int32) < z)
      have f9 : (own_o z (91 : Int32) (96 : Int32) = true) := own_oL (own_ltT hu (by decide) : z < (91 : Int32))
      have f10 : (own_o z (123 : Int32) (126 : Int32) = true) := own_oL (own_ltT hu (by decide) : z < (123 : Int32))
      simp [own_cls, f0, f1, f2, f3, f4, f5, f6, f7, f8, f9, f10]
    · have g0 := (own_eqU hu (by decide) : ¬ (z = (1025 : Int32)))
      have g1 := (own_eqU hu (by decide) : ¬ (z = (1105 : Int32)))
      have g2 := (own_ltT hu (by decide) : z < (1040 : Int32))
      have g3 := (own_ltT hu (by decide) : z < (1072 : Int32))
      have g4 := (own_ltF hl (by decide) : ¬ (z < (65 : Int32)))
      have g5 := (own_ltT hu (by decide) : z < (97 : Int32))
      have g6 := (own_ltF hl (by decide) : ¬ (z < (48 : Int32)))
      have g7 := (own_ltF hl (by decide) : ¬ (z < (33 : Int32)))
      have g8 := (own_gtF hu (by decide) : ¬ ((1071 : Int32) < z))
      have g9 := (own_gtF hu (by decide) : ¬ ((1103 : Int32) < z))
      have g10 := (own_gtF hu (by decide) : ¬ ((90 : Int32) < z))
      have g11 := (own_gtF hu (by decide) : ¬ ((122 : Int32) < z))
      have g12 := (own_gtT hl (by decide) : (57 : Int32) < z)
      have g13 := (own_gtF hu (by decide) : ¬ ((126 : Int32) < z))
      simp only [own_exp, own_b, g0, g1, g2, g3, g4, g5, g6, g7, g8, g9, g10, g11, g12, g13, if_true, if_false]
      try simp
  · refine ⟨.ref w_SPECIAL, ?_, ?_, by simp⟩
    · have f0 : (own_o z (1040 : Int32) (1071 : Int32) = true) := own_oL (own_ltT hu (by decide) : z < (1040 : Int32))
      have f1 : (own_o z (1025 : Int32) (1025 : Int32) = true) := own_oL (own_ltT hu (by decide) : z < (1025 : Int32))
      have f2 : (own_o z (1072 : Int32) (1103 : Int32) = true) := own_oL (own_ltT hu (by decide) : z < (1072 : Int32))
      have f3 : (own_o z (1105 : Int32) (1105 : Int32) = true) := own_oL (own_ltT hu (by decide) : z < (1105 : Int32))
      have f4 : (own_o z (65 : Int32) (90 : Int32) = true) := own_oH (own_gtT hl (by decide) : (90 : Int32) < z)
      have f5 : (own_o z (97 : Int32) (122 : Int32) = true) := own_oL (own_ltT hu (by decide) : z < (97 : Int32))
      have f6 : (own_o z (48 : Int32) (57 : Int32) = true) := own_oH (own_gtT hl (by decide) : (57 : Int32) < z)
      have f7 : (own_o z (33 : Int32) (47 : Int32) = true) := own_oH (own_gtT hl (by decide) : (47 : Int32) < z)
      have f8 : (own_o z (58 : Int32) (64 : Int32) = true) := own_oH (own_gtT hl (by decide) : (64 : Int32) < z)
      have f9 : ¬ (own_o z (91 : Int32) (96 : Int32) = true) := own_oF (own_ltF hl (by decide) : ¬ (z < (91 : Int32))) (own_gtF hu (by decide) : ¬ ((96 : Int32) < z))
      have f10 : (own_o z (123 : Int32) (126 : Int32) = true) := own_oL (own_ltT hu (by decide) : z < (123 : Int32))
      simp [own_cls, f0, f1, f2, f3, f4, f5, f6, f7, f8, f9, f10]
    · have g0 := (own_eqU hu (by decide) : ¬ (z = (1025 : Int32)))
      have g1 := (own_eqU hu (by decide) : ¬ (z = (1105 : Int32)))
      have g2 := (own_ltT hu (by decide) : z < (1040 : Int32))
      have g3 := (own_ltT hu (by decide) : z < (1072 : Int32))
      have g4 := (own_ltF hl (by decide) : ¬ (z < (65 : Int32)))
      have g5 := (own_ltT hu (by decide) : z < (97 : Int32))
      have g6 := (own_ltF hl (by decide) : ¬ (z < (48 : Int32)))
      have g7 := (own_ltF hl (by decide) : ¬ (z < (33 : Int32)))
      have g8 := (own_gtF hu (by decide) : ¬ ((1071 : Int32) < z))
      have g9 := (own_gtF hu (by decide) : ¬ ((1103 : Int32) < z))
      have g10 := (own_gtT hl (by decide) : (90 : Int32) < z)
      have g11 := (own_gtF hu (by decide) : ¬ ((122 : Int32) < z))
      have g12 := (own_gtT hl (by decide) : (57 : Int32) < z)
      have g13 := (own_gtF hu (by decide) : ¬ ((126 : Int32) < z))
      simp only [own_exp, own_b, g0, g1, g2, g3, g4, g5, g6, g7, g8, g9, g10, g11, g12, g13, if_true, if_false]
      try simp
  · refine ⟨.ref w_LATIN_LOWER, ?_, ?_, by simp⟩
    · have f0 : (own_o z (1040 : Int32) (1071 : Int32) = true) := own_oL (own_ltT hu (by decide) : z < (1040 : Int32))
      have f1 : (own_o z (1025 : Int32) (1025 : Int32) = true) := own_oL (own_ltT hu (by decide) : z < (1025 : Int32))
      have f2 : (own_o z (1072 : Int32) (1103 : Int32) = true) := own_oL (own_ltT hu (by decide) : z < (1072 : Int32))
      have f3 : (own_o z (1105 : Int32) (1105 : Int32) = true) := own_oL (own_ltT hu (by decide) : z < (1105 : Int32))
      have f4 : (own_o z (65 : Int32) (90 : Int32) = true) := own_oH (own_gtT hl (by decide) : (90 : Int32) < z)
      have f5 : ¬ (own_o z (97 : Int32) (122 : Int32) = true) := own_oF (own_ltF hl (by decide) : ¬ (z < (97 : Int32))) (own_gtF hu (by decide) : ¬ ((122 : Int32) < z))
      have f6 : (own_o z (48 : Int32) (57 : Int32) = true) := own_oH (own_gtT hl (by decide) : (57 : Int32) < z)
      have f7 : (own_o z (33 : Int32) (47 : Int32) = true) := own_oH (own_gtT hl (by decide) : (47 : Int32) < z)
      have f8 : (own_o z (58 : Int32) (64 : Int32) = true) := own_oH (own_gtT hl (by decide) : (64 : Int32) < z)
      have f9 : (own_o z (91 : Int32) (96 : Int32) = true) := own_oH (own_gtT hl (by decide) : (96 : Int32) < z)
      have f10 : (own_o z (123 : Int32) (126 : Int32) = true) := own_oL (own_ltT hu (by decide) : z < (123 : Int32))
      simp [own_cls, f0, f1, f2, f3, f4, f5, f6, f7, f8, f9, f10]
    · have g0 := (own_eqU hu (by decide) : ¬ (z = (1025 : Int32)))
      have g1 := (own_eqU hu (by decide) : ¬ (z = (1105 : Int32)))
      have g2 := (own_ltT hu (by decide) : z < (1040 : Int32))
      have g3 := (own_ltT hu (by decide) : z < (1072 : Int32))
      have g4 := (own_ltF hl (by decide) : ¬ (z < (65 : Int32)))
      have g5 := (own_ltF hl (by decide) : ¬ (z < (97 : Int32)))
      have g6 := (own_ltF hl (by decide) : ¬ (z < (48 : Int32)))
      have g7 := (own_ltF hl (by decide) : ¬ (z < (33 : Int32)))
      have g8 := (own_gtF hu (by decide) : ¬ ((1071 : Int32) < z))
      have g9 := (own_gtF hu (by decide) : ¬ ((1103 : Int32) < z))
      have g10 := (own_gtT hl (by decide) : (90 : Int32) < z)
      have g11 := (own_gtF hu (by decide) : ¬ ((122 : Int32) < z))
      have g12 := (own_gtT hl (by decide) : (57 : Int32) < z)
      have g13 := (own_gtF hu (by decide) : ¬ ((126 : Int32) < z))
      simp only [own_exp, own_b, g0, g1, g2, g3, g4, g5, g6, g7, g8, g9, g10, g11, g12, g13, if_true, if_false]
      try simp
  · refine ⟨.ref w_SPECIAL, ?_, ?_, by simp⟩
    · have f0 : (own_o z (1040 : Int32) (1071 : Int32) = true) := own_oL (own_ltT hu (by decide) : z < (1040 : Int32))
      have f1 : (own_o z (1025 : Int32) (1025 : Int32) = true) := own_oL (own_ltT hu (by decide) : z < (1025 : Int32))
      have f2 : (own_o z (1072 : Int32) (1103 : Int32) = true) := own_oL (own_ltT hu (by decide) : z < (1072 : Int32))
      have f3 : (own_o z (1105 : Int32) (1105 : Int32) = true) := own_oL (own_ltT hu (by decide) : z < (1105 : Int32))
      have f4 : (own_o z (65 : Int32) (90 : Int32) = true) := own_oH (own_gtT hl (by decide) : (90 : Int32) < z)
      have f5 : (own_o z (97 : Int32) (122 : Int32) = true) := own_oH (own_gtT hl (by decide) : (122 : Int32) < z)
      have f6 : (own_o z (48 : Int32) (57 : Int32) = true) := own_oH (own_gtT hl (by decide) : (57 : Int32) < z)
      have f7 : (own_o z (33 : Int32) (47 : Int32) = true) := own_oH (own_gtT hl (by decide) : (47 : Int32) < z)
      have f8 : (own_o z (58 : Int32) (64 : Int32) = true) := own_oH (own_gtT hl (by decide) : (64 : Int32) < z)
      have f9 : (own_o z (91 : Int32) (96 : Int32) = true) := own_oH (own_gtT hl (by decide) : (96 : Int32) < z)
      have f10 : ¬ (own_o z (123 : Int32) (126 : Int32) = true) := own_oF (own_ltF hl (by decide) : ¬ (z < (123 : Int32))) (own_gtF hu (by decide) : ¬ ((126 : Int32) < z))
      simp [own_cls, f0, f1, f2, f3, f4, f5, f6, f7, f8, f9, f10]
    · have g0 := (own_eqU hu (by decide) : ¬ (z = (1025 : Int32)))
      have g1 := (own_eqU hu (by decide) : ¬ (z = (1105 : Int32)))
      have g2 := (own_ltT hu (by decide) : z < (1040 : Int32))
      have g3 := (own_ltT hu (by decide) : z < (1072 : Int32))
      have g4 := (own_ltF hl (by decide) : ¬ (z < (65 : Int32)))
      have g5 := (own_ltF hl (by decide) : ¬ (z < (97 : Int32)))
      have g6 := (own_ltF hl (by decide) : ¬ (z < (48 : Int32)))
      have g7 := (own_ltF hl (by decide) : ¬ (z < (33 : Int32)))
      have g8 := (own_gtF hu (by decide) : ¬ ((1071 : Int32) < z))
      have g9 := (own_gtF hu (by decide) : ¬ ((1103 : Int32) < z))
      have g10 := (own_gtT hl (by decide) : (90 : Int32) < z)
      have g11 := (own_gtT hl (by decide) : (122 : Int32) < z)
      have g12 := (own_gtT hl (by decide) : (57 : Int32) < z)
      have g13 := (own_gtF hu (by decide) : ¬ ((126 : Int32) < z))
      simp only [own_exp, own_b, g0, g1, g2, g3, g4, g5, g6, g7, g8, g9, g10, g11, g12, g13, if_true, if_false]
      try simp
  · refine ⟨.null, ?_, ?_, by simp⟩
    · have f0 : (own_o z (1040 : Int32) (1071 : Int32) = true) := own_oL (own_ltT hu (by decide) : z < (1040 : Int32))
      have f1 : (own_o z (1025 : Int32) (1025 : Int32) = true) := own_oL (own_ltT hu (by decide) : z < (1025 : Int32))
      have f2 : (own_o z (1072 : Int32) (1103 : Int32) = true) := own_oL (own_ltT hu (by decide) : z < (1072 : Int32))
      have f3 : (own_o z (1105 : Int32) (1105 : Int32) = true) := own_oL (own_ltT hu (by decide) : z < (1105 : Int32))
      have f4 : (own_o z (65 : Int32) (90 : Int32) = true) := own_oH (own_gtT hl (by decide) : (90 : Int32) < z)
      have f5 : (own_o z (97 : Int32) (122 : Int32) = true) := own_oH (own_gtT hl (by decide) : (122 : Int32) < z)
      have f6 : (own_o z (48 : Int32) (57 : Int32) = true) := own_oH (own_gtT hl (by decide) : (57 : Int32) < z)
      have f7 : (own_o z (33 : Int32) (47 : Int32) = true) := own_oH (own_gtT hl (by decide) : (47 : Int32) < z)
      have f8 : (own_o z (58 : Int32) (64 : Int32) = true) := own_oH (own_gtT hl (by decide) : (64 : Int32) < z)
      have f9 : (own_o z (91 : Int32) (96 : Int32) = true) := own_oH (own_gtT hl (by decide) : (96 : Int32) < z)
      have f10 : (own_o z (123 : Int32) (126 : Int32) = true) := own_oH (own_gtT hl (by decide) : (126 : Int32) < z)
      simp [own_cls, f0, f1, f2, f3, f4, f5, f6, f7, f8, f9, f10]
    · have g0 := (own_eqU hu (by decide) : ¬ (z = (1025 : Int32)))
      have g1 := (own_eqU hu (by decide) : ¬ (z = (1105 : Int32)))
      have g2 := (own_ltT hu (by decide) : z < (1040 : Int32))
      have g3 := (own_ltT hu (by decide) : z < (1072 : Int32))
      have g4 := (own_ltF hl (by decide) : ¬ (z < (65 : Int32)))
      have g5 := (own_ltF hl (by decide) : ¬ (z < (97 : Int32)))
      have g6 := (own_ltF hl (by decide) : ¬ (z < (48 : Int32)))
      have g7 := (own_ltF hl (by decide) : ¬ (z < (33 : Int32)))
      have g8 := (own_gtF hu (by decide) : ¬ ((1071 : Int32) < z))
      have g9 := (own_gtF hu (by decide) : ¬ ((1103 : Int32) < z))
      have g10 := (own_gtT hl (by decide) : (90 : Int32) < z)
      have g11 := (own_gtT hl (by decide) : (122 : Int32) < z)
      have g12 := (own_gtT hl (by decide) : (57 : Int32) < z)
      have g13 := (own_gtT hl (by decide) : (126 : Int32) < z)
      simp only [own_exp, own_b, g0, g1, g2, g3, g4, g5, g6, g7, g8, g9, g10, g11, g12, g13, if_true, if_false]
      try simp
  · refine ⟨.ref w_CYRILLIC_UPPER, ?_, ?_, by simp⟩
    · have f0 : (own_o z (1040 : Int32) (1071 : Int32) = true) := own_oL (own_ltT hu (by decide) : z < (1040 : Int32))
      have f1 : ¬ (own_o z (1025 : Int32) (1025 : Int32) = true) := own_oF (own_ltF hl (by decide) : ¬ (z < (1025 : Int32))) (own_gtF hu (by decide) : ¬ ((1025 : Int32) < z))
      have f2 : (own_o z (1072 : Int32) (1103 : Int32) = true) := own_oL (own_ltT hu (by decide) : z < (1072 : Int32))
      have f3 : (own_o z (1105 : Int32) (1105 : Int32) = true) := own_oL (own_ltT hu (by decide) : z < (1105 : Int32))
      have f4 : (own_o z (65 : Int32) (90 : Int32) = true) := own_oH (own_gtT hl (by decide) : (90 : Int32) < z)
      have f5 : (own_o z (97 : Int32) (122 : Int32) = true) := own_oH (own_gtT hl (by decide) : (122 : Int32) < z)
      have f6 : (own_o z (48 : Int32) (57 : Int32) = true) := own_oH (own_gtT hl (by decide) : (57 : Int32) < z)
      have f7 : (own_o z (33 : Int32) (47 : Int32) = true) := own_oH (own_gtT hl (by decide) : (47 : Int32) < z)
      have f8 : (own_o z (58 : Int32) (64 : Int32) = true) := own_oH (own_gtT hl (by decide) : (64 : Int32) < z)
      have f9 : (own_o z (91 : Int32) (96 : Int32) = true) := own_oH (own_gtT hl (by decide) : (96 : Int32) < z)
      have f10 : (own_o z (123 : Int32) (126 : Int32) = true) := own_oH (own_gtT hl (by decide) : (126 : Int32) < z)
      simp [own_cls, f0, f1, f2, f3, f4, f5, f6, f7, f8, f9, f10]
    · have g0 := (own_eqT hl hu (by decide) (by decide) : z = (1025 : Int32))
      have g1 := (own_eqU hu (by decide) : ¬ (z = (1105 : Int32)))
      have g2 := (own_ltT hu (by decide) : z < (1040 : Int32))
      have g3 := (own_ltT hu (by decide) : z < (1072 : Int32))
      have g4 := (own_ltF hl (by decide) : ¬ (z < (65 : Int32)))
      have g5 := (own_ltF hl (by decide) : ¬ (z < (97 : Int32)))
      have g6 := (own_ltF hl (by decide) : ¬ (z < (48 : Int32)))
      have g7 := (own_ltF hl (by decide) : ¬ (z < (33 : Int32)))
      have g8 := (own_gtF hu (by decide) : ¬ ((1071 : Int32) < z))
      have g9 := (own_gtF hu (by decide) : ¬ ((1103 : Int32) < z))
      have g10 := (own_gtT hl (by decide) : (90 : Int32) < z)
      have g11 := (own_gtT hl (by decide) : (122 : Int32) < z)
      have g12 := (own_gtT hl (by decide) : (57 : Int32) < z)
      have g13 := (own_gtT hl (by decide) : (126 : Int32) < z)
      simp only [own_exp, own_b, g0, g1, g2, g3, g4, g5, g6, g7, g8, g9, g10, g11, g12, g13, if_true, if_false]
      try simp
  · refine ⟨.null, ?_, ?_, by simp⟩
    · have f0 : (own_o z (1040 : Int32) (1071 : Int32) = true) := own_oL (own_ltT hu (by decide) : z < (1040 : Int32))
      have f1 : (own_o z (1025 : Int32) (1025 : Int32) = true) := own_oH (own_gtT hl (by decide) : (1025 : Int32) < z)
      have f2 : (own_o z (1072 : Int32) (1103 : Int32) = true) := own_oL (own_ltT hu (by decide) : z < (1072 : Int32))
      have f3 : (own_o z (1105 : Int32) (1105 : Int32) = true) := own_oL (own_ltT hu (by decide) : z < (1105 : Int32))
      have f4 : (own_o z (65 : Int32) (90 : Int32) = true) := own_oH (own_gtT hl (by decide) : (90 : Int32) < z)
      have f5 : (own_o z (97 : Int32) (122 : Int32) = true) := own_oH (own_gtT hl (by decide) : (122 : Int32) < z)
      have f6 : (own_o z (48 : Int32) (57 : Int32) = true) := own_oH (own_gtT hl (by decide) : (57 : Int32) < z)
      have f7 : (own_o z (33 : Int32) (47 : Int32) = true) := own_oH (own_gtT hl (by decide) : (47 : Int32) < z)
      have f8 : (own_o z (58 : Int32) (64 : Int32) = true) := own_oH (own_gtT hl (by decide) : (64 : Int32) < z)
      have f9 : (own_o z (91 : Int32) (96 : Int32) = true) := own_oH (own_gtT hl (by decide) : (96 : Int32) < z)
      have f10 : (own_o z (123 : Int32) (126 : Int32) = true) := own_oH (own_gtT hl (by decide) : (126 : Int32) < z)
      simp [own_cls, f0, f1, f2, f3, f4, f5, f6, f7, f8, f9, f10]
    · have g0 := (own_eqL hl (by decide) : ¬ (z = (1025 : Int32)))
      have g1 := (own_eqU hu (by decide) : ¬ (z = (1105 : Int32)))
      have g2 := (own_ltT hu (by decide) : z < (1040 : Int32))
      have g3 := (own_ltT hu (by decide) : z < (1072 : Int32))
      have g4 := (own_ltF hl (by decide) : ¬ (z < (65 : Int32)))
      have g5 := (own_ltF hl (by decide) : ¬ (z < (97 : Int32)))
      have g6 := (own_ltF hl (by decide) : ¬ (z < (48 : Int32)))
      have g7 := (own_ltF hl (by decide) : ¬ (z < (33 : Int32)))
      have g8 := (own_gtF hu (by decide) : ¬ ((1071 : Int32) < z))
      have g9 := (own_gtF hu (by decide) : ¬ ((1103 : Int32) < z))
      have g10 := (own_gtT hl (by decide) : (90 : Int32) < z)
      have g11 := (own_gtT hl (by decide) : (122 : Int32) < z)
      have g12 := (own_gtT hl (by decide) : (57 : Int32) < z)
      have g13 := (own_gtT hl (by decide) : (126 : Int32) < z)
      simp only [own_exp, own_b, g0, g1, g2, g3, g4, g5, g6, g7, g8, g9, g10, g11, g12, g13, if_true, if_false]
      try simp
  · refine ⟨.ref w_CYRILLIC_UPPER, ?_, ?_, by simp⟩
    · have f0 : ¬ (own_o z (1040 : Int32) (1071 : Int32) = true) := own_oF (own_ltF hl (by decide) : ¬ (z < (1040 : Int32))) (own_gtF hu (by decide) : ¬ ((1071 : Int32) < z))
      have f1 : (own_o z (1025 : Int32) (1025 : Int32) = true) := own_oH (own_gtT hl (by decide) : (1025 : Int32) < z)
      have f2 : (own_o z (1072 : Int32) (1103 : Int32) = true) := own_oL (own_ltT hu (by decide) : z < (1072 : Int32))
      have f3 : (own_o z (1105 : Int32) (1105 : Int32) = true) := own_oL (own_ltT hu (by decide) : z < (1105 : Int32))
      have f4 : (own_o z (65 : Int32) (90 : Int32) = true) := own_oH (own_gtT hl (by decide) : (90 : Int32) < z)
      have f5 : (own_o z (97 : Int32) (122 : Int32) = true) := own_oH (own_gtT hl (by decide) : (122 : Int32) < z)
      have f6 : (own_o z (48 : Int32) (57 : Int32) = true) := own_oH (own_gtT hl (by decide) : (57 : Int32) < z)
      have f7 : (own_o z (33 : Int32) (47 : Int32) = true) := own_oH (own_gtT hl (by decide) : (47 : Int32) < z)
      have f8 : (own_o z (58 : Int32) (64 : Int32) = true) := own_oH (own_gtT hl (by decide) : (64 : Int32) < z)
      have f9 : (own_o z (91 : Int32) (96 : Int32) = true) := own_oH (own_gtT hl (by decide) : (96 : Int32) < z)
      have f10 : (own_o z (123 : Int32) (126 : Int32) = true) := own_oH (own_gtT hl (by decide) : (126 : Int32) < z)
      simp [own_cls, f0, f1, f2, f3, f4, f5, f6, f7, f8, f9, f10]
    · have g0 := (own_eqL hl (by decide) : ¬ (z = (1025 : Int32)))
      have g1 := (own_eqU hu (by decide) : ¬ (z = (1105 : Int32)))
      have g2 := (own_ltF hl (by decide) : ¬ (z < (1040 : Int32)))
      have g3 := (own_ltT hu (by decide) : z < (1072 : Int32))
      have g4 := (own_ltF hl (by decide) : ¬ (z < (65 : Int32)))
      have g5 := (own_ltF hl (by decide) : ¬ (z < (97 : Int32)))
      have g6 := (own_ltF hl (by decide) : ¬ (z < (48 : Int32)))
      have g7 := (own_ltF hl (by decide) : ¬ (z < (33 : Int32)))
      have g8 := (own_gtF hu (by decide) : ¬ ((1071 : Int32) < z))
      have g9 := (own_gtF hu (by decide) : ¬ ((1103 : Int32) < z))
      have g10 := (own_gtT hl (by decide) : (90 : Int32) < z)
      have g11 := (own_gtT hl (by decide) : (122 : Int32) < z)
      have g12 := (own_gtT hl (by decide) : (57 : Int32) < z)
      have g13 := (own_gtT hl (by decide) : (126 : Int32) < z)
      simp only [own_exp, own_b, g0, g1, g2, g3, g4, g5, g6, g7, g8, g9, g10, g11, g12, g13, if_true, if_false]
      try simp
  · refine ⟨.ref w_CYRILLIC_LOWER, ?_, ?_, by simp⟩
    · have f0 : (own_o z (1040 : Int32) (1071 : Int32) = true) := own_oH (own_gtT hl (by decide) : (1071 : Int32) < z)
      have f1 : (own_o z (1025 : Int32) (1025 : Int32) = true) := own_oH (own_gtT hl (by decide) : (1025 : Int32) < z)
      have f2 : ¬ (own_o z (1072 : Int32) (1103 : Int32) = true) := own_oF (own_ltF hl (by decide) : ¬ (z < (1072 : Int32))) (own_gtF hu (by decide) : ¬ ((1103 : Int32) < z))
      have f3 : (own_o z (1105 : Int32) (1105 : Int32) = true) := own_oL (own_ltT hu (by decide) : z < (1105 : Int32))
      have f4 : (own_o z (65 : Int32) (90 : Int32) = true) := own_oH (own_gtT hl (by decide) : (90 : Int32) < z)
      have f5 : (own_o z (97 : Int32) (122 : Int32) = true) := own_oH (own_gtT hl (by decide) : (122 : Int32) < z)
      have f6 : (own_o z (48 : Int32) (57 : Int32) = true) := own_oH (own_gtT hl (by decide) : (57 : Int32) < z)
      have f7 : (own_o z (33 : Int32) (47 : Int32) = true) := own_oH (own_gtT hl (by decide) : (47 : Int32) < z)
      have f8 : (own_o z (58 : Int32) (64 : Int32) = true) := own_oH (own_gtT hl (by decide) : (64 : Int32) < z)
      have f9 : (own_o z (91 : Int32) (96 : Int32) = true) := own_oH (own_gtT hl (by decide) : (96 : Int32) < z)
      have f10 : (own_o z (123 : Int32) (126 : Int32) = true) := own_oH (own_gtT hl (by decide) : (126 : Int32) < z)
      simp [own_cls, f0, f1, f2, f3, f4, f5, f6, f7, f8, f9, f10]
    · have g0 := (own_eqL hl (by decide) : ¬ (z = (1025 : Int32)))
      have g1 := (own_eqU hu (by decide) : ¬ (z = (1105 : Int32)))
      have g2 := (own_ltF hl (by decide) : ¬ (z < (1040 : Int32)))
      have g3 := (own_ltF hl (by decide) : ¬ (z < (1072 : Int32)))
      have g4 := (own_ltF hl (by decide) : ¬ (z < (65 : Int32)))
      have g5 := (own_ltF hl (by decide) : ¬ (z < (97 : Int32)))
      have g6 := (own_ltF hl (by decide) : ¬ (z < (48 : Int32)))
      have g7 := (own_ltF hl (by decide) : ¬ (z < (33 : Int32)))
      have g8 := (own_gtT hl (by decide) : (1071 : Int32) < z)
      have g9 := (own_gtF hu (by decide) : ¬ ((1103 : Int32) < z))
      have g10 := (own_gtT hl (by decide) : (90 : Int32) < z)
      have g11 := (own_gtT hl (by decide) : (122 : Int32) < z)
      have g12 := (own_gtT hl (by decide) : (57 : Int32) < z)
      have g13 := (own_gtT hl (by decide) : (126 : Int32) < z)
      simp only [own_exp, own_b, g0, g1, g2, g3, g4, g5, g6, g7, g8, g9, g10, g11, g12, g13, if_true, if_false]
      try simp
  · refine ⟨.null, ?_, ?_, by simp⟩
    · have f0 : (own_o z (1040 : Int32) (1071 : Int32) = true) := own_oH (own_gtT hl (by decide) : (1071 : Int32) < z)
      have f1 : (own_o z (1025 : Int32) (1025 : Int32) = true) := own_oH (own_gtT hl (by decide) : (1025 : Int32) < z)
      have f2 : (own_o z (1072 : Int32) (1103 : Int32) = true) := own_oH (own_gtT hl (by decide) : (1103 : Int32) < z)
      have f3 : (own_o z (1105 : Int32) (1105 : Int32) = true) := own_oL (own_ltT hu (by decide) : z < (1105 : Int32))
      have f4 : (own_o z (65 : Int32) (90 : Int32) = true) := own_oH (own_gtT hl (by decide) : (90 : Int32) < z)
      have f5 : (own_o z (97 : Int32) (122 : Int32) = true) := own_oH (own_gtT hl (by decide) : (122 : Int32) < z)
      have f6 : (own_o z (48 : Int32) (57 : Int32) = true) := own_oH (own_gtT hl (by decide) : (57 : Int32) < z)
      have f7 : (own_o z (33 : Int32) (47 : Int32) = true) := own_oH (own_gtT hl (by decide) : (47 : Int32) < z)
      have f8 : (own_o z (58 : Int32) (64 : Int32) = true) := own_oH (own_gtT hl (by decide) : (64 : Int32) < z)
      have f9 : (own_o z (91 : Int32) (96 : Int32) = true) := own_oH (own_gtT hl (by decide) : (96 : Int32) < z)
      have f10 : (own_o z (123 : Int32) (126 : Int32) = true) := own_oH (own_gtT hl (by decide) : (126 : Int32) < z)
      simp [own_cls, f0, f1, f2, f3, f4, f5, f6, f7, f8, f9, f10]
    · have g0 := (own_eqL hl (by decide) : ¬ (z = (1025 : Int32)))
      have g1 := (own_eqU hu (by decide) : ¬ (z = (1105 : Int32)))
      have g2 := (own_ltF hl (by decide) : ¬ (z < (1040 : Int32)))
      have g3 := (own_ltF hl (by decide) : ¬ (z < (1072 : Int32)))
      have g4 := (own_ltF hl (by decide) : ¬ (z < (65 : Int32)))
      have g5 := (own_ltF hl (by decide) : ¬ (z < (97 : Int32)))
      have g6 := (own_ltF hl (by decide) : ¬ (z < (48 : Int32)))
      have g7 := (own_ltF hl (by decide) : ¬ (z < (33 : Int32)))
      have g8 := (own_gtT hl (by decide) : (1071 : Int32) < z)
      have g9 := (own_gtT hl (by decide) : (1103 : Int32) < z)
      have g10 := (own_gtT hl (by decide) : (90 : Int32) < z)
      have g11 := (own_gtT hl (by decide) : (122 : Int32) < z)
      have g12 := (own_gtT hl (by decide) : (57 : Int32) < z)
      have g13 := (own_gtT hl (by decide) : (126 : Int32) < z)
      simp only [own_exp, own_b, g0, g1, g2, g3, g4, g5, g6, g7, g8, g9, g10, g11, g12, g13, if_true, if_false]
      try simp
  · refine ⟨.ref w_CYRILLIC_LOWER, ?_, ?_, by simp⟩
    · have f0 : (own_o z (1040 : Int32) (1071 : Int32) = true) := own_oH (own_gtT hl (by decide) : (1071 : Int32) < z)
      have f1 : (own_o z (1025 : Int32) (1025 : Int32) = true) := own_oH (own_gtT hl (by decide) : (1025 : Int32) < z)
      have f2 : (own_o z (1072 : Int32) (1103 : Int32) = true) := own_oH (own_gtT hl (by decide) : (1103 : Int32) < z)
      have f3 : ¬ (own_o z (1105 : Int32) (1105 : Int32) = true) := own_oF (own_ltF hl (by decide) : ¬ (z < (1105 : Int32))) (own_gtF hu (by decide) : ¬ ((1105 : Int32) < z))
      have f4 : (own_o z (65 : Int32) (90 : Int32) = true) := own_oH (own_gtT hl (by decide) : (90 : Int32) < z)
      have f5 : (own_o z (97 : Int32) (122 : Int32) = true) := own_oH (own_gtT hl (by decide) : (122 : Int32) < z)
      have f6 : (own_o z (48 : Int32) (57 : Int32) = true) := own_oH (own_gtT hl (by decide) : (57 : Int32) < z)
      have f7 : (own_o z (33 : Int32) (47 : Int32) = true) := own_oH (own_gtT hl (by decide) : (47 : Int32) < z)
      have f8 : (own_o z (58 : Int32) (64 : Int32) = true) := own_oH (own_gtT hl (by decide) : (64 : Int32) < z)
      have f9 : (own_o z (91 : Int32) (96 : Int32) = true) := own_oH (own_gtT hl (by decide) : (96 : Int32) < z)
      have f10 : (own_o z (123 : Int32) (126 : Int32) = true) := own_oH (own_gtT hl (by decide) : (126 : Int32) < z)
      simp [own_cls, f0, f1, f2, f3, f4, f5, f6, f7, f8, f9, f10]
    · have g0 := (own_eqL hl (by decide) : ¬ (z = (1025 : Int32)))
      have g1 := (own_eqT hl hu (by decide) (by decide) : z = (1105 : Int32))
      have g2 := (own_ltF hl (by decide) : ¬ (z < (1040 : Int32)))
      have g3 := (own_ltF hl (by decide) : ¬ (z < (1072 : Int32)))
      have g4 := (own_ltF hl (by decide) : ¬ (z < (65 : Int32)))
      have g5 := (own_ltF hl (by decide) : ¬ (z < (97 : Int32)))
      have g6 := (own_ltF hl (by decide) : ¬ (z < (48 : Int32)))
      have g7 := (own_ltF hl (by decide) : ¬ (z < (33 : Int32)))
      have g8 := (own_gtT hl (by decide) : (1071 : Int32) < z)
      have g9 := (own_gtT hl (by decide) : (1103 : Int32) < z)
      have g10 := (own_gtT hl (by decide) : (90 : Int32) < z)
      have g11 := (own_gtT hl (by decide) : (122 : Int32) < z)
      have g12 := (own_gtT hl (by decide) : (57 : Int32) < z)
      have g13 := (own_gtT hl (by decide) : (126 : Int32) < z)
      simp only [own_exp, own_b, g0, g1, g2, g3, g4, g5, g6, g7, g8, g9, g10, g11, g12, g13, if_true, if_false]
      try simp
  · refine ⟨.null, ?_, ?_, by simp⟩
    · have f0 : (own_o z (1040 : Int32) (1071 : Int32) = true) := own_oH (own_gtT hl (by decide) : (1071 : Int32) < z)
      have f1 : (own_o z (1025 : Int32) (1025 : Int32) = true) := own_oH (own_gtT hl (by decide) : (1025 : Int32) < z)
      have f2 : (own_o z (1072 : Int32) (1103 : Int32) = true) := own_oH (own_gtT hl (by decide) : (1103 : Int32) < z)
      have f3 : (own_o z (1105 : Int32) (1105 : Int32) = true) := own_oH (own_gtT hl (by decide) : (1105 : Int32) < z)
      have f4 : (own_o z (65 : Int32) (90 : Int32) = true) := own_oH (own_gtT hl (by decide) : (90 : Int32) < z)
      have f5 : (own_o z (97 : Int32) (122 : Int32) = true) := own_oH (own_gtT hl (by decide) : (122 : Int32) < z)
      have f6 : (own_o z (48 : Int32) (57 : Int32) = true) := own_oH (own_gtT hl (by decide) : (57 : Int32) < z)
      have f7 : (own_o z (33 : Int32) (47 : Int32) = true) := own_oH (own_gtT hl (by decide) : (47 : Int32) < z)
      have f8 : (own_o z (58 : Int32) (64 : Int32) = true) := own_oH (own_gtT hl (by decide) : (64 : Int32) < z)
      have f9 : (own_o z (91 : Int32) (96 : Int32) = true) := own_oH (own_gtT hl (by decide) : (96 : Int32) < z)
      have f10 : (own_o z (123 : Int32) (126 : Int32) = true) := own_oH (own_gtT hl (by decide) : (126 : Int32) < z)
      simp [own_cls, f0, f1, f2, f3, f4, f5, f6, f7, f8, f9, f10]
    · have g0 := (own_eqL hl (by decide) : ¬ (z = (1025 : Int32)))
      have g1 := (own_eqL hl (by decide) : ¬ (z = (1105 : Int32)))
      have g2 := (own_ltF hl (by decide) : ¬ (z < (1040 : Int32)))
      have g3 := (own_ltF hl (by decide) : ¬ (z < (1072 : Int32)))
      have g4 := (own_ltF hl (by decide) : ¬ (z < (65 : Int32)))
      have g5 := (own_ltF hl (by decide) : ¬ (z < (97 : Int32)))
      have g6 := (own_ltF hl (by decide) : ¬ (z < (48 : Int32)))
      have g7 := (own_ltF hl (by decide) : ¬ (z < (33 : Int32)))
      have g8 := (own_gtT hl (by decide) : (1071 : Int32) < z)
      have g9 := (own_gtT hl (by decide) : (1103 : Int32) < z)
      have g10 := (own_gtT hl (by decide) : (90 : Int32) < z)
      have g11 := (own_gtT hl (by decide) : (122 : Int32) < z)
      have g12 := (own_gtT hl (by decide) : (57 : Int32) < z)
      have g13 := (own_gtT hl (by decide) : (126 : Int32) < z)
      simp only [own_exp, own_b, g0, g1, g2, g3, g4, g5, g6, g7, g8, g9, g10, g11, g12, g13, if_true, if_false]
      try simp
def own_F (Z : State) (h : Heap) (w__VALUES w_CYRILLIC_UPPER w_CYRILLIC_LOWER w_LATIN_UPPER w_LATIN_LOWER w_DIGITS w_SPECIAL w_EMPTY r_ranges_CYRILLIC_UPPER r_ranges_CYRILLIC_LOWER r_ranges_LATIN_UPPER r_ranges_LATIN_LOWER r_ranges_DIGITS r_ranges_SPECIAL : Addr) (k__VALUES k_ranges_CYRILLIC_UPPER k_ranges_CYRILLIC_LOWER k_ranges_LATIN_UPPER k_ranges_LATIN_LOWER k_ranges_DIGITS k_ranges_SPECIAL : ClassId) : Prop :=
  Sta Z h "com/example/kormilo/kormilo/CharacterClass" "$VALUES" "[Lcom/example/kormilo/kormilo/CharacterClass;" (.ref w__VALUES) ∧
  Exa Z h w__VALUES "[Lcom/example/kormilo/kormilo/CharacterClass;" ∧
  Sta Z h "com/example/kormilo/kormilo/CharacterClass" "CYRILLIC_UPPER" "Lcom/example/kormilo/kormilo/CharacterClass;" (.ref w_CYRILLIC_UPPER) ∧
  Exa Z h w_CYRILLIC_UPPER "com/example/kormilo/kormilo/CharacterClass" ∧
  Sta Z h "com/example/kormilo/kormilo/CharacterClass" "CYRILLIC_LOWER" "Lcom/example/kormilo/kormilo/CharacterClass;" (.ref w_CYRILLIC_LOWER) ∧
  Exa Z h w_CYRILLIC_LOWER "com/example/kormilo/kormilo/CharacterClass" ∧
  Sta Z h "com/example/kormilo/kormilo/CharacterClass" "LATIN_UPPER" "Lcom/example/kormilo/kormilo/CharacterClass;" (.ref w_LATIN_UPPER) ∧
  Exa Z h w_LATIN_UPPER "com/example/kormilo/kormilo/CharacterClass" ∧
  Sta Z h "com/example/kormilo/kormilo/CharacterClass" "LATIN_LOWER" "Lcom/example/kormilo/kormilo/CharacterClass;" (.ref w_LATIN_LOWER) ∧
  Exa Z h w_LATIN_LOWER "com/example/kormilo/kormilo/CharacterClass" ∧
  Sta Z h "com/example/kormilo/kormilo/CharacterClass" "DIGITS" "Lcom/example/kormilo/kormilo/CharacterClass;" (.ref w_DIGITS) ∧
  Exa Z h w_DIGITS "com/example/kormilo/kormilo/CharacterClass" ∧
  Sta Z h "com/example/kormilo/kormilo/CharacterClass" "SPECIAL" "Lcom/example/kormilo/kormilo/CharacterClass;" (.ref w_SPECIAL) ∧
  Exa Z h w_SPECIAL "com/example/kormilo/kormilo/CharacterClass" ∧
  Sta Z h "java/util/Optional" "EMPTY" "Ljava/util/Optional;" (.ref w_EMPTY) ∧
  Exa Z h w_EMPTY "java/util/Optional" ∧
  Fld Z h w_CYRILLIC_UPPER "com/example/kormilo/kormilo/CharacterClass" "ranges" "[I" (.ref r_ranges_CYRILLIC_UPPER) ∧
  Fld Z h w_CYRILLIC_LOWER "com/example/kormilo/kormilo/CharacterClass" "ranges" "[I" (.ref r_ranges_CYRILLIC_LOWER) ∧
  Fld Z h w_LATIN_UPPER "com/example/kormilo/kormilo/CharacterClass" "ranges" "[I" (.ref r_ranges_LATIN_UPPER) ∧
  Fld Z h w_LATIN_LOWER "com/example/kormilo/kormilo/CharacterClass" "ranges" "[I" (.ref r_ranges_LATIN_LOWER) ∧
  Fld Z h w_DIGITS "com/example/kormilo/kormilo/CharacterClass" "ranges" "[I" (.ref r_ranges_DIGITS) ∧
  Fld Z h w_SPECIAL "com/example/kormilo/kormilo/CharacterClass" "ranges" "[I" (.ref r_ranges_SPECIAL) ∧
  Fld Z h w_EMPTY "java/util/Optional" "value" "Ljava/lang/Object;" .null ∧
  Arv Z h w__VALUES k__VALUES (.object "com/example/kormilo/kormilo/CharacterClass") (6 : Int32) [(.ref w_CYRILLIC_UPPER), (.ref w_CYRILLIC_LOWER), (.ref w_LATIN_UPPER), (.ref w_LATIN_LOWER), (.ref w_DIGITS), (.ref w_SPECIAL)] .null ∧
  Arv Z h r_ranges_CYRILLIC_UPPER k_ranges_CYRILLIC_UPPER .int (4 : Int32) [(.int (1040 : Int32)), (.int (1071 : Int32)), (.int (1025 : Int32)), (.int (1025 : Int32))] (.int (0 : Int32)) ∧
  Arv Z h r_ranges_CYRILLIC_LOWER k_ranges_CYRILLIC_LOWER .int (4 : Int32) [(.int (1072 : Int32)), (.int (1103 : Int32)), (.int (1105 : Int32)), (.int (1105 : Int32))] (.int (0 : Int32)) ∧
  Arv Z h r_ranges_LATIN_UPPER k_ranges_LATIN_UPPER .int (2 : Int32) [(.int (65 : Int32)), (.int (90 : Int32))] (.int (0 : Int32)) ∧
  Arv Z h r_ranges_LATIN_LOWER k_ranges_LATIN_LOWER .int (2 : Int32) [(.int (97 : Int32)), (.int (122 : Int32))] (.int (0 : Int32)) ∧
  Arv Z h r_ranges_DIGITS k_ranges_DIGITS .int (2 : Int32) [(.int (48 : Int32)), (.int (57 : Int32))] (.int (0 : Int32)) ∧
  Arv Z h r_ranges_SPECIAL k_ranges_SPECIAL .int (8 : Int32) [(.int (33 : Int32)), (.int (47 : Int32)), (.int (58 : Int32)), (.int (64 : Int32)), (.int (91 : Int32)), (.int (96 : Int32)), (.int (123 : Int32)), (.int (126 : Int32))] (.int (0 : Int32))
theorem own_F_ext {Z : State} {h h' : Heap} {w__VALUES w_CYRILLIC_UPPER w_CYRILLIC_LOWER w_LATIN_UPPER w_LATIN_LOWER w_DIGITS w_SPECIAL w_EMPTY r_ranges_CYRILLIC_UPPER r_ranges_CYRILLIC_LOWER r_ranges_LATIN_UPPER r_ranges_LATIN_LOWER r_ranges_DIGITS r_ranges_SPECIAL : Addr} {k__VALUES k_ranges_CYRILLIC_UPPER k_ranges_CYRILLIC_LOWER k_ranges_LATIN_UPPER k_ranges_LATIN_LOWER k_ranges_DIGITS k_ranges_SPECIAL : ClassId} (F : own_F Z h w__VALUES w_CYRILLIC_UPPER w_CYRILLIC_LOWER w_LATIN_UPPER w_LATIN_LOWER w_DIGITS w_SPECIAL w_EMPTY r_ranges_CYRILLIC_UPPER r_ranges_CYRILLIC_LOWER r_ranges_LATIN_UPPER r_ranges_LATIN_LOWER r_ranges_DIGITS r_ranges_SPECIAL k__VALUES k_ranges_CYRILLIC_UPPER k_ranges_CYRILLIC_LOWER k_ranges_LATIN_UPPER k_ranges_LATIN_LOWER k_ranges_DIGITS k_ranges_SPECIAL) (X : Ext h h') : own_F Z h' w__VALUES w_CYRILLIC_UPPER w_CYRILLIC_LOWER w_LATIN_UPPER w_LATIN_LOWER w_DIGITS w_SPECIAL w_EMPTY r_ranges_CYRILLIC_UPPER r_ranges_CYRILLIC_LOWER r_ranges_LATIN_UPPER r_ranges_LATIN_LOWER r_ranges_DIGITS r_ranges_SPECIAL k__VALUES k_ranges_CYRILLIC_UPPER k_ranges_CYRILLIC_LOWER k_ranges_LATIN_UPPER k_ranges_LATIN_LOWER k_ranges_DIGITS k_ranges_SPECIAL := by
  obtain ⟨S__VALUES, E__VALUES, S_CYRILLIC_UPPER, E_CYRILLIC_UPPER, S_CYRILLIC_LOWER, E_CYRILLIC_LOWER, S_LATIN_UPPER, E_LATIN_UPPER, S_LATIN_LOWER, E_LATIN_LOWER, S_DIGITS, E_DIGITS, S_SPECIAL, E_SPECIAL, S_EMPTY, E_EMPTY, F_ranges_CYRILLIC_UPPER, F_ranges_CYRILLIC_LOWER, F_ranges_LATIN_UPPER, F_ranges_LATIN_LOWER, F_ranges_DIGITS, F_ranges_SPECIAL, F_value_EMPTY, V__VALUES, V_ranges_CYRILLIC_UPPER, V_ranges_CYRILLIC_LOWER, V_ranges_LATIN_UPPER, V_ranges_LATIN_LOWER, V_ranges_DIGITS, V_ranges_SPECIAL⟩ := F
  exact ⟨S__VALUES.ext X, E__VALUES.ext X, S_CYRILLIC_UPPER.ext X, E_CYRILLIC_UPPER.ext X, S_CYRILLIC_LOWER.ext X, E_CYRILLIC_LOWER.ext X, S_LATIN_UPPER.ext X, E_LATIN_UPPER.ext X, S_LATIN_LOWER.ext X, E_LATIN_LOWER.ext X, S_DIGITS.ext X, E_DIGITS.ext X, S_SPECIAL.ext X, E_SPECIAL.ext X, S_EMPTY.ext X, E_EMPTY.ext X, F_ranges_CYRILLIC_UPPER.ext X, F_ranges_CYRILLIC_LOWER.ext X, F_ranges_LATIN_UPPER.ext X, F_ranges_LATIN_LOWER.ext X, F_ranges_DIGITS.ext X, F_ranges_SPECIAL.ext X, F_value_EMPTY.ext X, V__VALUES.ext X, V_ranges_CYRILLIC_UPPER.ext X, V_ranges_CYRILLIC_LOWER.ext X, V_ranges_LATIN_UPPER.ext X, V_ranges_LATIN_LOWER.ext X, V_ranges_DIGITS.ext X, V_ranges_SPECIAL.ext X⟩
theorem d2_0 : decode prog_5_method_1_code 0 = .ok (.getstatic 22, 3) := by decide +kernel
theorem d2_3 : decode prog_5_method_1_code 3 = .ok (.invokevirtual 26, 3) := by decide +kernel
theorem d2_6 : decode prog_5_method_1_code 6 = .ok (.checkcast 27, 3) := by decide +kernel
theorem d2_9 : decode prog_5_method_1_code 9 = .ok (.areturn, 1) := by decide +kernel
set_option maxRecDepth 65536 in
set_option maxHeartbeats 40000000 in
theorem own_values (l : Launch) (Z : State) (a0 : Array Value) (hw : ∀ d ∈ tables_1, d.before a0 Z = true) (ws : List Jvm.Cond) (w__VALUES w_CYRILLIC_UPPER w_CYRILLIC_LOWER w_LATIN_UPPER w_LATIN_LOWER w_DIGITS w_SPECIAL w_EMPTY r_ranges_CYRILLIC_UPPER r_ranges_CYRILLIC_LOWER r_ranges_LATIN_UPPER r_ranges_LATIN_LOWER r_ranges_DIGITS r_ranges_SPECIAL : Addr) (k__VALUES k_ranges_CYRILLIC_UPPER k_ranges_CYRILLIC_LOWER k_ranges_LATIN_UPPER k_ranges_LATIN_LOWER k_ranges_DIGITS k_ranges_SPECIAL : ClassId) (h0 : Heap) (F : own_F Z h0 w__VALUES w_CYRILLIC_UPPER w_CYRILLIC_LOWER w_LATIN_UPPER w_LATIN_LOWER w_DIGITS w_SPECIAL w_EMPTY r_ranges_CYRILLIC_UPPER r_ranges_CYRILLIC_LOWER r_ranges_LATIN_UPPER r_ranges_LATIN_LOWER r_ranges_DIGITS r_ranges_SPECIAL k__VALUES k_ranges_CYRILLIC_UPPER k_ranges_CYRILLIC_LOWER k_ranges_LATIN_UPPER k_ranges_LATIN_LOWER k_ranges_DIGITS k_ranges_SPECIAL)  :
    own_C l (⟨"com/example/kormilo/kormilo/CharacterClass", "values", "()[Lcom/example/kormilo/kormilo/CharacterClass;"⟩ : MethodName) prog_5_method_1_code 0 (some (.array (.object "com/example/kormilo/kormilo/CharacterClass"))) ws (own_RC 1 1 6 14) #[] Z h0 (own_QA (some (.ref h0.size)) h0 (fun h' => Arv Z h' h0.size k__VALUES (.object "com/example/kormilo/kormilo/CharacterClass") (6 : Int32) [(.ref w_CYRILLIC_UPPER), (.ref w_CYRILLIC_LOWER), (.ref w_LATIN_UPPER), (.ref w_LATIN_LOWER), (.ref w_DIGITS), (.ref w_SPECIAL)] .null)) := by
  have F0 := F
  obtain ⟨S__VALUES, E__VALUES, S_CYRILLIC_UPPER, E_CYRILLIC_UPPER, S_CYRILLIC_LOWER, E_CYRILLIC_LOWER, S_LATIN_UPPER, E_LATIN_UPPER, S_LATIN_LOWER, E_LATIN_LOWER, S_DIGITS, E_DIGITS, S_SPECIAL, E_SPECIAL, S_EMPTY, E_EMPTY, F_ranges_CYRILLIC_UPPER, F_ranges_CYRILLIC_LOWER, F_ranges_LATIN_UPPER, F_ranges_LATIN_LOWER, F_ranges_DIGITS, F_ranges_SPECIAL, F_value_EMPTY, V__VALUES, V_ranges_CYRILLIC_UPPER, V_ranges_CYRILLIC_LOWER, V_ranges_LATIN_UPPER, V_ranges_LATIN_LOWER, V_ranges_DIGITS, V_ranges_SPECIAL⟩ := F
  refine own_enter (LS := #[]) (plainFor_of_name (by first | (simp [plainName, overriddenIn, x]; done) | decide +kernel)) (fun m => by first | (simp [entryFrame, mkF, argsToLocals, Value.category, maxLocals]; done) | rfl) ?_
  intro p e s m below meth c s₁ hx hby hml hown0 hnm hret hlk hZ X0 e0 hsh
  have hown : s.vm.findClass "com/example/kormilo/kormilo/CharacterClass" = some m.cls := hown0
  obtain ⟨T1, X1, e1, st1⟩ := getS2 X0 hx hZ hown (host := "") (Or.inl (hw _ (List.mem_of_getElem? (i := 7) rfl))) Via.refl e0 S__VALUES (g := (mkF m 0 #[] [])) rfl (hb hby d2_0)
  refine own_pre (T' := T1) (f' := (mkF m 3 #[] [(.ref w__VALUES)])) (fun t k => st1 t k) ?_
  obtain ⟨T2, h2, X2, e2, E2, V2, Y2, st2⟩ := cloneH X1 hx hZ hown (hw _ (List.mem_of_getElem? (i := 9) rfl)) (hw _ (List.mem_of_getElem? (i := 10) rfl)) (hw _ (List.mem_of_getElem? (i := 14) rfl)) (hw _ (List.mem_of_getElem? (i := 12) rfl)) (hw _ (List.mem_of_getElem? (i := 13) rfl)) (hw _ (List.mem_of_getElem? (i := 15) rfl)) e1 (Arv.arh V__VALUES) E__VALUES (g := (mkF m 3 #[] [(.ref w__VALUES)])) rfl (by rw [hml]; rfl) rfl (hb hby d2_3) (by decide) (W := 0) (cap := 6) (by show 2 * 0 + _ ≤ _; exact Nat.le_of_eq rfl) (by decide) (by decide) (by decide) (by decide)
  have EX2_h0 : Ext h0 h2 := E2
  refine own_pre (T' := T2) (f' := (mkF m 6 #[] [(.ref h0.size)])) (fun t k => st2 t k) ?_
  obtain ⟨T3, X3, e3, st3⟩ := castY X2 hx hZ hown (hw _ (List.mem_of_getElem? (i := 23) rfl)) e2 (Ins.self Y2) (g := (mkF m 6 #[] [(.ref h0.size)])) rfl rfl (hb hby d2_6)
  refine own_pre (T' := T3) (f' := (mkF m 9 #[] [(.ref h0.size)])) (fun t k => st3 t k) ?_
  exact own_retR X3 hx hlk hret (hb hby d2_9) rfl rfl rfl (by rw [e3]; exact ⟨rfl, EX2_h0, V2, rfl⟩) (by decide) (by decide)
theorem d3_0 : decode jdk_32_method_1_code 0 = .ok (.getstatic 1, 3) := by decide +kernel
theorem d3_3 : decode jdk_32_method_1_code 3 = .ok (.astore_n 0, 1) := by decide +kernel
theorem d3_4 : decode jdk_32_method_1_code 4 = .ok (.aload_n 0, 1) := by decide +kernel
theorem d3_5 : decode jdk_32_method_1_code 5 = .ok (.areturn, 1) := by decide +kernel
set_option maxRecDepth 65536 in
set_option maxHeartbeats 40000000 in
theorem own_empty (l : Launch) (Z : State) (a0 : Array Value) (hw : ∀ d ∈ tables_1, d.before a0 Z = true) (ws : List Jvm.Cond) (w__VALUES w_CYRILLIC_UPPER w_CYRILLIC_LOWER w_LATIN_UPPER w_LATIN_LOWER w_DIGITS w_SPECIAL w_EMPTY r_ranges_CYRILLIC_UPPER r_ranges_CYRILLIC_LOWER r_ranges_LATIN_UPPER r_ranges_LATIN_LOWER r_ranges_DIGITS r_ranges_SPECIAL : Addr) (k__VALUES k_ranges_CYRILLIC_UPPER k_ranges_CYRILLIC_LOWER k_ranges_LATIN_UPPER k_ranges_LATIN_LOWER k_ranges_DIGITS k_ranges_SPECIAL : ClassId) (h0 : Heap) (F : own_F Z h0 w__VALUES w_CYRILLIC_UPPER w_CYRILLIC_LOWER w_LATIN_UPPER w_LATIN_LOWER w_DIGITS w_SPECIAL w_EMPTY r_ranges_CYRILLIC_UPPER r_ranges_CYRILLIC_LOWER r_ranges_LATIN_UPPER r_ranges_LATIN_LOWER r_ranges_DIGITS r_ranges_SPECIAL k__VALUES k_ranges_CYRILLIC_UPPER k_ranges_CYRILLIC_LOWER k_ranges_LATIN_UPPER k_ranges_LATIN_LOWER k_ranges_DIGITS k_ranges_SPECIAL)  :
    own_C l (⟨"java/util/Optional", "empty", "()Ljava/util/Optional;"⟩ : MethodName) jdk_32_method_1_code 1 (some (.object "java/util/Optional")) ws (own_R 0 0) #[] Z h0 (own_Q0 (some (.ref w_EMPTY)) h0) := by
  have F0 := F
  obtain ⟨S__VALUES, E__VALUES, S_CYRILLIC_UPPER, E_CYRILLIC_UPPER, S_CYRILLIC_LOWER, E_CYRILLIC_LOWER, S_LATIN_UPPER, E_LATIN_UPPER, S_LATIN_LOWER, E_LATIN_LOWER, S_DIGITS, E_DIGITS, S_SPECIAL, E_SPECIAL, S_EMPTY, E_EMPTY, F_ranges_CYRILLIC_UPPER, F_ranges_CYRILLIC_LOWER, F_ranges_LATIN_UPPER, F_ranges_LATIN_LOWER, F_ranges_DIGITS, F_ranges_SPECIAL, F_value_EMPTY, V__VALUES, V_ranges_CYRILLIC_UPPER, V_ranges_CYRILLIC_LOWER, V_ranges_LATIN_UPPER, V_ranges_LATIN_LOWER, V_ranges_DIGITS, V_ranges_SPECIAL⟩ := F
  refine own_enter (LS := #[.unset]) (plainFor_of_name (by first | (simp [plainName, overriddenIn, x]; done) | decide +kernel)) (fun m => by first | (simp [entryFrame, mkF, argsToLocals, Value.category, maxLocals]; done) | rfl) ?_
  intro p e s m below meth c s₁ hx hby hml hown0 hnm hret hlk hZ X0 e0 hsh
  have hown : s.vm.findClass "java/util/Optional" = some m.cls := hown0
  obtain ⟨T1, X1, e1, st1⟩ := getS2 X0 hx hZ hown (host := "") (Or.inl (hw _ (List.mem_of_getElem? (i := 31) rfl))) Via.refl e0 S_EMPTY (g := (mkF m 0 #[.unset] [])) rfl (hb hby d3_0)
  refine own_pre (T' := T1) (f' := (mkF m 3 #[.unset] [(.ref w_EMPTY)])) (fun t k => st1 t k) ?_
  refine own_pre (T' := T1) (f' := (mkF m 4 #[rv w_EMPTY] [])) (fun t k => XS.astoreN X1.here hx rfl (hb hby d3_3) rfl rfl (l' := #[rv w_EMPTY]) rfl k) ?_
  refine own_pre (T' := T1) (f' := (mkF m 5 #[rv w_EMPTY] [(.ref w_EMPTY)])) (fun t k => XS.aloadN X1.here hx rfl (hb hby d3_4) rfl rfl k) ?_
  exact own_retR X1 hx hlk hret (hb hby d3_5) rfl rfl rfl (⟨rfl, e1, rfl⟩) (by decide) (by decide)
theorem d10_0 : decode jdk_31_method_10_code 0 = .ok (.aload_n 0, 1) := by decide +kernel
theorem d10_1 : decode jdk_31_method_10_code 1 = .ok (.ifnonnull 11, 3) := by decide +kernel
theorem d10_12 : decode jdk_31_method_10_code 12 = .ok (.aload_n 0, 1) := by decide +kernel
theorem d10_13 : decode jdk_31_method_10_code 13 = .ok (.areturn, 1) := by decide +kernel
set_option maxRecDepth 65536 in
set_option maxHeartbeats 40000000 in
theorem own_req (l : Launch) (Z : State) (a0 : Array Value) (hw : ∀ d ∈ tables_1, d.before a0 Z = true) (ws : List Jvm.Cond) (w__VALUES w_CYRILLIC_UPPER w_CYRILLIC_LOWER w_LATIN_UPPER w_LATIN_LOWER w_DIGITS w_SPECIAL w_EMPTY r_ranges_CYRILLIC_UPPER r_ranges_CYRILLIC_LOWER r_ranges_LATIN_UPPER r_ranges_LATIN_LOWER r_ranges_DIGITS r_ranges_SPECIAL : Addr) (k__VALUES k_ranges_CYRILLIC_UPPER k_ranges_CYRILLIC_LOWER k_ranges_LATIN_UPPER k_ranges_LATIN_LOWER k_ranges_DIGITS k_ranges_SPECIAL : ClassId) (h0 : Heap) (F : own_F Z h0 w__VALUES w_CYRILLIC_UPPER w_CYRILLIC_LOWER w_LATIN_UPPER w_LATIN_LOWER w_DIGITS w_SPECIAL w_EMPTY r_ranges_CYRILLIC_UPPER r_ranges_CYRILLIC_LOWER r_ranges_LATIN_UPPER r_ranges_LATIN_LOWER r_ranges_DIGITS r_ranges_SPECIAL k__VALUES k_ranges_CYRILLIC_UPPER k_ranges_CYRILLIC_LOWER k_ranges_LATIN_UPPER k_ranges_LATIN_LOWER k_ranges_DIGITS k_ranges_SPECIAL) (a : Addr) :
    own_C l (⟨"java/util/Objects", "requireNonNull", "(Ljava/lang/Object;)Ljava/lang/Object;"⟩ : MethodName) jdk_31_method_10_code 1 (some (.object "java/lang/Object")) ws (own_R 0 0) #[(.ref a)] Z h0 (own_Q0 (some (.ref a)) h0) := by
  have F0 := F
  obtain ⟨S__VALUES, E__VALUES, S_CYRILLIC_UPPER, E_CYRILLIC_UPPER, S_CYRILLIC_LOWER, E_CYRILLIC_LOWER, S_LATIN_UPPER, E_LATIN_UPPER, S_LATIN_LOWER, E_LATIN_LOWER, S_DIGITS, E_DIGITS, S_SPECIAL, E_SPECIAL, S_EMPTY, E_EMPTY, F_ranges_CYRILLIC_UPPER, F_ranges_CYRILLIC_LOWER, F_ranges_LATIN_UPPER, F_ranges_LATIN_LOWER, F_ranges_DIGITS, F_ranges_SPECIAL, F_value_EMPTY, V__VALUES, V_ranges_CYRILLIC_UPPER, V_ranges_CYRILLIC_LOWER, V_ranges_LATIN_UPPER, V_ranges_LATIN_LOWER, V_ranges_DIGITS, V_ranges_SPECIAL⟩ := F
  refine own_enter (LS := #[rv a]) (plainFor_of_name (by first | (simp [plainName, overriddenIn, x]; done) | decide +kernel)) (fun m => by first | (simp [entryFrame, mkF, argsToLocals, Value.category, maxLocals]; done) | rfl) ?_
  intro p e s m below meth c s₁ hx hby hml hown0 hnm hret hlk hZ X0 e0 hsh
  have hown : s.vm.findClass "java/util/Objects" = some m.cls := hown0
  refine own_pre (T' := s₁) (f' := (mkF m 1 #[rv a] [(.ref a)])) (fun t k => XS.aloadN X0.here hx rfl (hb hby d10_0) rfl rfl k) ?_
  refine own_pre (T' := s₁) (f' := (mkF m 12 #[rv a] [])) (fun t k => XS.ifnonnullYes X0.here hx rfl (pc0 := 1) (pc' := 12) rfl (hb hby d10_1) rfl (by decide) (by decide) k) ?_
  refine own_pre (T' := s₁) (f' := (mkF m 13 #[rv a] [(.ref a)])) (fun t k => XS.aloadN X0.here hx rfl (hb hby d10_12) rfl rfl k) ?_
  exact own_retR X0 hx hlk hret (hb hby d10_13) rfl rfl rfl (⟨rfl, e0, rfl⟩) (by decide) (by decide)
theorem d4_0 : decode jdk_32_method_15_code 0 = .ok (.aload_n 0, 1) := by decide +kernel
theorem d4_1 : decode jdk_32_method_15_code 1 = .ok (.getfield 13, 3) := by decide +kernel
theorem d4_4 : decode jdk_32_method_15_code 4 = .ok (.ifnull 10, 3) := by decide +kernel
theorem d4_14 : decode jdk_32_method_15_code 14 = .ok (.aload_n 1, 1) := by decide +kernel
theorem d4_15 : decode jdk_32_method_15_code 15 = .ok (.areturn, 1) := by decide +kernel
set_option maxRecDepth 65536 in
set_option maxHeartbeats 40000000 in
theorem own_orN (l : Launch) (Z : State) (a0 : Array Value) (hw : ∀ d ∈ tables_1, d.before a0 Z = true) (ws : List Jvm.Cond) (w__VALUES w_CYRILLIC_UPPER w_CYRILLIC_LOWER w_LATIN_UPPER w_LATIN_LOWER w_DIGITS w_SPECIAL w_EMPTY r_ranges_CYRILLIC_UPPER r_ranges_CYRILLIC_LOWER r_ranges_LATIN_UPPER r_ranges_LATIN_LOWER r_ranges_DIGITS r_ranges_SPECIAL : Addr) (k__VALUES k_ranges_CYRILLIC_UPPER k_ranges_CYRILLIC_LOWER k_ranges_LATIN_UPPER k_ranges_LATIN_LOWER k_ranges_DIGITS k_ranges_SPECIAL : ClassId) (h0 : Heap) (F : own_F Z h0 w__VALUES w_CYRILLIC_UPPER w_CYRILLIC_LOWER w_LATIN_UPPER w_LATIN_LOWER w_DIGITS w_SPECIAL w_EMPTY r_ranges_CYRILLIC_UPPER r_ranges_CYRILLIC_LOWER r_ranges_LATIN_UPPER r_ranges_LATIN_LOWER r_ranges_DIGITS r_ranges_SPECIAL k__VALUES k_ranges_CYRILLIC_UPPER k_ranges_CYRILLIC_LOWER k_ranges_LATIN_UPPER k_ranges_LATIN_LOWER k_ranges_DIGITS k_ranges_SPECIAL) (a : Addr) (Fv : Fld Z h0 a "java/util/Optional" "value" "Ljava/lang/Object;" .null) :
    own_C l (⟨"java/util/Optional", "orElse", "(Ljava/lang/Object;)Ljava/lang/Object;"⟩ : MethodName) jdk_32_method_15_code 2 (some (.object "java/lang/Object")) ws (own_R 0 0) #[(.ref a), .null] Z h0 (own_Q0 (some .null) h0) := by
  have F0 := F
  obtain ⟨S__VALUES, E__VALUES, S_CYRILLIC_UPPER, E_CYRILLIC_UPPER, S_CYRILLIC_LOWER, E_CYRILLIC_LOWER, S_LATIN_UPPER, E_LATIN_UPPER, S_LATIN_LOWER, E_LATIN_LOWER, S_DIGITS, E_DIGITS, S_SPECIAL, E_SPECIAL, S_EMPTY, E_EMPTY, F_ranges_CYRILLIC_UPPER, F_ranges_CYRILLIC_LOWER, F_ranges_LATIN_UPPER, F_ranges_LATIN_LOWER, F_ranges_DIGITS, F_ranges_SPECIAL, F_value_EMPTY, V__VALUES, V_ranges_CYRILLIC_UPPER, V_ranges_CYRILLIC_LOWER, V_ranges_LATIN_UPPER, V_ranges_LATIN_LOWER, V_ranges_DIGITS, V_ranges_SPECIAL⟩ := F
  refine own_enter (LS := #[rv a, .val .null]) (plainFor_of_name (by first | (simp [plainName, overriddenIn, x]; done) | decide +kernel)) (fun m => by first | (simp [entryFrame, mkF, argsToLocals, Value.category, maxLocals]; done) | rfl) ?_
  intro p e s m below meth c s₁ hx hby hml hown0 hnm hret hlk hZ X0 e0 hsh
  have hown : s.vm.findClass "java/util/Optional" = some m.cls := hown0
  refine own_pre (T' := s₁) (f' := (mkF m 1 #[rv a, .val .null] [(.ref a)])) (fun t k => XS.aloadN X0.here hx rfl (hb hby d4_0) rfl rfl k) ?_
  obtain ⟨T1, X1, e1, st1⟩ := getF X0 hx hZ hown (host := "") (Or.inl (hw _ (List.mem_of_getElem? (i := 37) rfl))) Via.refl e0 Fv (g := (mkF m 1 #[rv a, .val .null] [(.ref a)])) rfl rfl (hb hby d4_1)
  refine own_pre (T' := T1) (f' := (mkF m 4 #[rv a, .val .null] [.null])) (fun t k => st1 t k) ?_
  refine own_pre (T' := T1) (f' := (mkF m 14 #[rv a, .val .null] [])) (fun t k => XS.ifnullYes X1.here hx rfl (pc0 := 4) (pc' := 14) rfl (hb hby d4_4) rfl (by decide) (by decide) k) ?_
  refine own_pre (T' := T1) (f' := (mkF m 15 #[rv a, .val .null] [.null])) (fun t k => XS.aloadN X1.here hx rfl (hb hby d4_14) rfl rfl k) ?_
  exact own_retR X1 hx hlk hret (hb hby d4_15) rfl rfl rfl (⟨rfl, e1, rfl⟩) (by decide) (by decide)
theorem d4_7 : decode jdk_32_method_15_code 7 = .ok (.aload_n 0, 1) := by decide +kernel
theorem d4_8 : decode jdk_32_method_15_code 8 = .ok (.getfield 13, 3) := by decide +kernel
theorem d4_11 : decode jdk_32_method_15_code 11 = .ok (.goto 4, 3) := by decide +kernel
set_option maxRecDepth 65536 in
set_option maxHeartbeats 40000000 in
theorem own_orR (l : Launch) (Z : State) (a0 : Array Value) (hw : ∀ d ∈ tables_1, d.before a0 Z = true) (ws : List Jvm.Cond) (w__VALUES w_CYRILLIC_UPPER w_CYRILLIC_LOWER w_LATIN_UPPER w_LATIN_LOWER w_DIGITS w_SPECIAL w_EMPTY r_ranges_CYRILLIC_UPPER r_ranges_CYRILLIC_LOWER r_ranges_LATIN_UPPER r_ranges_LATIN_LOWER r_ranges_DIGITS r_ranges_SPECIAL : Addr) (k__VALUES k_ranges_CYRILLIC_UPPER k_ranges_CYRILLIC_LOWER k_ranges_LATIN_UPPER k_ranges_LATIN_LOWER k_ranges_DIGITS k_ranges_SPECIAL : ClassId) (h0 : Heap) (F : own_F Z h0 w__VALUES w_CYRILLIC_UPPER w_CYRILLIC_LOWER w_LATIN_UPPER w_LATIN_LOWER w_DIGITS w_SPECIAL w_EMPTY r_ranges_CYRILLIC_UPPER r_ranges_CYRILLIC_LOWER r_ranges_LATIN_UPPER r_ranges_LATIN_LOWER r_ranges_DIGITS r_ranges_SPECIAL k__VALUES k_ranges_CYRILLIC_UPPER k_ranges_CYRILLIC_LOWER k_ranges_LATIN_UPPER k_ranges_LATIN_LOWER k_ranges_DIGITS k_ranges_SPECIAL) (a y : Addr) (Fv : Fld Z h0 a "java/util/Optional" "value" "Ljava/lang/Object;" (.ref y)) :
    own_C l (⟨"java/util/Optional", "orElse", "(Ljava/lang/Object;)Ljava/lang/Object;"⟩ : MethodName) jdk_32_method_15_code 2 (some (.object "java/lang/Object")) ws (own_R 0 0) #[(.ref a), .null] Z h0 (own_Q0 (some (.ref y)) h0) := by
  have F0 := F
  obtain ⟨S__VALUES, E__VALUES, S_CYRILLIC_UPPER, E_CYRILLIC_UPPER, S_CYRILLIC_LOWER, E_CYRILLIC_LOWER, S_LATIN_UPPER, E_LATIN_UPPER, S_LATIN_LOWER, E_LATIN_LOWER, S_DIGITS, E_DIGITS, S_SPECIAL, E_SPECIAL, S_EMPTY, E_EMPTY, F_ranges_CYRILLIC_UPPER, F_ranges_CYRILLIC_LOWER, F_ranges_LATIN_UPPER, F_ranges_LATIN_LOWER, F_ranges_DIGITS, F_ranges_SPECIAL, F_value_EMPTY, V__VALUES, V_ranges_CYRILLIC_UPPER, V_ranges_CYRILLIC_LOWER, V_ranges_LATIN_UPPER, V_ranges_LATIN_LOWER, V_ranges_DIGITS, V_ranges_SPECIAL⟩ := F
  refine own_enter (LS := #[rv a, .val .null]) (plainFor_of_name (by first | (simp [plainName, overriddenIn, x]; done) | decide +kernel)) (fun m => by first | (simp [entryFrame, mkF, argsToLocals, Value.category, maxLocals]; done) | rfl) ?_
  intro p e s m below meth c s₁ hx hby hml hown0 hnm hret hlk hZ X0 e0 hsh
  have hown : s.vm.findClass "java/util/Optional" = some m.cls := hown0
  refine own_pre (T' := s₁) (f' := (mkF m 1 #[rv a, .val .null] [(.ref a)])) (fun t k => XS.aloadN X0.here hx rfl (hb hby d4_0) rfl rfl k) ?_
  obtain ⟨T1, X1, e1, st1⟩ := getF X0 hx hZ hown (host := "") (Or.inl (hw _ (List.mem_of_getElem? (i := 37) rfl))) Via.refl e0 Fv (g := (mkF m 1 #[rv a, .val .null] [(.ref a)])) rfl rfl (hb hby d4_1)
  refine own_pre (T' := T1) (f' := (mkF m 4 #[rv a, .val .null] [(.ref y)])) (fun t k => st1 t k) ?_
  refine own_pre (T' := T1) (f' := (mkF m 7 #[rv a, .val .null] [])) (fun t k => XS.ifnullNo X1.here hx rfl (hb hby d4_4) rfl k) ?_
  refine own_pre (T' := T1) (f' := (mkF m 8 #[rv a, .val .null] [(.ref a)])) (fun t k => XS.aloadN X1.here hx rfl (hb hby d4_7) rfl rfl k) ?_
  obtain ⟨T2, X2, e2, st2⟩ := getF X1 hx hZ hown (host := "") (Or.inl (hw _ (List.mem_of_getElem? (i := 37) rfl))) Via.refl e1 Fv (g := (mkF m 8 #[rv a, .val .null] [(.ref a)])) rfl rfl (hb hby d4_8)
  refine own_pre (T' := T2) (f' := (mkF m 11 #[rv a, .val .null] [(.ref y)])) (fun t k => st2 t k) ?_
  refine own_pre (T' := T2) (f' := (mkF m 15 #[rv a, .val .null] [(.ref y)])) (fun t k => XS.goto X2.here hx rfl (pc0 := 11) (pc' := 15) rfl (hb hby d4_11) (by decide) (by decide) k) ?_
  exact own_retR X2 hx hlk hret (hb hby d4_15) rfl rfl rfl (⟨rfl, e2, rfl⟩) (by decide) (by decide)
theorem d11_0 : decode jdk_32_method_2_code 0 = .ok (.aload_n 0, 1) := by decide +kernel
theorem d11_1 : decode jdk_32_method_2_code 1 = .ok (.invokespecial 7, 3) := by decide +kernel
theorem d11_4 : decode jdk_32_method_2_code 4 = .ok (.aload_n 0, 1) := by decide +kernel
theorem d11_5 : decode jdk_32_method_2_code 5 = .ok (.aload_n 1, 1) := by decide +kernel
theorem d11_6 : decode jdk_32_method_2_code 6 = .ok (.putfield 13, 3) := by decide +kernel
theorem d11_9 : decode jdk_32_method_2_code 9 = .ok (.return_, 1) := by decide +kernel
theorem pn_11 : plainName "java/util/Optional" = true := by first | (simp [plainName, overriddenIn]; done) | decide +kernel
theorem ef_11 (m : MethodId) (x0 : Addr) (x1 : Addr) : entryFrame m #[(.ref x0), (.ref x1)] 2 = mkF m 0 #[.val (.ref x0), .val (.ref x1)] [] := by first | (simp [entryFrame, mkF, argsToLocals, Value.category]; done) | rfl
def Q11 (Z : State) (a1 : Addr) (a2 : Addr) (u_value_a1 : Value) (h0 : Heap) (n0 : Nat) (v : Option Value) (h : Heap) (L : List Loc) : Prop := v = none ∧ Fr n0 L ∧ Keep h0 h [a1] ∧ Exa Z h a1 "java/util/Optional" ∧ Fld Z h a1 "java/util/Optional" "value" "Ljava/lang/Object;" (.ref a2)
set_option maxRecDepth 65536 in
set_option maxHeartbeats 40000000 in
theorem rm11 (l : Launch) (Z : State) (a0 : Array Value) (hw : ∀ d ∈ tables_1, d.before a0 Z = true) (ws : List Jvm.Cond) (a1 : Addr) (a2 : Addr) (u_value_a1 : Value) (h0 : Heap) (n0 : Nat) (Z0 : n0 ≤ h0.size) (E_a1 : Exa Z h0 a1 "java/util/Optional") (F_value_a1 : Fld Z h0 a1 "java/util/Optional" "value" "Ljava/lang/Object;" u_value_a1) (g_a1 : n0 ≤ a1) :
    MetFree l (⟨"java/util/Optional", "<init>", "(Ljava/lang/Object;)V"⟩ : MethodName) (head1 (Jvm.Cond.code (⟨"java/util/Optional", "<init>", "(Ljava/lang/Object;)V"⟩ : MethodName) jdk_32_method_2_code 2 none :: ws) ({ frames := 1, cells := 0, slots := 0, locals := 12 } : Room)) (fun a U => a = #[(.ref a1), (.ref a2)] ∧ Z.Warmed39 U.vm ∧ U.heap = h0) (fun _ _ _ _ _ => True) (fun _ U o U' => ∃ v L, o = .returned v ∧ Q11 Z a1 a2 u_value_a1 h0 n0 v U'.heap L ∧ FrameEnd U o U' L ({ frames := 1, cells := 0, slots := 0, locals := 12 } : Room).cells ({ frames := 1, cells := 0, slots := 0, locals := 12 } : Room).slots) := by
  refine MetFree.of_bodySF (plainFor_of_name pn_11) hisR ?_
  intro p e s m args below meth c s₁ Bd hml0 hP hK
  obtain ⟨rfl, hZ, hh⟩ := hP
  have hx := Bd.exec
  have hby := Bd.bytes
  have hml : c.maxLocals = 2 := hml0
  have hown : s.vm.findClass "java/util/Optional" = some m.cls := findClass_of_methodNamed Bd.named
  have hnm := (name_of_methodNamed Bd.named Bd.method).1
  have X0 : Stand p l e ({ frames := 1, cells := 0, slots := 0, locals := 12 } : Room) s m #[(.ref a1), (.ref a2)] below meth c s₁ [] 0 0 := Stand.of_body Bd
  have e0 : s₁.heap = h0 := by rw [← hh, Bd.state]; rfl
  have N0 := Fr.nil n0
  have pre0 : ∀ t, Steps p.tables e below (s₁.setTop (mkF m 0 #[.val (.ref a1), .val (.ref a2)] [])) t → Steps p.tables e below (s₁.setTop (entryFrame m #[(.ref a1), (.ref a2)] 2)) t := fun t k => castTop (ef_11 m a1 a2) k
  obtain ⟨T3, X3, e3, st3⟩ := initO X0 hx hZ hown (hw _ (List.mem_of_getElem? (i := 66) rfl)) (hw _ (List.mem_of_getElem? (i := 67) rfl)) (hw _ (List.mem_of_getElem? (i := 68) rfl)) e0 (g := (mkF m 1 #[.val (.ref a1), .val (.ref a2)] [(.ref a1)])) rfl (by rw [hml]; rfl) rfl (hb hby d11_1) (by decide) (W := 0) (by show 2 * 0 + _ ≤ _; exact Nat.le_of_eq rfl) (by decide)
  obtain ⟨T4, h4, X4, e4, W4, st4⟩ := putF X3 hx hZ hown (host := "") (Or.inl (hw _ (List.mem_of_getElem? (i := 37) rfl))) Via.refl e3 F_value_a1 E_a1 (Or.inr ⟨(hw _ (List.mem_of_getElem? (i := 38) rfl)), rfl, hnm⟩) (hw _ (List.mem_of_getElem? (i := 57) rfl)) (ty := (.object "java/lang/Object")) (by decide) rfl rfl (g := (mkF m 6 #[.val (.ref a1), .val (.ref a2)] [(.ref a2), (.ref a1)])) rfl rfl (hb hby d11_6)
  have Fw4 := F_value_a1.same W4
  have K4 : Keep h0 h4 [a1] := (Keep.refl h0 [a1]).wr W4 (Or.inl (List.mem_of_getElem? (i := 0) rfl))
  have N4 := Fr.snoc X4 N0 g_a1
  obtain ⟨fs, hr, hrun, hended, hW, hsame⟩ := X4.leave (v := none) (fun _ => rfl)
  refine ⟨_, _, pre0 _ ?_, hrun, hended, _, _, rfl, ?_, ⟨_, rfl⟩, hW, hsame.mono (by decide) (by decide)⟩
  · show Steps p.tables e below (s₁.setTop (mkF m 0 #[.val (.ref a1), .val (.ref a2)] [])) _
    refine XS.aloadN X0.here hx rfl (hb hby d11_0) rfl rfl ?_
    show Steps p.tables e below (s₁.setTop (mkF m 1 #[.val (.ref a1), .val (.ref a2)] [(.ref a1)])) _
    refine st3 _ ?_
    show Steps p.tables e below (T3.setTop (mkF m 4 #[.val (.ref a1), .val (.ref a2)] [])) _
    refine XS.aloadN X3.here hx rfl (hb hby d11_4) rfl rfl ?_
    show Steps p.tables e below (T3.setTop (mkF m 5 #[.val (.ref a1), .val (.ref a2)] [(.ref a1)])) _
    refine XS.aloadN X3.here hx rfl (hb hby d11_5) rfl rfl ?_
    show Steps p.tables e below (T3.setTop (mkF m 6 #[.val (.ref a1), .val (.ref a2)] [(.ref a2), (.ref a1)])) _
    refine st4 _ ?_
    show Steps p.tables e below (T4.setTop (mkF m 9 #[.val (.ref a1), .val (.ref a2)] [])) _
    exact X4.returnOut hx Bd.returns (hb hby d11_9) hr
  · show Q11 Z a1 a2 u_value_a1 h0 n0 _ T4.heap _
    rw [e4]
    exact ⟨rfl, N4, K4, (E_a1.wr W4), Fw4⟩
theorem d9_0 : decode jdk_32_method_3_code 0 = .ok (.new 2, 3) := by decide +kernel
theorem d9_3 : decode jdk_32_method_3_code 3 = .ok (.dup, 1) := by decide +kernel
theorem d9_4 : decode jdk_32_method_3_code 4 = .ok (.aload_n 0, 1) := by decide +kernel
theorem d9_5 : decode jdk_32_method_3_code 5 = .ok (.invokestatic 17, 3) := by decide +kernel
theorem d9_8 : decode jdk_32_method_3_code 8 = .ok (.invokespecial 23, 3) := by decide +kernel
theorem d9_11 : decode jdk_32_method_3_code 11 = .ok (.areturn, 1) := by decide +kernel
set_option maxRecDepth 65536 in
set_option maxHeartbeats 40000000 in
theorem own_oof (l : Launch) (Z : State) (a0 : Array Value) (hw : ∀ d ∈ tables_1, d.before a0 Z = true) (ws : List Jvm.Cond) (w__VALUES w_CYRILLIC_UPPER w_CYRILLIC_LOWER w_LATIN_UPPER w_LATIN_LOWER w_DIGITS w_SPECIAL w_EMPTY r_ranges_CYRILLIC_UPPER r_ranges_CYRILLIC_LOWER r_ranges_LATIN_UPPER r_ranges_LATIN_LOWER r_ranges_DIGITS r_ranges_SPECIAL : Addr) (k__VALUES k_ranges_CYRILLIC_UPPER k_ranges_CYRILLIC_LOWER k_ranges_LATIN_UPPER k_ranges_LATIN_LOWER k_ranges_DIGITS k_ranges_SPECIAL : ClassId) (h0 : Heap) (F : own_F Z h0 w__VALUES w_CYRILLIC_UPPER w_CYRILLIC_LOWER w_LATIN_UPPER w_LATIN_LOWER w_DIGITS w_SPECIAL w_EMPTY r_ranges_CYRILLIC_UPPER r_ranges_CYRILLIC_LOWER r_ranges_LATIN_UPPER r_ranges_LATIN_LOWER r_ranges_DIGITS r_ranges_SPECIAL k__VALUES k_ranges_CYRILLIC_UPPER k_ranges_CYRILLIC_LOWER k_ranges_LATIN_UPPER k_ranges_LATIN_LOWER k_ranges_DIGITS k_ranges_SPECIAL) (a : Addr) :
    own_C l (⟨"java/util/Optional", "of", "(Ljava/lang/Object;)Ljava/util/Optional;"⟩ : MethodName) jdk_32_method_3_code 1 (some (.object "java/util/Optional")) ws (own_RC 2 1 1 26) #[(.ref a)] Z h0 (own_QA (some (.ref h0.size)) h0 (fun h' => Exa Z h' h0.size "java/util/Optional" ∧ Fld Z h' h0.size "java/util/Optional" "value" "Ljava/lang/Object;" (.ref a))) := by
  have F0 := F
  obtain ⟨S__VALUES, E__VALUES, S_CYRILLIC_UPPER, E_CYRILLIC_UPPER, S_CYRILLIC_LOWER, E_CYRILLIC_LOWER, S_LATIN_UPPER, E_LATIN_UPPER, S_LATIN_LOWER, E_LATIN_LOWER, S_DIGITS, E_DIGITS, S_SPECIAL, E_SPECIAL, S_EMPTY, E_EMPTY, F_ranges_CYRILLIC_UPPER, F_ranges_CYRILLIC_LOWER, F_ranges_LATIN_UPPER, F_ranges_LATIN_LOWER, F_ranges_DIGITS, F_ranges_SPECIAL, F_value_EMPTY, V__VALUES, V_ranges_CYRILLIC_UPPER, V_ranges_CYRILLIC_LOWER, V_ranges_LATIN_UPPER, V_ranges_LATIN_LOWER, V_ranges_DIGITS, V_ranges_SPECIAL⟩ := F
  refine own_enter (LS := #[rv a]) (plainFor_of_name (by first | (simp [plainName, overriddenIn, x]; done) | decide +kernel)) (fun m => by first | (simp [entryFrame, mkF, argsToLocals, Value.category, maxLocals]; done) | rfl) ?_
  intro p e s m below meth c s₁ hx hby hml hown0 hnm hret hlk hZ X0 e0 hsh
  have hown : s.vm.findClass "java/util/Optional" = some m.cls := hown0
  obtain ⟨T1, h1, X1, e1, E1, A1, D1, -, st1⟩ := newO X0 hx hZ hown (hw _ (List.mem_of_getElem? (i := 56) rfl)) (hw _ (List.mem_of_getElem? (i := 57) rfl)) (hw _ (List.mem_of_getElem? (i := 29) rfl)) e0 (g := (mkF m 0 #[rv a] [])) rfl (hb hby d9_0) (by decide) (by decide)
  have EX1_h0 : Ext h0 h1 := E1
  refine own_pre (T' := T1) (f' := (mkF m 3 #[rv a] [(.ref h0.size)])) (fun t k => st1 t k) ?_
  refine own_pre (T' := T1) (f' := (mkF m 4 #[rv a] [(.ref h0.size), (.ref h0.size)])) (fun t k => XS.dup X1.here hx rfl (hb hby d9_3) rfl rfl k) ?_
  refine own_pre (T' := T1) (f' := (mkF m 5 #[rv a] [(.ref a), (.ref h0.size), (.ref h0.size)])) (fun t k => XS.aloadN X1.here hx rfl (hb hby d9_4) rfl rfl k) ?_
  obtain ⟨T2, X2, e2, st2⟩ := own_pure (f := 0) (n := 0) (v := (some (.ref a))) (own_callS X1 hx hZ e1 (y := (⟨"java/util/Objects", "requireNonNull", "(Ljava/lang/Object;)Ljava/lang/Object;"⟩ : MethodName)) hown (hw _ (List.mem_of_getElem? (i := 58) rfl)) (hw _ (List.mem_of_getElem? (i := 59) rfl)) (hw _ (List.mem_of_getElem? (i := 61) rfl)) (hw _ (List.mem_of_getElem? (i := 60) rfl)) (by decide) 2 [(.ref a)] [(.ref h0.size), (.ref h0.size)] (own_req l Z a0 hw [] w__VALUES w_CYRILLIC_UPPER w_CYRILLIC_LOWER w_LATIN_UPPER w_LATIN_LOWER w_DIGITS w_SPECIAL w_EMPTY r_ranges_CYRILLIC_UPPER r_ranges_CYRILLIC_LOWER r_ranges_LATIN_UPPER r_ranges_LATIN_LOWER r_ranges_DIGITS r_ranges_SPECIAL k__VALUES k_ranges_CYRILLIC_UPPER k_ranges_CYRILLIC_LOWER k_ranges_LATIN_UPPER k_ranges_LATIN_LOWER k_ranges_DIGITS k_ranges_SPECIAL h1 (own_F_ext F0 EX1_h0) a) (by decide) (by decide) (by decide) (by decide) (g := (mkF m 5 #[rv a] [(.ref a), (.ref h0.size), (.ref h0.size)])) rfl (by rw [hml]; rfl) (lenOf pd_0 rfl) rfl (by show 2 * 0 + _ ≤ _; exact Nat.le_of_eq rfl) (hb hby d9_5))
  refine own_pre (T' := T2) (f' := (mkF m 8 #[rv a] [(.ref a), (.ref h0.size), (.ref h0.size)])) (fun t k => st2 t k) ?_
  have Fv : Fld Z h1 h0.size "java/util/Optional" "value" "Ljava/lang/Object;" .null := D1 (Or.inr (hw _ (List.mem_of_getElem? (i := 38) rfl))) (ty := (.object "java/lang/Object")) (by decide)
  obtain ⟨T3, L3, v3, X3a, hQ3, st3⟩ := own_callI X2 hx hZ e2 (y := (⟨"java/util/Optional", "<init>", "(Ljava/lang/Object;)V"⟩ : MethodName)) (b := h0.size) rfl hown (hw _ (List.mem_of_getElem? (i := 62) rfl)) (hw _ (List.mem_of_getElem? (i := 63) rfl)) (hw _ (List.mem_of_getElem? (i := 65) rfl)) (hw _ (List.mem_of_getElem? (i := 29) rfl)) (by decide) 1 [(.ref a)] [(.ref h0.size)] (rm11 l Z a0 hw [] h0.size a .null h1 h0.size EX1_h0.1 A1 Fv (Nat.le_refl _)) (by decide) (by decide) (by decide) (by decide) (g := (mkF m 8 #[rv a] [(.ref a), (.ref h0.size), (.ref h0.size)])) rfl (by rw [hml]; rfl) (lenOf pd_1 rfl) rfl (by show 2 * 0 + _ ≤ _; exact Nat.le_of_eq rfl) (hb hby d9_8)
  obtain ⟨rfl, N3, K3, Y3, G3⟩ := hQ3
  have X3 := X3a.forget (fun y hy => by rw [hsh]; exact N3 y hy)
  have e3 : T3.heap = T3.heap := rfl
  have EZ3 : Ext h0 T3.heap := own_extK EX1_h0 K3 (allS (Nat.le_refl _) all0)
  refine own_pre (T' := T3) (f' := (mkF m 11 #[rv a] [(.ref h0.size)])) (fun t k => st3 t k) ?_
  exact own_retR X3 hx hlk hret (hb hby d9_11) rfl rfl rfl (⟨rfl, EZ3, ⟨Y3, G3⟩, rfl⟩) (by decide) (by decide)
theorem d1_0 : decode prog_5_method_7_code 0 = .ok (.invokestatic 55, 3) := by decide +kernel
theorem d1_3 : decode prog_5_method_7_code 3 = .ok (.astore_n 1, 1) := by decide +kernel
theorem d1_4 : decode prog_5_method_7_code 4 = .ok (.aload_n 1, 1) := by decide +kernel
theorem d1_5 : decode prog_5_method_7_code 5 = .ok (.arraylength, 1) := by decide +kernel
theorem d1_6 : decode prog_5_method_7_code 6 = .ok (.istore_n 2, 1) := by decide +kernel
theorem d1_7 : decode prog_5_method_7_code 7 = .ok (.iconst 0, 1) := by decide +kernel
theorem d1_8 : decode prog_5_method_7_code 8 = .ok (.istore_n 3, 1) := by decide +kernel
theorem d1_9 : decode prog_5_method_7_code 9 = .ok (.iload_n 3, 1) := by decide +kernel
theorem d1_10 : decode prog_5_method_7_code 10 = .ok (.iload_n 2, 1) := by decide +kernel
theorem d1_11 : decode prog_5_method_7_code 11 = .ok (.if_icmp .ge 66, 3) := by decide +kernel
theorem d1_14 : decode prog_5_method_7_code 14 = .ok (.aload_n 1, 1) := by decide +kernel
theorem d1_15 : decode prog_5_method_7_code 15 = .ok (.iload_n 3, 1) := by decide +kernel
theorem d1_16 : decode prog_5_method_7_code 16 = .ok (.aaload, 1) := by decide +kernel
theorem d1_17 : decode prog_5_method_7_code 17 = .ok (.astore 4, 2) := by decide +kernel
theorem d1_19 : decode prog_5_method_7_code 19 = .ok (.iconst 0, 1) := by decide +kernel
theorem d1_20 : decode prog_5_method_7_code 20 = .ok (.istore 5, 2) := by decide +kernel
theorem d1_22 : decode prog_5_method_7_code 22 = .ok (.iload 5, 2) := by decide +kernel
theorem d1_24 : decode prog_5_method_7_code 24 = .ok (.aload 4, 2) := by decide +kernel
theorem d1_26 : decode prog_5_method_7_code 26 = .ok (.getfield 51, 3) := by decide +kernel
theorem d1_29 : decode prog_5_method_7_code 29 = .ok (.arraylength, 1) := by decide +kernel
theorem d1_30 : decode prog_5_method_7_code 30 = .ok (.if_icmp .ge 41, 3) := by decide +kernel
theorem d1_33 : decode prog_5_method_7_code 33 = .ok (.iload_n 0, 1) := by decide +kernel
theorem d1_34 : decode prog_5_method_7_code 34 = .ok (.aload 4, 2) := by decide +kernel
theorem d1_36 : decode prog_5_method_7_code 36 = .ok (.getfield 51, 3) := by decide +kernel
theorem d1_39 : decode prog_5_method_7_code 39 = .ok (.iload 5, 2) := by decide +kernel
theorem d1_41 : decode prog_5_method_7_code 41 = .ok (.iaload, 1) := by decide +kernel
theorem d1_42 : decode prog_5_method_7_code 42 = .ok (.if_icmp .lt 23, 3) := by decide +kernel
theorem d1_45 : decode prog_5_method_7_code 45 = .ok (.iload_n 0, 1) := by decide +kernel
theorem d1_46 : decode prog_5_method_7_code 46 = .ok (.aload 4, 2) := by decide +kernel
theorem d1_48 : decode prog_5_method_7_code 48 = .ok (.getfield 51, 3) := by decide +kernel
theorem d1_51 : decode prog_5_method_7_code 51 = .ok (.iload 5, 2) := by decide +kernel
theorem d1_53 : decode prog_5_method_7_code 53 = .ok (.iconst 1, 1) := by decide +kernel
theorem d1_54 : decode prog_5_method_7_code 54 = .ok (.iadd, 1) := by decide +kernel
theorem d1_55 : decode prog_5_method_7_code 55 = .ok (.iaload, 1) := by decide +kernel
theorem d1_56 : decode prog_5_method_7_code 56 = .ok (.if_icmp .gt 9, 3) := by decide +kernel
theorem d1_59 : decode prog_5_method_7_code 59 = .ok (.aload 4, 2) := by decide +kernel
theorem d1_61 : decode prog_5_method_7_code 61 = .ok (.invokestatic 59, 3) := by decide +kernel
theorem d1_64 : decode prog_5_method_7_code 64 = .ok (.areturn, 1) := by decide +kernel
theorem d1_65 : decode prog_5_method_7_code 65 = .ok (.iinc 5 2, 3) := by decide +kernel
theorem d1_68 : decode prog_5_method_7_code 68 = .ok (.goto (-46), 3) := by decide +kernel
theorem d1_71 : decode prog_5_method_7_code 71 = .ok (.iinc 3 1, 3) := by decide +kernel
theorem d1_74 : decode prog_5_method_7_code 74 = .ok (.goto (-65), 3) := by decide +kernel
theorem d1_77 : decode prog_5_method_7_code 77 = .ok (.invokestatic 65, 3) := by decide +kernel
theorem d1_80 : decode prog_5_method_7_code 80 = .ok (.areturn, 1) := by decide +kernel
set_option maxRecDepth 65536 in
set_option maxHeartbeats 40000000 in
theorem own_of (l : Launch) (Z : State) (a0 : Array Value) (hw : ∀ d ∈ tables_1, d.before a0 Z = true) (ws : List Jvm.Cond) (w__VALUES w_CYRILLIC_UPPER w_CYRILLIC_LOWER w_LATIN_UPPER w_LATIN_LOWER w_DIGITS w_SPECIAL w_EMPTY r_ranges_CYRILLIC_UPPER r_ranges_CYRILLIC_LOWER r_ranges_LATIN_UPPER r_ranges_LATIN_LOWER r_ranges_DIGITS r_ranges_SPECIAL : Addr) (k__VALUES k_ranges_CYRILLIC_UPPER k_ranges_CYRILLIC_LOWER k_ranges_LATIN_UPPER k_ranges_LATIN_LOWER k_ranges_DIGITS k_ranges_SPECIAL : ClassId) (h0 : Heap) (F : own_F Z h0 w__VALUES w_CYRILLIC_UPPER w_CYRILLIC_LOWER w_LATIN_UPPER w_LATIN_LOWER w_DIGITS w_SPECIAL w_EMPTY r_ranges_CYRILLIC_UPPER r_ranges_CYRILLIC_LOWER r_ranges_LATIN_UPPER r_ranges_LATIN_LOWER r_ranges_DIGITS r_ranges_SPECIAL k__VALUES k_ranges_CYRILLIC_UPPER k_ranges_CYRILLIC_LOWER k_ranges_LATIN_UPPER k_ranges_LATIN_LOWER k_ranges_DIGITS k_ranges_SPECIAL) (z : Int32) (x : Value) (hcl : own_cls z w_CYRILLIC_UPPER w_CYRILLIC_LOWER w_LATIN_UPPER w_LATIN_LOWER w_DIGITS w_SPECIAL = x) :
    own_C l (⟨"com/example/kormilo/kormilo/CharacterClass", "of", "(I)Ljava/util/Optional;"⟩ : MethodName) prog_5_method_7_code 6 (some (.object "java/util/Optional")) ws (own_RC 3 2 7 38) #[(.int z)] Z h0 (own_QO Z x h0) := by
  have F0 := F
  obtain ⟨S__VALUES, E__VALUES, S_CYRILLIC_UPPER, E_CYRILLIC_UPPER, S_CYRILLIC_LOWER, E_CYRILLIC_LOWER, S_LATIN_UPPER, E_LATIN_UPPER, S_LATIN_LOWER, E_LATIN_LOWER, S_DIGITS, E_DIGITS, S_SPECIAL, E_SPECIAL, S_EMPTY, E_EMPTY, F_ranges_CYRILLIC_UPPER, F_ranges_CYRILLIC_LOWER, F_ranges_LATIN_UPPER, F_ranges_LATIN_LOWER, F_ranges_DIGITS, F_ranges_SPECIAL, F_value_EMPTY, V__VALUES, V_ranges_CYRILLIC_UPPER, V_ranges_CYRILLIC_LOWER, V_ranges_LATIN_UPPER, V_ranges_LATIN_LOWER, V_ranges_DIGITS, V_ranges_SPECIAL⟩ := F
  refine own_enter (LS := #[iv z, .unset, .unset, .unset, .unset, .unset]) (plainFor_of_name (by first | (simp [plainName, overriddenIn, x]; done) | decide +kernel)) (fun m => by first | (simp [entryFrame, mkF, argsToLocals, Value.category, maxLocals]; done) | rfl) ?_
  intro p e s m below meth c s₁ hx hby hml hown0 hnm hret hlk hZ X0 e0 hsh
  have hown : s.vm.findClass "com/example/kormilo/kormilo/CharacterClass" = some m.cls := hown0
  obtain ⟨T1, h1, X1, e1, E1, A1, st1⟩ := own_grow (R' := own_RC 1 1 6 14) (v := some (.ref h0.size)) (own_callS X0 hx hZ e0 (y := (⟨"com/example/kormilo/kormilo/CharacterClass", "values", "()[Lcom/example/kormilo/kormilo/CharacterClass;"⟩ : MethodName)) hown (hw _ (List.mem_of_getElem? (i := 4) rfl)) (hw _ (List.mem_of_getElem? (i := 5) rfl)) (hw _ (List.mem_of_getElem? (i := 6) rfl)) (hw _ (List.mem_of_getElem? (i := 2) rfl)) (by decide) 0 [] [] (own_values l Z a0 hw [] w__VALUES w_CYRILLIC_UPPER w_CYRILLIC_LOWER w_LATIN_UPPER w_LATIN_LOWER w_DIGITS w_SPECIAL w_EMPTY r_ranges_CYRILLIC_UPPER r_ranges_CYRILLIC_LOWER r_ranges_LATIN_UPPER r_ranges_LATIN_LOWER r_ranges_DIGITS r_ranges_SPECIAL k__VALUES k_ranges_CYRILLIC_UPPER k_ranges_CYRILLIC_LOWER k_ranges_LATIN_UPPER k_ranges_LATIN_LOWER k_ranges_DIGITS k_ranges_SPECIAL h0 F0) (by decide) (by decide) (by decide) (by decide) (g := (mkF m 0 #[iv z, .unset, .unset, .unset, .unset, .unset] [])) rfl (by rw [hml]; rfl) (lenOf pd_2 rfl) rfl (by show 2 * 0 + _ ≤ _; exact Nat.le_of_eq rfl) (hb hby d1_0))
  obtain ⟨b1, g1⟩ : ∃ z, z = h0.size := ⟨_, rfl⟩
  rw [← g1] at A1 st1
  have EX1_h0 : Ext h0 h1 := E1
  refine own_pre (T' := T1) (f' := (mkF m 3 #[iv z, .unset, .unset, .unset, .unset, .unset] [(.ref b1)])) (fun t k => st1 t k) ?_
  refine own_pre (T' := T1) (f' := (mkF m 4 #[iv z, rv b1, .unset, .unset, .unset, .unset] [])) (fun t k => XS.astoreN X1.here hx rfl (hb hby d1_3) rfl rfl (l' := #[iv z, rv b1, .unset, .unset, .unset, .unset]) rfl k) ?_
  refine own_pre (T' := T1) (f' := (mkF m 5 #[iv z, rv b1, .unset, .unset, .unset, .unset] [(.ref b1)])) (fun t k => XS.aloadN X1.here hx rfl (hb hby d1_4) rfl rfl k) ?_
  refine own_pre (T' := T1) (f' := (mkF m 6 #[iv z, rv b1, .unset, .unset, .unset, .unset] [(.int (6 : Int32))])) (fun t k => own_len X1 hx hZ e1 A1 (g := (mkF m 5 #[iv z, rv b1, .unset, .unset, .unset, .unset] [(.ref b1)])) rfl rfl (hb hby d1_5) t k) ?_
  refine own_pre (T' := T1) (f' := (mkF m 7 #[iv z, rv b1, iv (6 : Int32), .unset, .unset, .unset] [])) (fun t k => XS.istoreN X1.here hx rfl (hb hby d1_6) rfl (l' := #[iv z, rv b1, iv (6 : Int32), .unset, .unset, .unset]) rfl k) ?_
  refine own_pre (T' := T1) (f' := (mkF m 8 #[iv z, rv b1, iv (6 : Int32), .unset, .unset, .unset] [(.int (0 : Int32))])) (fun t k => XS.iconst X1.here hx rfl (hb hby d1_7) k) ?_
  refine own_pre (T' := T1) (f' := (mkF m 9 #[iv z, rv b1, iv (6 : Int32), iv (0 : Int32), .unset, .unset] [])) (fun t k => XS.istoreN X1.here hx rfl (hb hby d1_8) rfl (l' := #[iv z, rv b1, iv (6 : Int32), iv (0 : Int32), .unset, .unset]) rfl k) ?_
  refine own_pre (T' := T1) (f' := (mkF m 10 #[iv z, rv b1, iv (6 : Int32), iv (0 : Int32), .unset, .unset] [(.int (0 : Int32))])) (fun t k => XS.iloadN X1.here hx rfl (hb hby d1_9) rfl k) ?_
  refine own_pre (T' := T1) (f' := (mkF m 11 #[iv z, rv b1, iv (6 : Int32), iv (0 : Int32), .unset, .unset] [(.int (6 : Int32)), (.int (0 : Int32))])) (fun t k => XS.iloadN X1.here hx rfl (hb hby d1_10) rfl k) ?_
  refine own_pre (T' := T1) (f' := (mkF m 14 #[iv z, rv b1, iv (6 : Int32), iv (0 : Int32), .unset, .unset] [])) (fun t k => XS.icmpNo X1.here hx rfl (hb hby d1_11) rfl (tlt (by decide : (0 : Int32) < (6 : Int32))).2.1 k) ?_
  refine own_pre (T' := T1) (f' := (mkF m 15 #[iv z, rv b1, iv (6 : Int32), iv (0 : Int32), .unset, .unset] [(.ref b1)])) (fun t k => XS.aloadN X1.here hx rfl (hb hby d1_14) rfl rfl k) ?_
  refine own_pre (T' := T1) (f' := (mkF m 16 #[iv z, rv b1, iv (6 : Int32), iv (0 : Int32), .unset, .unset] [(.int (0 : Int32)), (.ref b1)])) (fun t k => XS.iloadN X1.here hx rfl (hb hby d1_15) rfl k) ?_
  refine own_pre (T' := T1) (f' := (mkF m 17 #[iv z, rv b1, iv (6 : Int32), iv (0 : Int32), .unset, .unset] [(.ref w_CYRILLIC_UPPER)])) (fun t k => own_ldR X1 hx hZ e1 A1 rfl (by decide) rfl (g := (mkF m 16 #[iv z, rv b1, iv (6 : Int32), iv (0 : Int32), .unset, .unset] [(.int (0 : Int32)), (.ref b1)])) rfl rfl (hb hby d1_16) t k) ?_
  refine own_pre (T' := T1) (f' := (mkF m 19 #[iv z, rv b1, iv (6 : Int32), iv (0 : Int32), rv w_CYRILLIC_UPPER, .unset] [])) (fun t k => XS.astore X1.here hx rfl (hb hby d1_17) rfl rfl (l' := #[iv z, rv b1, iv (6 : Int32), iv (0 : Int32), rv w_CYRILLIC_UPPER, .unset]) rfl k) ?_
  refine own_pre (T' := T1) (f' := (mkF m 20 #[iv z, rv b1, iv (6 : Int32), iv (0 : Int32), rv w_CYRILLIC_UPPER, .unset] [(.int (0 : Int32))])) (fun t k => XS.iconst X1.here hx rfl (hb hby d1_19) k) ?_
  refine own_pre (T' := T1) (f' := (mkF m 22 #[iv z, rv b1, iv (6 : Int32), iv (0 : Int32), rv w_CYRILLIC_UPPER, iv (0 : Int32)] [])) (fun t k => XS.istore X1.here hx rfl (hb hby d1_20) rfl (l' := #[iv z, rv b1, iv (6 : Int32), iv (0 : Int32), rv w_CYRILLIC_UPPER, iv (0 : Int32)]) rfl k) ?_
  refine own_pre (T' := T1) (f' := (mkF m 24 #[iv z, rv b1, iv (6 : Int32), iv (0 : Int32), rv w_CYRILLIC_UPPER, iv (0 : Int32)] [(.int (0 : Int32))])) (fun t k => XS.iload X1.here hx rfl (hb hby d1_22) rfl k) ?_
  refine own_pre (T' := T1) (f' := (mkF m 26 #[iv z, rv b1, iv (6 : Int32), iv (0 : Int32), rv w_CYRILLIC_UPPER, iv (0 : Int32)] [(.ref w_CYRILLIC_UPPER), (.int (0 : Int32))])) (fun t k => XS.aload X1.here hx rfl (hb hby d1_24) rfl rfl k) ?_
  obtain ⟨T2, X2, e2, st2⟩ := getF X1 hx hZ hown (host := "") (Or.inl (hw _ (List.mem_of_getElem? (i := 25) rfl))) Via.refl e1 (F_ranges_CYRILLIC_UPPER.ext EX1_h0) (g := (mkF m 26 #[iv z, rv b1, iv (6 : Int32), iv (0 : Int32), rv w_CYRILLIC_UPPER, iv (0 : Int32)] [(.ref w_CYRILLIC_UPPER), (.int (0 : Int32))])) rfl rfl (hb hby d1_26)
  refine own_pre (T' := T2) (f' := (mkF m 29 #[iv z, rv b1, iv (6 : Int32), iv (0 : Int32), rv w_CYRILLIC_UPPER, iv (0 : Int32)] [(.ref r_ranges_CYRILLIC_UPPER), (.int (0 : Int32))])) (fun t k => st2 t k) ?_
  refine own_pre (T' := T2) (f' := (mkF m 30 #[iv z, rv b1, iv (6 : Int32), iv (0 : Int32), rv w_CYRILLIC_UPPER, iv (0 : Int32)] [(.int (4 : Int32)), (.int (0 : Int32))])) (fun t k => own_len X2 hx hZ e2 (V_ranges_CYRILLIC_UPPER.ext EX1_h0) (g := (mkF m 29 #[iv z, rv b1, iv (6 : Int32), iv (0 : Int32), rv w_CYRILLIC_UPPER, iv (0 : Int32)] [(.ref r_ranges_CYRILLIC_UPPER), (.int (0 : Int32))])) rfl rfl (hb hby d1_29) t k) ?_
  refine own_pre (T' := T2) (f' := (mkF m 33 #[iv z, rv b1, iv (6 : Int32), iv (0 : Int32), rv w_CYRILLIC_UPPER, iv (0 : Int32)] [])) (fun t k => XS.icmpNo X2.here hx rfl (hb hby d1_30) rfl (tlt (by decide : (0 : Int32) < (4 : Int32))).2.1 k) ?_
  have sk0_0 : ∀ (Tsk0_0 : State), Stand p l e (own_RC 3 2 7 38) s m #[(.int z)] below meth c Tsk0_0 [] 1 6 → Tsk0_0.heap = h1 → own_o z (1040 : Int32) (1071 : Int32) = true → own_G p.tables e below Tsk0_0 (mkF m 65 #[iv z, rv b1, iv (6 : Int32), iv (0 : Int32), rv w_CYRILLIC_UPPER, iv (0 : Int32)] []) (own_P (own_RC 3 2 7 38) s (own_QO Z x h0)) := by
    intro Tsk0_0 Xsk0_0 esk0_0 osk0_0
    refine own_pre (T' := Tsk0_0) (f' := (mkF m 68 #[iv z, rv b1, iv (6 : Int32), iv (0 : Int32), rv w_CYRILLIC_UPPER, iv ((0 : Int32) + (2 : Int32))] [])) (fun t k => XS.iinc Xsk0_0.here hx rfl (hb hby d1_65) rfl (l' := #[iv z, rv b1, iv (6 : Int32), iv (0 : Int32), rv w_CYRILLIC_UPPER, iv ((0 : Int32) + (2 : Int32))]) rfl k) ?_
    rw [show ((0 : Int32) + (2 : Int32)) = (2 : Int32) from by decide]
    refine own_pre (T' := Tsk0_0) (f' := (mkF m 22 #[iv z, rv b1, iv (6 : Int32), iv (0 : Int32), rv w_CYRILLIC_UPPER, iv (2 : Int32)] [])) (fun t k => XS.goto Xsk0_0.here hx rfl (pc0 := 68) (pc' := 22) rfl (hb hby d1_68) (by decide) (by decide) k) ?_
    refine own_pre (T' := Tsk0_0) (f' := (mkF m 24 #[iv z, rv b1, iv (6 : Int32), iv (0 : Int32), rv w_CYRILLIC_UPPER, iv (2 : Int32)] [(.int (2 : Int32))])) (fun t k => XS.iload Xsk0_0.here hx rfl (hb hby d1_22) rfl k) ?_
    refine own_pre (T' := Tsk0_0) (f' := (mkF m 26 #[iv z, rv b1, iv (6 : Int32), iv (0 : Int32), rv w_CYRILLIC_UPPER, iv (2 : Int32)] [(.ref w_CYRILLIC_UPPER), (.int (2 : Int32))])) (fun t k => XS.aload Xsk0_0.here hx rfl (hb hby d1_24) rfl rfl k) ?_
    obtain ⟨T3, X3, e3, st3⟩ := getF Xsk0_0 hx hZ hown (host := "") (Or.inl (hw _ (List.mem_of_getElem? (i := 25) rfl))) Via.refl esk0_0 (F_ranges_CYRILLIC_UPPER.ext EX1_h0) (g := (mkF m 26 #[iv z, rv b1, iv (6 : Int32), iv (0 : Int32), rv w_CYRILLIC_UPPER, iv (2 : Int32)] [(.ref w_CYRILLIC_UPPER), (.int (2 : Int32))])) rfl rfl (hb hby d1_26)
    refine own_pre (T' := T3) (f' := (mkF m 29 #[iv z, rv b1, iv (6 : Int32), iv (0 : Int32), rv w_CYRILLIC_UPPER, iv (2 : Int32)] [(.ref r_ranges_CYRILLIC_UPPER), (.int (2 : Int32))])) (fun t k => st3 t k) ?_
    refine own_pre (T' := T3) (f' := (mkF m 30 #[iv z, rv b1, iv (6 : Int32), iv (0 : Int32), rv w_CYRILLIC_UPPER, iv (2 : Int32)] [(.int (4 : Int32)), (.int (2 : Int32))])) (fun t k => own_len X3 hx hZ e3 (V_ranges_CYRILLIC_UPPER.ext EX1_h0) (g := (mkF m 29 #[iv z, rv b1, iv (6 : Int32), iv (0 : Int32), rv w_CYRILLIC_UPPER, iv (2 : Int32)] [(.ref r_ranges_CYRILLIC_UPPER), (.int (2 : Int32))])) rfl rfl (hb hby d1_29) t k) ?_
    refine own_pre (T' := T3) (f' := (mkF m 33 #[iv z, rv b1, iv (6 : Int32), iv (0 : Int32), rv w_CYRILLIC_UPPER, iv (2 : Int32)] [])) (fun t k => XS.icmpNo X3.here hx rfl (hb hby d1_30) rfl (tlt (by decide : (2 : Int32) < (4 : Int32))).2.1 k) ?_
    have sk0_2 : ∀ (Tsk0_2 : State), Stand p l e (own_RC 3 2 7 38) s m #[(.int z)] below meth c Tsk0_2 [] 1 6 → Tsk0_2.heap = h1 → own_o z (1025 : Int32) (1025 : Int32) = true → own_G p.tables e below Tsk0_2 (mkF m 65 #[iv z, rv b1, iv (6 : Int32), iv (0 : Int32), rv w_CYRILLIC_UPPER, iv (2 : Int32)] []) (own_P (own_RC 3 2 7 38) s (own_QO Z x h0)) := by
      intro Tsk0_2 Xsk0_2 esk0_2 osk0_2
      refine own_pre (T' := Tsk0_2) (f' := (mkF m 68 #[iv z, rv b1, iv (6 : Int32), iv (0 : Int32), rv w_CYRILLIC_UPPER, iv ((2 : Int32) + (2 : Int32))] [])) (fun t k => XS.iinc Xsk0_2.here hx rfl (hb hby d1_65) rfl (l' := #[iv z, rv b1, iv (6 : Int32), iv (0 : Int32), rv w_CYRILLIC_UPPER, iv ((2 : Int32) + (2 : Int32))]) rfl k) ?_
      rw [show ((2 : Int32) + (2 : Int32)) = (4 : Int32) from by decide]
      refine own_pre (T' := Tsk0_2) (f' := (mkF m 22 #[iv z, rv b1, iv (6 : Int32), iv (0 : Int32), rv w_CYRILLIC_UPPER, iv (4 : Int32)] [])) (fun t k => XS.goto Xsk0_2.here hx rfl (pc0 := 68) (pc' := 22) rfl (hb hby d1_68) (by decide) (by decide) k) ?_
      refine own_pre (T' := Tsk0_2) (f' := (mkF m 24 #[iv z, rv b1, iv (6 : Int32), iv (0 : Int32), rv w_CYRILLIC_UPPER, iv (4 : Int32)] [(.int (4 : Int32))])) (fun t k => XS.iload Xsk0_2.here hx rfl (hb hby d1_22) rfl k) ?_
      refine own_pre (T' := Tsk0_2) (f' := (mkF m 26 #[iv z, rv b1, iv (6 : Int32), iv (0 : Int32), rv w_CYRILLIC_UPPER, iv (4 : Int32)] [(.ref w_CYRILLIC_UPPER), (.int (4 : Int32))])) (fun t k => XS.aload Xsk0_2.here hx rfl (hb hby d1_24) rfl rfl k) ?_
      obtain ⟨T4, X4, e4, st4⟩ := getF Xsk0_2 hx hZ hown (host := "") (Or.inl (hw _ (List.mem_of_getElem? (i := 25) rfl))) Via.refl esk0_2 (F_ranges_CYRILLIC_UPPER.ext EX1_h0) (g := (mkF m 26 #[iv z, rv b1, iv (6 : Int32), iv (0 : Int32), rv w_CYRILLIC_UPPER, iv (4 : Int32)] [(.ref w_CYRILLIC_UPPER), (.int (4 : Int32))])) rfl rfl (hb hby d1_26)
      refine own_pre (T' := T4) (f' := (mkF m 29 #[iv z, rv b1, iv (6 : Int32), iv (0 : Int32), rv w_CYRILLIC_UPPER, iv (4 : Int32)] [(.ref r_ranges_CYRILLIC_UPPER), (.int (4 : Int32))])) (fun t k => st4 t k) ?_
      refine own_pre (T' := T4) (f' := (mkF m 30 #[iv z, rv b1, iv (6 : Int32), iv (0 : Int32), rv w_CYRILLIC_UPPER, iv (4 : Int32)] [(.int (4 : Int32)), (.int (4 : Int32))])) (fun t k => own_len X4 hx hZ e4 (V_ranges_CYRILLIC_UPPER.ext EX1_h0) (g := (mkF m 29 #[iv z, rv b1, iv (6 : Int32), iv (0 : Int32), rv w_CYRILLIC_UPPER, iv (4 : Int32)] [(.ref r_ranges_CYRILLIC_UPPER), (.int (4 : Int32))])) rfl rfl (hb hby d1_29) t k) ?_
      refine own_pre (T' := T4) (f' := (mkF m 71 #[iv z, rv b1, iv (6 : Int32), iv (0 : Int32), rv w_CYRILLIC_UPPER, iv (4 : Int32)] [])) (fun t k => XS.icmpYes X4.here hx rfl (pc0 := 30) (pc' := 71) rfl (hb hby d1_30) rfl (flt (by decide : ¬ ((4 : Int32) < (4 : Int32)))).2.1 (by decide) (by decide) k) ?_
      refine own_pre (T' := T4) (f' := (mkF m 74 #[iv z, rv b1, iv (6 : Int32), iv ((0 : Int32) + (1 : Int32)), rv w_CYRILLIC_UPPER, iv (4 : Int32)] [])) (fun t k => XS.iinc X4.here hx rfl (hb hby d1_71) rfl (l' := #[iv z, rv b1, iv (6 : Int32), iv ((0 : Int32) + (1 : Int32)), rv w_CYRILLIC_UPPER, iv (4 : Int32)]) rfl k) ?_
      rw [show ((0 : Int32) + (1 : Int32)) = (1 : Int32) from by decide]
      refine own_pre (T' := T4) (f' := (mkF m 9 #[iv z, rv b1, iv (6 : Int32), iv (1 : Int32), rv w_CYRILLIC_UPPER, iv (4 : Int32)] [])) (fun t k => XS.goto X4.here hx rfl (pc0 := 74) (pc' := 9) rfl (hb hby d1_74) (by decide) (by decide) k) ?_
      refine own_pre (T' := T4) (f' := (mkF m 10 #[iv z, rv b1, iv (6 : Int32), iv (1 : Int32), rv w_CYRILLIC_UPPER, iv (4 : Int32)] [(.int (1 : Int32))])) (fun t k => XS.iloadN X4.here hx rfl (hb hby d1_9) rfl k) ?_
      refine own_pre (T' := T4) (f' := (mkF m 11 #[iv z, rv b1, iv (6 : Int32), iv (1 : Int32), rv w_CYRILLIC_UPPER, iv (4 : Int32)] [(.int (6 : Int32)), (.int (1 : Int32))])) (fun t k => XS.iloadN X4.here hx rfl (hb hby d1_10) rfl k) ?_
      refine own_pre (T' := T4) (f' := (mkF m 14 #[iv z, rv b1, iv (6 : Int32), iv (1 : Int32), rv w_CYRILLIC_UPPER, iv (4 : Int32)] [])) (fun t k => XS.icmpNo X4.here hx rfl (hb hby d1_11) rfl (tlt (by decide : (1 : Int32) < (6 : Int32))).2.1 k) ?_
      refine own_pre (T' := T4) (f' := (mkF m 15 #[iv z, rv b1, iv (6 : Int32), iv (1 : Int32), rv w_CYRILLIC_UPPER, iv (4 : Int32)] [(.ref b1)])) (fun t k => XS.aloadN X4.here hx rfl (hb hby d1_14) rfl rfl k) ?_
      refine own_pre (T' := T4) (f' := (mkF m 16 #[iv z, rv b1, iv (6 : Int32), iv (1 : Int32), rv w_CYRILLIC_UPPER, iv (4 : Int32)] [(.int (1 : Int32)), (.ref b1)])) (fun t k => XS.iloadN X4.here hx rfl (hb hby d1_15) rfl k) ?_
      refine own_pre (T' := T4) (f' := (mkF m 17 #[iv z, rv b1, iv (6 : Int32), iv (1 : Int32), rv w_CYRILLIC_UPPER, iv (4 : Int32)] [(.ref w_CYRILLIC_LOWER)])) (fun t k => own_ldR X4 hx hZ e4 A1 rfl (by decide) rfl (g := (mkF m 16 #[iv z, rv b1, iv (6 : Int32), iv (1 : Int32), rv w_CYRILLIC_UPPER, iv (4 : Int32)] [(.int (1 : Int32)), (.ref b1)])) rfl rfl (hb hby d1_16) t k) ?_
      refine own_pre (T' := T4) (f' := (mkF m 19 #[iv z, rv b1, iv (6 : Int32), iv (1 : Int32), rv w_CYRILLIC_LOWER, iv (4 : Int32)] [])) (fun t k => XS.astore X4.here hx rfl (hb hby d1_17) rfl rfl (l' := #[iv z, rv b1, iv (6 : Int32), iv (1 : Int32), rv w_CYRILLIC_LOWER, iv (4 : Int32)]) rfl k) ?_
      refine own_pre (T' := T4) (f' := (mkF m 20 #[iv z, rv b1, iv (6 : Int32), iv (1 : Int32), rv w_CYRILLIC_LOWER, iv (4 : Int32)] [(.int (0 : Int32))])) (fun t k => XS.iconst X4.here hx rfl (hb hby d1_19) k) ?_
      refine own_pre (T' := T4) (f' := (mkF m 22 #[iv z, rv b1, iv (6 : Int32), iv (1 : Int32), rv w_CYRILLIC_LOWER, iv (0 : Int32)] [])) (fun t k => XS.istore X4.here hx rfl (hb hby d1_20) rfl (l' := #[iv z, rv b1, iv (6 : Int32), iv (1 : Int32), rv w_CYRILLIC_LOWER, iv (0 : Int32)]) rfl k) ?_
      refine own_pre (T' := T4) (f' := (mkF m 24 #[iv z, rv b1, iv (6 : Int32), iv (1 : Int32), rv w_CYRILLIC_LOWER, iv (0 : Int32)] [(.int (0 : Int32))])) (fun t k => XS.iload X4.here hx rfl (hb hby d1_22) rfl k) ?_
      refine own_pre (T' := T4) (f' := (mkF m 26 #[iv z, rv b1, iv (6 : Int32), iv (1 : Int32), rv w_CYRILLIC_LOWER, iv (0 : Int32)] [(.ref w_CYRILLIC_LOWER), (.int (0 : Int32))])) (fun t k => XS.aload X4.here hx rfl (hb hby d1_24) rfl rfl k) ?_
      obtain ⟨T5, X5, e5, st5⟩ := getF X4 hx hZ hown (host := "") (Or.inl (hw _ (List.mem_of_getElem? (i := 25) rfl))) Via.refl e4 (F_ranges_CYRILLIC_LOWER.ext EX1_h0) (g := (mkF m 26 #[iv z, rv b1, iv (6 : Int32), iv (1 : Int32), rv w_CYRILLIC_LOWER, iv (0 : Int32)] [(.ref w_CYRILLIC_LOWER), (.int (0 : Int32))])) rfl rfl (hb hby d1_26)
      refine own_pre (T' := T5) (f' := (mkF m 29 #[iv z, rv b1, iv (6 : Int32), iv (1 : Int32), rv w_CYRILLIC_LOWER, iv (0 : Int32)] [(.ref r_ranges_CYRILLIC_LOWER), (.int (0 : Int32))])) (fun t k => st5 t k) ?_
      refine own_pre (T' := T5) (f' := (mkF m 30 #[iv z, rv b1, iv (6 : Int32), iv (1 : Int32), rv w_CYRILLIC_LOWER, iv (0 : Int32)] [(.int (4 : Int32)), (.int (0 : Int32))])) (fun t k => own_len X5 hx hZ e5 (V_ranges_CYRILLIC_LOWER.ext EX1_h0) (g := (mkF m 29 #[iv z, rv b1, iv (6 : Int32), iv (1 : Int32), rv w_CYRILLIC_LOWER, iv (0 : Int32)] [(.ref r_ranges_CYRILLIC_LOWER), (.int (0 : Int32))])) rfl rfl (hb hby d1_29) t k) ?_
      refine own_pre (T' := T5) (f' := (mkF m 33 #[iv z, rv b1, iv (6 : Int32), iv (1 : Int32), rv w_CYRILLIC_LOWER, iv (0 : Int32)] [])) (fun t k => XS.icmpNo X5.here hx rfl (hb hby d1_30) rfl (tlt (by decide : (0 : Int32) < (4 : Int32))).2.1 k) ?_
      have sk1_0 : ∀ (Tsk1_0 : State), Stand p l e (own_RC 3 2 7 38) s m #[(.int z)] below meth c Tsk1_0 [] 1 6 → Tsk1_0.heap = h1 → own_o z (1072 : Int32) (1103 : Int32) = true → own_G p.tables e below Tsk1_0 (mkF m 65 #[iv z, rv b1, iv (6 : Int32), iv (1 : Int32), rv w_CYRILLIC_LOWER, iv (0 : Int32)] []) (own_P (own_RC 3 2 7 38) s (own_QO Z x h0)) := by
        intro Tsk1_0 Xsk1_0 esk1_0 osk1_0
        refine own_pre (T' := Tsk1_0) (f' := (mkF m 68 #[iv z, rv b1, iv (6 : Int32), iv (1 : Int32), rv w_CYRILLIC_LOWER, iv ((0 : Int32) + (2 : Int32))] [])) (fun t k => XS.iinc Xsk1_0.here hx rfl (hb hby d1_65) rfl (l' := #[iv z, rv b1, iv (6 : Int32), iv (1 : Int32), rv w_CYRILLIC_LOWER, iv ((0 : Int32) + (2 : Int32))]) rfl k) ?_
        rw [show ((0 : Int32) + (2 : Int32)) = (2 : Int32) from by decide]
        refine own_pre (T' := Tsk1_0) (f' := (mkF m 22 #[iv z, rv b1, iv (6 : Int32), iv (1 : Int32), rv w_CYRILLIC_LOWER, iv (2 : Int32)] [])) (fun t k => XS.goto Xsk1_0.here hx rfl (pc0 := 68) (pc' := 22) rfl (hb hby d1_68) (by decide) (by decide) k) ?_
        refine own_pre (T' := Tsk1_0) (f' := (mkF m 24 #[iv z, rv b1, iv (6 : Int32), iv (1 : Int32), rv w_CYRILLIC_LOWER, iv (2 : Int32)] [(.int (2 : Int32))])) (fun t k => XS.iload Xsk1_0.here hx rfl (hb hby d1_22) rfl k) ?_
        refine own_pre (T' := Tsk1_0) (f' := (mkF m 26 #[iv z, rv b1, iv (6 : Int32), iv (1 : Int32), rv w_CYRILLIC_LOWER, iv (2 : Int32)] [(.ref w_CYRILLIC_LOWER), (.int (2 : Int32))])) (fun t k => XS.aload Xsk1_0.here hx rfl (hb hby d1_24) rfl rfl k) ?_
        obtain ⟨T6, X6, e6, st6⟩ := getF Xsk1_0 hx hZ hown (host := "") (Or.inl (hw _ (List.mem_of_getElem? (i := 25) rfl))) Via.refl esk1_0 (F_ranges_CYRILLIC_LOWER.ext EX1_h0) (g := (mkF m 26 #[iv z, rv b1, iv (6 : Int32), iv (1 : Int32), rv w_CYRILLIC_LOWER, iv (2 : Int32)] [(.ref w_CYRILLIC_LOWER), (.int (2 : Int32))])) rfl rfl (hb hby d1_26)
        refine own_pre (T' := T6) (f' := (mkF m 29 #[iv z, rv b1, iv (6 : Int32), iv (1 : Int32), rv w_CYRILLIC_LOWER, iv (2 : Int32)] [(.ref r_ranges_CYRILLIC_LOWER), (.int (2 : Int32))])) (fun t k => st6 t k) ?_
        refine own_pre (T' := T6) (f' := (mkF m 30 #[iv z, rv b1, iv (6 : Int32), iv (1 : Int32), rv w_CYRILLIC_LOWER, iv (2 : Int32)] [(.int (4 : Int32)), (.int (2 : Int32))])) (fun t k => own_len X6 hx hZ e6 (V_ranges_CYRILLIC_LOWER.ext EX1_h0) (g := (mkF m 29 #[iv z, rv b1, iv (6 : Int32), iv (1 : Int32), rv w_CYRILLIC_LOWER, iv (2 : Int32)] [(.ref r_ranges_CYRILLIC_LOWER), (.int (2 : Int32))])) rfl rfl (hb hby d1_29) t k) ?_
        refine own_pre (T' := T6) (f' := (mkF m 33 #[iv z, rv b1, iv (6 : Int32), iv (1 : Int32), rv w_CYRILLIC_LOWER, iv (2 : Int32)] [])) (fun t k => XS.icmpNo X6.here hx rfl (hb hby d1_30) rfl (tlt (by decide : (2 : Int32) < (4 : Int32))).2.1 k) ?_
        have sk1_2 : ∀ (Tsk1_2 : State), Stand p l e (own_RC 3 2 7 38) s m #[(.int z)] below meth c Tsk1_2 [] 1 6 → Tsk1_2.heap = h1 → own_o z (1105 : Int32) (1105 : Int32) = true → own_G p.tables e below Tsk1_2 (mkF m 65 #[iv z, rv b1, iv (6 : Int32), iv (1 : Int32), rv w_CYRILLIC_LOWER, iv (2 : Int32)] []) (own_P (own_RC 3 2 7 38) s (own_QO Z x h0)) := by
          intro Tsk1_2 Xsk1_2 esk1_2 osk1_2
          refine own_pre (T' := Tsk1_2) (f' := (mkF m 68 #[iv z, rv b1, iv (6 : Int32), iv (1 : Int32), rv w_CYRILLIC_LOWER, iv ((2 : Int32) + (2 : Int32))] [])) (fun t k => XS.iinc Xsk1_2.here hx rfl (hb hby d1_65) rfl (l' := #[iv z, rv b1, iv (6 : Int32), iv (1 : Int32), rv w_CYRILLIC_LOWER, iv ((2 : Int32) + (2 : Int32))]) rfl k) ?_
          rw [show ((2 : Int32) + (2 : Int32)) = (4 : Int32) from by decide]
          refine own_pre (T' := Tsk1_2) (f' := (mkF m 22 #[iv z, rv b1, iv (6 : Int32), iv (1 : Int32), rv w_CYRILLIC_LOWER, iv (4 : Int32)] [])) (fun t k => XS.goto Xsk1_2.here hx rfl (pc0 := 68) (pc' := 22) rfl (hb hby d1_68) (by decide) (by decide) k) ?_
          refine own_pre (T' := Tsk1_2) (f' := (mkF m 24 #[iv z, rv b1, iv (6 : Int32), iv (1 : Int32), rv w_CYRILLIC_LOWER, iv (4 : Int32)] [(.int (4 : Int32))])) (fun t k => XS.iload Xsk1_2.here hx rfl (hb hby d1_22) rfl k) ?_
          refine own_pre (T' := Tsk1_2) (f' := (mkF m 26 #[iv z, rv b1, iv (6 : Int32), iv (1 : Int32), rv w_CYRILLIC_LOWER, iv (4 : Int32)] [(.ref w_CYRILLIC_LOWER), (.int (4 : Int32))])) (fun t k => XS.aload Xsk1_2.here hx rfl (hb hby d1_24) rfl rfl k) ?_
          obtain ⟨T7, X7, e7, st7⟩ := getF Xsk1_2 hx hZ hown (host := "") (Or.inl (hw _ (List.mem_of_getElem? (i := 25) rfl))) Via.refl esk1_2 (F_ranges_CYRILLIC_LOWER.ext EX1_h0) (g := (mkF m 26 #[iv z, rv b1, iv (6 : Int32), iv (1 : Int32), rv w_CYRILLIC_LOWER, iv (4 : Int32)] [(.ref w_CYRILLIC_LOWER), (.int (4 : Int32))])) rfl rfl (hb hby d1_26)
          refine own_pre (T' := T7) (f' := (mkF m 29 #[iv z, rv b1, iv (6 : Int32), iv (1 : Int32), rv w_CYRILLIC_LOWER, iv (4 : Int32)] [(.ref r_ranges_CYRILLIC_LOWER), (.int (4 : Int32))])) (fun t k => st7 t k) ?_
          refine own_pre (T' := T7) (f' := (mkF m 30 #[iv z, rv b1, iv (6 : Int32), iv (1 : Int32), rv w_CYRILLIC_LOWER, iv (4 : Int32)] [(.int (4 : Int32)), (.int (4 : Int32))])) (fun t k => own_len X7 hx hZ e7 (V_ranges_CYRILLIC_LOWER.ext EX1_h0) (g := (mkF m 29 #[iv z, rv b1, iv (6 : Int32), iv (1 : Int32), rv w_CYRILLIC_LOWER, iv (4 : Int32)] [(.ref r_ranges_CYRILLIC_LOWER), (.int (4 : Int32))])) rfl rfl (hb hby d1_29) t k) ?_
          refine own_pre (T' := T7) (f' := (mkF m 71 #[iv z, rv b1, iv (6 : Int32), iv (1 : Int32), rv w_CYRILLIC_LOWER, iv (4 : Int32)] [])) (fun t k => XS.icmpYes X7.here hx rfl (pc0 := 30) (pc' := 71) rfl (hb hby d1_30) rfl (flt (by decide : ¬ ((4 : Int32) < (4 : Int32)))).2.1 (by decide) (by decide) k) ?_
          refine own_pre (T' := T7) (f' := (mkF m 74 #[iv z, rv b1, iv (6 : Int32), iv ((1 : Int32) + (1 : Int32)), rv w_CYRILLIC_LOWER, iv (4 : Int32)] [])) (fun t k => XS.iinc X7.here hx rfl (hb hby d1_71) rfl (l' := #[iv z, rv b1, iv (6 : Int32), iv ((1 : Int32) + (1 : Int32)), rv w_CYRILLIC_LOWER, iv (4 : Int32)]) rfl k) ?_
          rw [show ((1 : Int32) + (1 : Int32)) = (2 : Int32) from by decide]
          refine own_pre (T' := T7) (f' := (mkF m 9 #[iv z, rv b1, iv (6 : Int32), iv (2 : Int32), rv w_CYRILLIC_LOWER, iv (4 : Int32)] [])) (fun t k => XS.goto X7.here hx rfl (pc0 := 74) (pc' := 9) rfl (hb hby d1_74) (by decide) (by decide) k) ?_
          refine own_pre (T' := T7) (f' := (mkF m 10 #[iv z, rv b1, iv (6 : Int32), iv (2 : Int32), rv w_CYRILLIC_LOWER, iv (4 : Int32)] [(.int (2 : Int32))])) (fun t k => XS.iloadN X7.here hx rfl (hb hby d1_9) rfl k) ?_
          refine own_pre (T' := T7) (f' := (mkF m 11 #[iv z, rv b1, iv (6 : Int32), iv (2 : Int32), rv w_CYRILLIC_LOWER, iv (4 : Int32)] [(.int (6 : Int32)), (.int (2 : Int32))])) (fun t k => XS.iloadN X7.here hx rfl (hb hby d1_10) rfl k) ?_
          refine own_pre (T' := T7) (f' := (mkF m 14 #[iv z, rv b1, iv (6 : Int32), iv (2 : Int32), rv w_CYRILLIC_LOWER, iv (4 : Int32)] [])) (fun t k => XS.icmpNo X7.here hx rfl (hb hby d1_11) rfl (tlt (by decide : (2 : Int32) < (6 : Int32))).2.1 k) ?_
          refine own_pre (T' := T7) (f' := (mkF m 15 #[iv z, rv b1, iv (6 : Int32), iv (2 : Int32), rv w_CYRILLIC_LOWER, iv (4 : Int32)] [(.ref b1)])) (fun t k => XS.aloadN X7.here hx rfl (hb hby d1_14) rfl rfl k) ?_
          refine own_pre (T' := T7) (f' := (mkF m 16 #[iv z, rv b1, iv (6 : Int32), iv (2 : Int32), rv w_CYRILLIC_LOWER, iv (4 : Int32)] [(.int (2 : Int32)), (.ref b1)])) (fun t k => XS.iloadN X7.here hx rfl (hb hby d1_15) rfl k) ?_
          refine own_pre (T' := T7) (f' := (mkF m 17 #[iv z, rv b1, iv (6 : Int32), iv (2 : Int32), rv w_CYRILLIC_LOWER, iv (4 : Int32)] [(.ref w_LATIN_UPPER)])) (fun t k => own_ldR X7 hx hZ e7 A1 rfl (by decide) rfl (g := (mkF m 16 #[iv z, rv b1, iv (6 : Int32), iv (2 : Int32), rv w_CYRILLIC_LOWER, iv (4 : Int32)] [(.int (2 : Int32)), (.ref b1)])) rfl rfl (hb hby d1_16) t k) ?_
          refine own_pre (T' := T7) (f' := (mkF m 19 #[iv z, rv b1, iv (6 : Int32), iv (2 : Int32), rv w_LATIN_UPPER, iv (4 : Int32)] [])) (fun t k => XS.astore X7.here hx rfl (hb hby d1_17) rfl rfl (l' := #[iv z, rv b1, iv (6 : Int32), iv (2 : Int32), rv w_LATIN_UPPER, iv (4 : Int32)]) rfl k) ?_
          refine own_pre (T' := T7) (f' := (mkF m 20 #[iv z, rv b1, iv (6 : Int32), iv (2 : Int32), rv w_LATIN_UPPER, iv (4 : Int32)] [(.int (0 : Int32))])) (fun t k => XS.iconst X7.here hx rfl (hb hby d1_19) k) ?_
          refine own_pre (T' := T7) (f' := (mkF m 22 #[iv z, rv b1, iv (6 : Int32), iv (2 : Int32), rv w_LATIN_UPPER, iv (0 : Int32)] [])) (fun t k => XS.istore X7.here hx rfl (hb hby d1_20) rfl (l' := #[iv z, rv b1, iv (6 : Int32), iv (2 : Int32), rv w_LATIN_UPPER, iv (0 : Int32)]) rfl k) ?_
          refine own_pre (T' := T7) (f' := (mkF m 24 #[iv z, rv b1, iv (6 : Int32), iv (2 : Int32), rv w_LATIN_UPPER, iv (0 : Int32)] [(.int (0 : Int32))])) (fun t k => XS.iload X7.here hx rfl (hb hby d1_22) rfl k) ?_
          refine own_pre (T' := T7) (f' := (mkF m 26 #[iv z, rv b1, iv (6 : Int32), iv (2 : Int32), rv w_LATIN_UPPER, iv (0 : Int32)] [(.ref w_LATIN_UPPER), (.int (0 : Int32))])) (fun t k => XS.aload X7.here hx rfl (hb hby d1_24) rfl rfl k) ?_
          obtain ⟨T8, X8, e8, st8⟩ := getF X7 hx hZ hown (host := "") (Or.inl (hw _ (List.mem_of_getElem? (i := 25) rfl))) Via.refl e7 (F_ranges_LATIN_UPPER.ext EX1_h0) (g := (mkF m 26 #[iv z, rv b1, iv (6 : Int32), iv (2 : Int32), rv w_LATIN_UPPER, iv (0 : Int32)] [(.ref w_LATIN_UPPER), (.int (0 : Int32))])) rfl rfl (hb hby d1_26)
          refine own_pre (T' := T8) (f' := (mkF m 29 #[iv z, rv b1, iv (6 : Int32), iv (2 : Int32), rv w_LATIN_UPPER, iv (0 : Int32)] [(.ref r_ranges_LATIN_UPPER), (.int (0 : Int32))])) (fun t k => st8 t k) ?_
          refine own_pre (T' := T8) (f' := (mkF m 30 #[iv z, rv b1, iv (6 : Int32), iv (2 : Int32), rv w_LATIN_UPPER, iv (0 : Int32)] [(.int (2 : Int32)), (.int (0 : Int32))])) (fun t k => own_len X8 hx hZ e8 (V_ranges_LATIN_UPPER.ext EX1_h0) (g := (mkF m 29 #[iv z, rv b1, iv (6 : Int32), iv (2 : Int32), rv w_LATIN_UPPER, iv (0 : Int32)] [(.ref r_ranges_LATIN_UPPER), (.int (0 : Int32))])) rfl rfl (hb hby d1_29) t k) ?_
          refine own_pre (T' := T8) (f' := (mkF m 33 #[iv z, rv b1, iv (6 : Int32), iv (2 : Int32), rv w_LATIN_UPPER, iv (0 : Int32)] [])) (fun t k => XS.icmpNo X8.here hx rfl (hb hby d1_30) rfl (tlt (by decide : (0 : Int32) < (2 : Int32))).2.1 k) ?_
          have sk2_0 : ∀ (Tsk2_0 : State), Stand p l e (own_RC 3 2 7 38) s m #[(.int z)] below meth c Tsk2_0 [] 1 6 → Tsk2_0.heap = h1 → own_o z (65 : Int32) (90 : Int32) = true → own_G p.tables e below Tsk2_0 (mkF m 65 #[iv z, rv b1, iv (6 : Int32), iv (2 : Int32), rv w_LATIN_UPPER, iv (0 : Int32)] []) (own_P (own_RC 3 2 7 38) s (own_QO Z x h0)) := by
            intro Tsk2_0 Xsk2_0 esk2_0 osk2_0
            refine own_pre (T' := Tsk2_0) (f' := (mkF m 68 #[iv z, rv b1, iv (6 : Int32), iv (2 : Int32), rv w_LATIN_UPPER, iv ((0 : Int32) + (2 : Int32))] [])) (fun t k => XS.iinc Xsk2_0.here hx rfl (hb hby d1_65) rfl (l' := #[iv z, rv b1, iv (6 : Int32), iv (2 : Int32), rv w_LATIN_UPPER, iv ((0 : Int32) + (2 : Int32))]) rfl k) ?_
            rw [show ((0 : Int32) + (2 : Int32)) = (2 : Int32) from by decide]
            refine own_pre (T' := Tsk2_0) (f' := (mkF m 22 #[iv z, rv b1, iv (6 : Int32), iv (2 : Int32), rv w_LATIN_UPPER, iv (2 : Int32)] [])) (fun t k => XS.goto Xsk2_0.here hx rfl (pc0 := 68) (pc' := 22) rfl (hb hby d1_68) (by decide) (by decide) k) ?_
            refine own_pre (T' := Tsk2_0) (f' := (mkF m 24 #[iv z, rv b1, iv (6 : Int32), iv (2 : Int32), rv w_LATIN_UPPER, iv (2 : Int32)] [(.int (2 : Int32))])) (fun t k => XS.iload Xsk2_0.here hx rfl (hb hby d1_22) rfl k) ?_
            refine own_pre (T' := Tsk2_0) (f' := (mkF m 26 #[iv z, rv b1, iv (6 : Int32), iv (2 : Int32), rv w_LATIN_UPPER, iv (2 : Int32)] [(.ref w_LATIN_UPPER), (.int (2 : Int32))])) (fun t k => XS.aload Xsk2_0.here hx rfl (hb hby d1_24) rfl rfl k) ?_
            obtain ⟨T9, X9, e9, st9⟩ := getF Xsk2_0 hx hZ hown (host := "") (Or.inl (hw _ (List.mem_of_getElem? (i := 25) rfl))) Via.refl esk2_0 (F_ranges_LATIN_UPPER.ext EX1_h0) (g := (mkF m 26 #[iv z, rv b1, iv (6 : Int32), iv (2 : Int32), rv w_LATIN_UPPER, iv (2 : Int32)] [(.ref w_LATIN_UPPER), (.int (2 : Int32))])) rfl rfl (hb hby d1_26)
            refine own_pre (T' := T9) (f' := (mkF m 29 #[iv z, rv b1, iv (6 : Int32), iv (2 : Int32), rv w_LATIN_UPPER, iv (2 : Int32)] [(.ref r_ranges_LATIN_UPPER), (.int (2 : Int32))])) (fun t k => st9 t k) ?_
            refine own_pre (T' := T9) (f' := (mkF m 30 #[iv z, rv b1, iv (6 : Int32), iv (2 : Int32), rv w_LATIN_UPPER, iv (2 : Int32)] [(.int (2 : Int32)), (.int (2 : Int32))])) (fun t k => own_len X9 hx hZ e9 (V_ranges_LATIN_UPPER.ext EX1_h0) (g := (mkF m 29 #[iv z, rv b1, iv (6 : Int32), iv (2 : Int32), rv w_LATIN_UPPER, iv (2 : Int32)] [(.ref r_ranges_LATIN_UPPER), (.int (2 : Int32))])) rfl rfl (hb hby d1_29) t k) ?_
            refine own_pre (T' := T9) (f' := (mkF m 71 #[iv z, rv b1, iv (6 : Int32), iv (2 : Int32), rv w_LATIN_UPPER, iv (2 : Int32)] [])) (fun t k => XS.icmpYes X9.here hx rfl (pc0 := 30) (pc' := 71) rfl (hb hby d1_30) rfl (flt (by decide : ¬ ((2 : Int32) < (2 : Int32)))).2.1 (by decide) (by decide) k) ?_
            refine own_pre (T' := T9) (f' := (mkF m 74 #[iv z, rv b1, iv (6 : Int32), iv ((2 : Int32) + (1 : Int32)), rv w_LATIN_UPPER, iv (2 : Int32)] [])) (fun t k => XS.iinc X9.here hx rfl (hb hby d1_71) rfl (l' := #[iv z, rv b1, iv (6 : Int32), iv ((2 : Int32) + (1 : Int32)), rv w_LATIN_UPPER, iv (2 : Int32)]) rfl k) ?_
            rw [show ((2 : Int32) + (1 : Int32)) = (3 : Int32) from by decide]
            refine own_pre (T' := T9) (f' := (mkF m 9 #[iv z, rv b1, iv (6 : Int32), iv (3 : Int32), rv w_LATIN_UPPER, iv (2 : Int32)] [])) (fun t k => XS.goto X9.here hx rfl (pc0 := 74) (pc' := 9) rfl (hb hby d1_74) (by decide) (by decide) k) ?_
            refine own_pre (T' := T9) (f' := (mkF m 10 #[iv z, rv b1, iv (6 : Int32), iv (3 : Int32), rv w_LATIN_UPPER, iv (2 : Int32)] [(.int (3 : Int32))])) (fun t k => XS.iloadN X9.here hx rfl (hb hby d1_9) rfl k) ?_
            refine own_pre (T' := T9) (f' := (mkF m 11 #[iv z, rv b1, iv (6 : Int32), iv (3 : Int32), rv w_LATIN_UPPER, iv (2 : Int32)] [(.int (6 : Int32)), (.int (3 : Int32))])) (fun t k => XS.iloadN X9.here hx rfl (hb hby d1_10) rfl k) ?_
            refine own_pre (T' := T9) (f' := (mkF m 14 #[iv z, rv b1, iv (6 : Int32), iv (3 : Int32), rv w_LATIN_UPPER, iv (2 : Int32)] [])) (fun t k => XS.icmpNo X9.here hx rfl (hb hby d1_11) rfl (tlt (by decide : (3 : Int32) < (6 : Int32))).2.1 k) ?_
            refine own_pre (T' := T9) (f' := (mkF m 15 #[iv z, rv b1, iv (6 : Int32), iv (3 : Int32), rv w_LATIN_UPPER, iv (2 : Int32)] [(.ref b1)])) (fun t k => XS.aloadN X9.here hx rfl (hb hby d1_14) rfl rfl k) ?_
            refine own_pre (T' := T9) (f' := (mkF m 16 #[iv z, rv b1, iv (6 : Int32), iv (3 : Int32), rv w_LATIN_UPPER, iv (2 : Int32)] [(.int (3 : Int32)), (.ref b1)])) (fun t k => XS.iloadN X9.here hx rfl (hb hby d1_15) rfl k) ?_
            refine own_pre (T' := T9) (f' := (mkF m 17 #[iv z, rv b1, iv (6 : Int32), iv (3 : Int32), rv w_LATIN_UPPER, iv (2 : Int32)] [(.ref w_LATIN_LOWER)])) (fun t k => own_ldR X9 hx hZ e9 A1 rfl (by decide) rfl (g := (mkF m 16 #[iv z, rv b1, iv (6 : Int32), iv (3 : Int32), rv w_LATIN_UPPER, iv (2 : Int32)] [(.int (3 : Int32)), (.ref b1)])) rfl rfl (hb hby d1_16) t k) ?_
            refine own_pre (T' := T9) (f' := (mkF m 19 #[iv z, rv b1, iv (6 : Int32), iv (3 : Int32), rv w_LATIN_LOWER, iv (2 : Int32)] [])) (fun t k => XS.astore X9.here hx rfl (hb hby d1_17) rfl rfl (l' := #[iv z, rv b1, iv (6 : Int32), iv (3 : Int32), rv w_LATIN_LOWER, iv (2 : Int32)]) rfl k) ?_
            refine own_pre (T' := T9) (f' := (mkF m 20 #[iv z, rv b1, iv (6 : Int32), iv (3 : Int32), rv w_LATIN_LOWER, iv (2 : Int32)] [(.int (0 : Int32))])) (fun t k => XS.iconst X9.here hx rfl (hb hby d1_19) k) ?_
            refine own_pre (T' := T9) (f' := (mkF m 22 #[iv z, rv b1, iv (6 : Int32), iv (3 : Int32), rv w_LATIN_LOWER, iv (0 : Int32)] [])) (fun t k => XS.istore X9.here hx rfl (hb hby d1_20) rfl (l' := #[iv z, rv b1, iv (6 : Int32), iv (3 : Int32), rv w_LATIN_LOWER, iv (0 : Int32)]) rfl k) ?_
            refine own_pre (T' := T9) (f' := (mkF m 24 #[iv z, rv b1, iv (6 : Int32), iv (3 : Int32), rv w_LATIN_LOWER, iv (0 : Int32)] [(.int (0 : Int32))])) (fun t k => XS.iload X9.here hx rfl (hb hby d1_22) rfl k) ?_
            refine own_pre (T' := T9) (f' := (mkF m 26 #[iv z, rv b1, iv (6 : Int32), iv (3 : Int32), rv w_LATIN_LOWER, iv (0 : Int32)] [(.ref w_LATIN_LOWER), (.int (0 : Int32))])) (fun t k => XS.aload X9.here hx rfl (hb hby d1_24) rfl rfl k) ?_
            obtain ⟨T10, X10, e10, st10⟩ := getF X9 hx hZ hown (host := "") (Or.inl (hw _ (List.mem_of_getElem? (i := 25) rfl))) Via.refl e9 (F_ranges_LATIN_LOWER.ext EX1_h0) (g := (mkF m 26 #[iv z, rv b1, iv (6 : Int32), iv (3 : Int32), rv w_LATIN_LOWER, iv (0 : Int32)] [(.ref w_LATIN_LOWER), (.int (0 : Int32))])) rfl rfl (hb hby d1_26)
            refine own_pre (T' := T10) (f' := (mkF m 29 #[iv z, rv b1, iv (6 : Int32), iv (3 : Int32), rv w_LATIN_LOWER, iv (0 : Int32)] [(.ref r_ranges_LATIN_LOWER), (.int (0 : Int32))])) (fun t k => st10 t k) ?_
            refine own_pre (T' := T10) (f' := (mkF m 30 #[iv z, rv b1, iv (6 : Int32), iv (3 : Int32), rv w_LATIN_LOWER, iv (0 : Int32)] [(.int (2 : Int32)), (.int (0 : Int32))])) (fun t k => own_len X10 hx hZ e10 (V_ranges_LATIN_LOWER.ext EX1_h0) (g := (mkF m 29 #[iv z, rv b1, iv (6 : Int32), iv (3 : Int32), rv w_LATIN_LOWER, iv (0 : Int32)] [(.ref r_ranges_LATIN_LOWER), (.int (0 : Int32))])) rfl rfl (hb hby d1_29) t k) ?_
            refine own_pre (T' := T10) (f' := (mkF m 33 #[iv z, rv b1, iv (6 : Int32), iv (3 : Int32), rv w_LATIN_LOWER, iv (0 : Int32)] [])) (fun t k => XS.icmpNo X10.here hx rfl (hb hby d1_30) rfl (tlt (by decide : (0 : Int32) < (2 : Int32))).2.1 k) ?_
            have sk3_0 : ∀ (Tsk3_0 : State), Stand p l e (own_RC 3 2 7 38) s m #[(.int z)] below meth c Tsk3_0 [] 1 6 → Tsk3_0.heap = h1 → own_o z (97 : Int32) (122 : Int32) = true → own_G p.tables e below Tsk3_0 (mkF m 65 #[iv z, rv b1, iv (6 : Int32), iv (3 : Int32), rv w_LATIN_LOWER, iv (0 : Int32)] []) (own_P (own_RC 3 2 7 38) s (own_QO Z x h0)) := by
              intro Tsk3_0 Xsk3_0 esk3_0 osk3_0
              refine own_pre (T' := Tsk3_0) (f' := (mkF m 68 #[iv z, rv b1, iv (6 : Int32), iv (3 : Int32), rv w_LATIN_LOWER, iv ((0 : Int32) + (2 : Int32))] [])) (fun t k => XS.iinc Xsk3_0.here hx rfl (hb hby d1_65) rfl (l' := #[iv z, rv b1, iv (6 : Int32), iv (3 : Int32), rv w_LATIN_LOWER, iv ((0 : Int32) + (2 : Int32))]) rfl k) ?_
              rw [show ((0 : Int32) + (2 : Int32)) = (2 : Int32) from by decide]
              refine own_pre (T' := Tsk3_0) (f' := (mkF m 22 #[iv z, rv b1, iv (6 : Int32), iv (3 : Int32), rv w_LATIN_LOWER, iv (2 : Int32)] [])) (fun t k => XS.goto Xsk3_0.here hx rfl (pc0 := 68) (pc' := 22) rfl (hb hby d1_68) (by decide) (by decide) k) ?_
              refine own_pre (T' := Tsk3_0) (f' := (mkF m 24 #[iv z, rv b1, iv (6 : Int32), iv (3 : Int32), rv w_LATIN_LOWER, iv (2 : Int32)] [(.int (2 : Int32))])) (fun t k => XS.iload Xsk3_0.here hx rfl (hb hby d1_22) rfl k) ?_
              refine own_pre (T' := Tsk3_0) (f' := (mkF m 26 #[iv z, rv b1, iv (6 : Int32), iv (3 : Int32), rv w_LATIN_LOWER, iv (2 : Int32)] [(.ref w_LATIN_LOWER), (.int (2 : Int32))])) (fun t k => XS.aload Xsk3_0.here hx rfl (hb hby d1_24) rfl rfl k) ?_
              obtain ⟨T11, X11, e11, st11⟩ := getF Xsk3_0 hx hZ hown (host := "") (Or.inl (hw _ (List.mem_of_getElem? (i := 25) rfl))) Via.refl esk3_0 (F_ranges_LATIN_LOWER.ext EX1_h0) (g := (mkF m 26 #[iv z, rv b1, iv (6 : Int32), iv (3 : Int32), rv w_LATIN_LOWER, iv (2 : Int32)] [(.ref w_LATIN_LOWER), (.int (2 : Int32))])) rfl rfl (hb hby d1_26)
              refine own_pre (T' := T11) (f' := (mkF m 29 #[iv z, rv b1, iv (6 : Int32), iv (3 : Int32), rv w_LATIN_LOWER, iv (2 : Int32)] [(.ref r_ranges_LATIN_LOWER), (.int (2 : Int32))])) (fun t k => st11 t k) ?_
              refine own_pre (T' := T11) (f' := (mkF m 30 #[iv z, rv b1, iv (6 : Int32), iv (3 : Int32), rv w_LATIN_LOWER, iv (2 : Int32)] [(.int (2 : Int32)), (.int (2 : Int32))])) (fun t k => own_len X11 hx hZ e11 (V_ranges_LATIN_LOWER.ext EX1_h0) (g := (mkF m 29 #[iv z, rv b1, iv (6 : Int32), iv (3 : Int32), rv w_LATIN_LOWER, iv (2 : Int32)] [(.ref r_ranges_LATIN_LOWER), (.int (2 : Int32))])) rfl rfl (hb hby d1_29) t k) ?_
              refine own_pre (T' := T11) (f' := (mkF m 71 #[iv z, rv b1, iv (6 : Int32), iv (3 : Int32), rv w_LATIN_LOWER, iv (2 : Int32)] [])) (fun t k => XS.icmpYes X11.here hx rfl (pc0 := 30) (pc' := 71) rfl (hb hby d1_30) rfl (flt (by decide : ¬ ((2 : Int32) < (2 : Int32)))).2.1 (by decide) (by decide) k) ?_
              refine own_pre (T' := T11) (f' := (mkF m 74 #[iv z, rv b1, iv (6 : Int32), iv ((3 : Int32) + (1 : Int32)), rv w_LATIN_LOWER, iv (2 : Int32)] [])) (fun t k => XS.iinc X11.here hx rfl (hb hby d1_71) rfl (l' := #[iv z, rv b1, iv (6 : Int32), iv ((3 : Int32) + (1 : Int32)), rv w_LATIN_LOWER, iv (2 : Int32)]) rfl k) ?_
              rw [show ((3 : Int32) + (1 : Int32)) = (4 : Int32) from by decide]
              refine own_pre (T' := T11) (f' := (mkF m 9 #[iv z, rv b1, iv (6 : Int32), iv (4 : Int32), rv w_LATIN_LOWER, iv (2 : Int32)] [])) (fun t k => XS.goto X11.here hx rfl (pc0 := 74) (pc' := 9) rfl (hb hby d1_74) (by decide) (by decide) k) ?_
              refine own_pre (T' := T11) (f' := (mkF m 10 #[iv z, rv b1, iv (6 : Int32), iv (4 : Int32), rv w_LATIN_LOWER, iv (2 : Int32)] [(.int (4 : Int32))])) (fun t k => XS.iloadN X11.here hx rfl (hb hby d1_9) rfl k) ?_
              refine own_pre (T' := T11) (f' := (mkF m 11 #[iv z, rv b1, iv (6 : Int32), iv (4 : Int32), rv w_LATIN_LOWER, iv (2 : Int32)] [(.int (6 : Int32)), (.int (4 : Int32))])) (fun t k => XS.iloadN X11.here hx rfl (hb hby d1_10) rfl k) ?_
              refine own_pre (T' := T11) (f' := (mkF m 14 #[iv z, rv b1, iv (6 : Int32), iv (4 : Int32), rv w_LATIN_LOWER, iv (2 : Int32)] [])) (fun t k => XS.icmpNo X11.here hx rfl (hb hby d1_11) rfl (tlt (by decide : (4 : Int32) < (6 : Int32))).2.1 k) ?_
              refine own_pre (T' := T11) (f' := (mkF m 15 #[iv z, rv b1, iv (6 : Int32), iv (4 : Int32), rv w_LATIN_LOWER, iv (2 : Int32)] [(.ref b1)])) (fun t k => XS.aloadN X11.here hx rfl (hb hby d1_14) rfl rfl k) ?_
              refine own_pre (T' := T11) (f' := (mkF m 16 #[iv z, rv b1, iv (6 : Int32), iv (4 : Int32), rv w_LATIN_LOWER, iv (2 : Int32)] [(.int (4 : Int32)), (.ref b1)])) (fun t k => XS.iloadN X11.here hx rfl (hb hby d1_15) rfl k) ?_
              refine own_pre (T' := T11) (f' := (mkF m 17 #[iv z, rv b1, iv (6 : Int32), iv (4 : Int32), rv w_LATIN_LOWER, iv (2 : Int32)] [(.ref w_DIGITS)])) (fun t k => own_ldR X11 hx hZ e11 A1 rfl (by decide) rfl (g := (mkF m 16 #[iv z, rv b1, iv (6 : Int32), iv (4 : Int32), rv w_LATIN_LOWER, iv (2 : Int32)] [(.int (4 : Int32)), (.ref b1)])) rfl rfl (hb hby d1_16) t k) ?_
              refine own_pre (T' := T11) (f' := (mkF m 19 #[iv z, rv b1, iv (6 : Int32), iv (4 : Int32), rv w_DIGITS, iv (2 : Int32)] [])) (fun t k => XS.astore X11.here hx rfl (hb hby d1_17) rfl rfl (l' := #[iv z, rv b1, iv (6 : Int32), iv (4 : Int32), rv w_DIGITS, iv (2 : Int32)]) rfl k) ?_
              refine own_pre (T' := T11) (f' := (mkF m 20 #[iv z, rv b1, iv (6 : Int32), iv (4 : Int32), rv w_DIGITS, iv (2 : Int32)] [(.int (0 : Int32))])) (fun t k => XS.iconst X11.here hx rfl (hb hby d1_19) k) ?_
              refine own_pre (T' := T11) (f' := (mkF m 22 #[iv z, rv b1, iv (6 : Int32), iv (4 : Int32), rv w_DIGITS, iv (0 : Int32)] [])) (fun t k => XS.istore X11.here hx rfl (hb hby d1_20) rfl (l' := #[iv z, rv b1, iv (6 : Int32), iv (4 : Int32), rv w_DIGITS, iv (0 : Int32)]) rfl k) ?_
              refine own_pre (T' := T11) (f' := (mkF m 24 #[iv z, rv b1, iv (6 : Int32), iv (4 : Int32), rv w_DIGITS, iv (0 : Int32)] [(.int (0 : Int32))])) (fun t k => XS.iload X11.here hx rfl (hb hby d1_22) rfl k) ?_
              refine own_pre (T' := T11) (f' := (mkF m 26 #[iv z, rv b1, iv (6 : Int32), iv (4 : Int32), rv w_DIGITS, iv (0 : Int32)] [(.ref w_DIGITS), (.int (0 : Int32))])) (fun t k => XS.aload X11.here hx rfl (hb hby d1_24) rfl rfl k) ?_
              obtain ⟨T12, X12, e12, st12⟩ := getF X11 hx hZ hown (host := "") (Or.inl (hw _ (List.mem_of_getElem? (i := 25) rfl))) Via.refl e11 (F_ranges_DIGITS.ext EX1_h0) (g := (mkF m 26 #[iv z, rv b1, iv (6 : Int32), iv (4 : Int32), rv w_DIGITS, iv (0 : Int32)] [(.ref w_DIGITS), (.int (0 : Int32))])) rfl rfl (hb hby d1_26)
              refine own_pre (T' := T12) (f' := (mkF m 29 #[iv z, rv b1, iv (6 : Int32), iv (4 : Int32), rv w_DIGITS, iv (0 : Int32)] [(.ref r_ranges_DIGITS), (.int (0 : Int32))])) (fun t k => st12 t k) ?_
              refine own_pre (T' := T12) (f' := (mkF m 30 #[iv z, rv b1, iv (6 : Int32), iv (4 : Int32), rv w_DIGITS, iv (0 : Int32)] [(.int (2 : Int32)), (.int (0 : Int32))])) (fun t k => own_len X12 hx hZ e12 (V_ranges_DIGITS.ext EX1_h0) (g := (mkF m 29 #[iv z, rv b1, iv (6 : Int32), iv (4 : Int32), rv w_DIGITS, iv (0 : Int32)] [(.ref r_ranges_DIGITS), (.int (0 : Int32))])) rfl rfl (hb hby d1_29) t k) ?_
              refine own_pre (T' := T12) (f' := (mkF m 33 #[iv z, rv b1, iv (6 : Int32), iv (4 : Int32), rv w_DIGITS, iv (0 : Int32)] [])) (fun t k => XS.icmpNo X12.here hx rfl (hb hby d1_30) rfl (tlt (by decide : (0 : Int32) < (2 : Int32))).2.1 k) ?_
              have sk4_0 : ∀ (Tsk4_0 : State), Stand p l e (own_RC 3 2 7 38) s m #[(.int z)] below meth c Tsk4_0 [] 1 6 → Tsk4_0.heap = h1 → own_o z (48 : Int32) (57 : Int32) = true → own_G p.tables e below Tsk4_0 (mkF m 65 #[iv z, rv b1, iv (6 : Int32), iv (4 : Int32), rv w_DIGITS, iv (0 : Int32)] []) (own_P (own_RC 3 2 7 38) s (own_QO Z x h0)) := by
                intro Tsk4_0 Xsk4_0 esk4_0 osk4_0
                refine own_pre (T' := Tsk4_0) (f' := (mkF m 68 #[iv z, rv b1, iv (6 : Int32), iv (4 : Int32), rv w_DIGITS, iv ((0 : Int32) + (2 : Int32))] [])) (fun t k => XS.iinc Xsk4_0.here hx rfl (hb hby d1_65) rfl (l' := #[iv z, rv b1, iv (6 : Int32), iv (4 : Int32), rv w_DIGITS, iv ((0 : Int32) + (2 : Int32))]) rfl k) ?_
                rw [show ((0 : Int32) + (2 : Int32)) = (2 : Int32) from by decide]
                refine own_pre (T' := Tsk4_0) (f' := (mkF m 22 #[iv z, rv b1, iv (6 : Int32), iv (4 : Int32), rv w_DIGITS, iv (2 : Int32)] [])) (fun t k => XS.goto Xsk4_0.here hx rfl (pc0 := 68) (pc' := 22) rfl (hb hby d1_68) (by decide) (by decide) k) ?_
                refine own_pre (T' := Tsk4_0) (f' := (mkF m 24 #[iv z, rv b1, iv (6 : Int32), iv (4 : Int32), rv w_DIGITS, iv (2 : Int32)] [(.int (2 : Int32))])) (fun t k => XS.iload Xsk4_0.here hx rfl (hb hby d1_22) rfl k) ?_
                refine own_pre (T' := Tsk4_0) (f' := (mkF m 26 #[iv z, rv b1, iv (6 : Int32), iv (4 : Int32), rv w_DIGITS, iv (2 : Int32)] [(.ref w_DIGITS), (.int (2 : Int32))])) (fun t k => XS.aload Xsk4_0.here hx rfl (hb hby d1_24) rfl rfl k) ?_
                obtain ⟨T13, X13, e13, st13⟩ := getF Xsk4_0 hx hZ hown (host := "") (Or.inl (hw _ (List.mem_of_getElem? (i := 25) rfl))) Via.refl esk4_0 (F_ranges_DIGITS.ext EX1_h0) (g := (mkF m 26 #[iv z, rv b1, iv (6 : Int32), iv (4 : Int32), rv w_DIGITS, iv (2 : Int32)] [(.ref w_DIGITS), (.int (2 : Int32))])) rfl rfl (hb hby d1_26)
                refine own_pre (T' := T13) (f' := (mkF m 29 #[iv z, rv b1, iv (6 : Int32), iv (4 : Int32), rv w_DIGITS, iv (2 : Int32)] [(.ref r_ranges_DIGITS), (.int (2 : Int32))])) (fun t k => st13 t k) ?_
                refine own_pre (T' := T13) (f' := (mkF m 30 #[iv z, rv b1, iv (6 : Int32), iv (4 : Int32), rv w_DIGITS, iv (2 : Int32)] [(.int (2 : Int32)), (.int (2 : Int32))])) (fun t k => own_len X13 hx hZ e13 (V_ranges_DIGITS.ext EX1_h0) (g := (mkF m 29 #[iv z, rv b1, iv (6 : Int32), iv (4 : Int32), rv w_DIGITS, iv (2 : Int32)] [(.ref r_ranges_DIGITS), (.int (2 : Int32))])) rfl rfl (hb hby d1_29) t k) ?_
                refine own_pre (T' := T13) (f' := (mkF m 71 #[iv z, rv b1, iv (6 : Int32), iv (4 : Int32), rv w_DIGITS, iv (2 : Int32)] [])) (fun t k => XS.icmpYes X13.here hx rfl (pc0 := 30) (pc' := 71) rfl (hb hby d1_30) rfl (flt (by decide : ¬ ((2 : Int32) < (2 : Int32)))).2.1 (by decide) (by decide) k) ?_
                refine own_pre (T' := T13) (f' := (mkF m 74 #[iv z, rv b1, iv (6 : Int32), iv ((4 : Int32) + (1 : Int32)), rv w_DIGITS, iv (2 : Int32)] [])) (fun t k => XS.iinc X13.here hx rfl (hb hby d1_71) rfl (l' := #[iv z, rv b1, iv (6 : Int32), iv ((4 : Int32) + (1 : Int32)), rv w_DIGITS, iv (2 : Int32)]) rfl k) ?_
                rw [show ((4 : Int32) + (1 : Int32)) = (5 : Int32) from by decide]
                refine own_pre (T' := T13) (f' := (mkF m 9 #[iv z, rv b1, iv (6 : Int32), iv (5 : Int32), rv w_DIGITS, iv (2 : Int32)] [])) (fun t k => XS.goto X13.here hx rfl (pc0 := 74) (pc' := 9) rfl (hb hby d1_74) (by decide) (by decide) k) ?_
                refine own_pre (T' := T13) (f' := (mkF m 10 #[iv z, rv b1, iv (6 : Int32), iv (5 : Int32), rv w_DIGITS, iv (2 : Int32)] [(.int (5 : Int32))])) (fun t k => XS.iloadN X13.here hx rfl (hb hby d1_9) rfl k) ?_
                refine own_pre (T' := T13) (f' := (mkF m 11 #[iv z, rv b1, iv (6 : Int32), iv (5 : Int32), rv w_DIGITS, iv (2 : Int32)] [(.int (6 : Int32)), (.int (5 : Int32))])) (fun t k => XS.iloadN X13.here hx rfl (hb hby d1_10) rfl k) ?_
                refine own_pre (T' := T13) (f' := (mkF m 14 #[iv z, rv b1, iv (6 : Int32), iv (5 : Int32), rv w_DIGITS, iv (2 : Int32)] [])) (fun t k => XS.icmpNo X13.here hx rfl (hb hby d1_11) rfl (tlt (by decide : (5 : Int32) < (6 : Int32))).2.1 k) ?_
                refine own_pre (T' := T13) (f' := (mkF m 15 #[iv z, rv b1, iv (6 : Int32), iv (5 : Int32), rv w_DIGITS, iv (2 : Int32)] [(.ref b1)])) (fun t k => XS.aloadN X13.here hx rfl (hb hby d1_14) rfl rfl k) ?_
                refine own_pre (T' := T13) (f' := (mkF m 16 #[iv z, rv b1, iv (6 : Int32), iv (5 : Int32), rv w_DIGITS, iv (2 : Int32)] [(.int (5 : Int32)), (.ref b1)])) (fun t k => XS.iloadN X13.here hx rfl (hb hby d1_15) rfl k) ?_
                refine own_pre (T' := T13) (f' := (mkF m 17 #[iv z, rv b1, iv (6 : Int32), iv (5 : Int32), rv w_DIGITS, iv (2 : Int32)] [(.ref w_SPECIAL)])) (fun t k => own_ldR X13 hx hZ e13 A1 rfl (by decide) rfl (g := (mkF m 16 #[iv z, rv b1, iv (6 : Int32), iv (5 : Int32), rv w_DIGITS, iv (2 : Int32)] [(.int (5 : Int32)), (.ref b1)])) rfl rfl (hb hby d1_16) t k) ?_
                refine own_pre (T' := T13) (f' := (mkF m 19 #[iv z, rv b1, iv (6 : Int32), iv (5 : Int32), rv w_SPECIAL, iv (2 : Int32)] [])) (fun t k => XS.astore X13.here hx rfl (hb hby d1_17) rfl rfl (l' := #[iv z, rv b1, iv (6 : Int32), iv (5 : Int32), rv w_SPECIAL, iv (2 : Int32)]) rfl k) ?_
                refine own_pre (T' := T13) (f' := (mkF m 20 #[iv z, rv b1, iv (6 : Int32), iv (5 : Int32), rv w_SPECIAL, iv (2 : Int32)] [(.int (0 : Int32))])) (fun t k => XS.iconst X13.here hx rfl (hb hby d1_19) k) ?_
                refine own_pre (T' := T13) (f' := (mkF m 22 #[iv z, rv b1, iv (6 : Int32), iv (5 : Int32), rv w_SPECIAL, iv (0 : Int32)] [])) (fun t k => XS.istore X13.here hx rfl (hb hby d1_20) rfl (l' := #[iv z, rv b1, iv (6 : Int32), iv (5 : Int32), rv w_SPECIAL, iv (0 : Int32)]) rfl k) ?_
                refine own_pre (T' := T13) (f' := (mkF m 24 #[iv z, rv b1, iv (6 : Int32), iv (5 : Int32), rv w_SPECIAL, iv (0 : Int32)] [(.int (0 : Int32))])) (fun t k => XS.iload X13.here hx rfl (hb hby d1_22) rfl k) ?_
                refine own_pre (T' := T13) (f' := (mkF m 26 #[iv z, rv b1, iv (6 : Int32), iv (5 : Int32), rv w_SPECIAL, iv (0 : Int32)] [(.ref w_SPECIAL), (.int (0 : Int32))])) (fun t k => XS.aload X13.here hx rfl (hb hby d1_24) rfl rfl k) ?_
                obtain ⟨T14, X14, e14, st14⟩ := getF X13 hx hZ hown (host := "") (Or.inl (hw _ (List.mem_of_getElem? (i := 25) rfl))) Via.refl e13 (F_ranges_SPECIAL.ext EX1_h0) (g := (mkF m 26 #[iv z, rv b1, iv (6 : Int32), iv (5 : Int32), rv w_SPECIAL, iv (0 : Int32)] [(.ref w_SPECIAL), (.int (0 : Int32))])) rfl rfl (hb hby d1_26)
                refine own_pre (T' := T14) (f' := (mkF m 29 #[iv z, rv b1, iv (6 : Int32), iv (5 : Int32), rv w_SPECIAL, iv (0 : Int32)] [(.ref r_ranges_SPECIAL), (.int (0 : Int32))])) (fun t k => st14 t k) ?_
                refine own_pre (T' := T14) (f' := (mkF m 30 #[iv z, rv b1, iv (6 : Int32), iv (5 : Int32), rv w_SPECIAL, iv (0 : Int32)] [(.int (8 : Int32)), (.int (0 : Int32))])) (fun t k => own_len X14 hx hZ e14 (V_ranges_SPECIAL.ext EX1_h0) (g := (mkF m 29 #[iv z, rv b1, iv (6 : Int32), iv (5 : Int32), rv w_SPECIAL, iv (0 : Int32)] [(.ref r_ranges_SPECIAL), (.int (0 : Int32))])) rfl rfl (hb hby d1_29) t k) ?_
                refine own_pre (T' := T14) (f' := (mkF m 33 #[iv z, rv b1, iv (6 : Int32), iv (5 : Int32), rv w_SPECIAL, iv (0 : Int32)] [])) (fun t k => XS.icmpNo X14.here hx rfl (hb hby d1_30) rfl (tlt (by decide : (0 : Int32) < (8 : Int32))).2.1 k) ?_
                have sk5_0 : ∀ (Tsk5_0 : State), Stand p l e (own_RC 3 2 7 38) s m #[(.int z)] below meth c Tsk5_0 [] 1 6 → Tsk5_0.heap = h1 → own_o z (33 : Int32) (47 : Int32) = true → own_G p.tables e below Tsk5_0 (mkF m 65 #[iv z, rv b1, iv (6 : Int32), iv (5 : Int32), rv w_SPECIAL, iv (0 : Int32)] []) (own_P (own_RC 3 2 7 38) s (own_QO Z x h0)) := by
                  intro Tsk5_0 Xsk5_0 esk5_0 osk5_0
                  refine own_pre (T' := Tsk5_0) (f' := (mkF m 68 #[iv z, rv b1, iv (6 : Int32), iv (5 : Int32), rv w_SPECIAL, iv ((0 : Int32) + (2 : Int32))] [])) (fun t k => XS.iinc Xsk5_0.here hx rfl (hb hby d1_65) rfl (l' := #[iv z, rv b1, iv (6 : Int32), iv (5 : Int32), rv w_SPECIAL, iv ((0 : Int32) + (2 : Int32))]) rfl k) ?_
                  rw [show ((0 : Int32) + (2 : Int32)) = (2 : Int32) from by decide]
                  refine own_pre (T' := Tsk5_0) (f' := (mkF m 22 #[iv z, rv b1, iv (6 : Int32), iv (5 : Int32), rv w_SPECIAL, iv (2 : Int32)] [])) (fun t k => XS.goto Xsk5_0.here hx rfl (pc0 := 68) (pc' := 22) rfl (hb hby d1_68) (by decide) (by decide) k) ?_
                  refine own_pre (T' := Tsk5_0) (f' := (mkF m 24 #[iv z, rv b1, iv (6 : Int32), iv (5 : Int32), rv w_SPECIAL, iv (2 : Int32)] [(.int (2 : Int32))])) (fun t k => XS.iload Xsk5_0.here hx rfl (hb hby d1_22) rfl k) ?_
                  refine own_pre (T' := Tsk5_0) (f' := (mkF m 26 #[iv z, rv b1, iv (6 : Int32), iv (5 : Int32), rv w_SPECIAL, iv (2 : Int32)] [(.ref w_SPECIAL), (.int (2 : Int32))])) (fun t k => XS.aload Xsk5_0.here hx rfl (hb hby d1_24) rfl rfl k) ?_
                  obtain ⟨T15, X15, e15, st15⟩ := getF Xsk5_0 hx hZ hown (host := "") (Or.inl (hw _ (List.mem_of_getElem? (i := 25) rfl))) Via.refl esk5_0 (F_ranges_SPECIAL.ext EX1_h0) (g := (mkF m 26 #[iv z, rv b1, iv (6 : Int32), iv (5 : Int32), rv w_SPECIAL, iv (2 : Int32)] [(.ref w_SPECIAL), (.int (2 : Int32))])) rfl rfl (hb hby d1_26)
                  refine own_pre (T' := T15) (f' := (mkF m 29 #[iv z, rv b1, iv (6 : Int32), iv (5 : Int32), rv w_SPECIAL, iv (2 : Int32)] [(.ref r_ranges_SPECIAL), (.int (2 : Int32))])) (fun t k => st15 t k) ?_
                  refine own_pre (T' := T15) (f' := (mkF m 30 #[iv z, rv b1, iv (6 : Int32), iv (5 : Int32), rv w_SPECIAL, iv (2 : Int32)] [(.int (8 : Int32)), (.int (2 : Int32))])) (fun t k => own_len X15 hx hZ e15 (V_ranges_SPECIAL.ext EX1_h0) (g := (mkF m 29 #[iv z, rv b1, iv (6 : Int32), iv (5 : Int32), rv w_SPECIAL, iv (2 : Int32)] [(.ref r_ranges_SPECIAL), (.int (2 : Int32))])) rfl rfl (hb hby d1_29) t k) ?_
                  refine own_pre (T' := T15) (f' := (mkF m 33 #[iv z, rv b1, iv (6 : Int32), iv (5 : Int32), rv w_SPECIAL, iv (2 : Int32)] [])) (fun t k => XS.icmpNo X15.here hx rfl (hb hby d1_30) rfl (tlt (by decide : (2 : Int32) < (8 : Int32))).2.1 k) ?_
                  have sk5_2 : ∀ (Tsk5_2 : State), Stand p l e (own_RC 3 2 7 38) s m #[(.int z)] below meth c Tsk5_2 [] 1 6 → Tsk5_2.heap = h1 → own_o z (58 : Int32) (64 : Int32) = true → own_G p.tables e below Tsk5_2 (mkF m 65 #[iv z, rv b1, iv (6 : Int32), iv (5 : Int32), rv w_SPECIAL, iv (2 : Int32)] []) (own_P (own_RC 3 2 7 38) s (own_QO Z x h0)) := by
                    intro Tsk5_2 Xsk5_2 esk5_2 osk5_2
                    refine own_pre (T' := Tsk5_2) (f' := (mkF m 68 #[iv z, rv b1, iv (6 : Int32), iv (5 : Int32), rv w_SPECIAL, iv ((2 : Int32) + (2 : Int32))] [])) (fun t k => XS.iinc Xsk5_2.here hx rfl (hb hby d1_65) rfl (l' := #[iv z, rv b1, iv (6 : Int32), iv (5 : Int32), rv w_SPECIAL, iv ((2 : Int32) + (2 : Int32))]) rfl k) ?_
                    rw [show ((2 : Int32) + (2 : Int32)) = (4 : Int32) from by decide]
                    refine own_pre (T' := Tsk5_2) (f' := (mkF m 22 #[iv z, rv b1, iv (6 : Int32), iv (5 : Int32), rv w_SPECIAL, iv (4 : Int32)] [])) (fun t k => XS.goto Xsk5_2.here hx rfl (pc0 := 68) (pc' := 22) rfl (hb hby d1_68) (by decide) (by decide) k) ?_
                    refine own_pre (T' := Tsk5_2) (f' := (mkF m 24 #[iv z, rv b1, iv (6 : Int32), iv (5 : Int32), rv w_SPECIAL, iv (4 : Int32)] [(.int (4 : Int32))])) (fun t k => XS.iload Xsk5_2.here hx rfl (hb hby d1_22) rfl k) ?_
                    refine own_pre (T' := Tsk5_2) (f' := (mkF m 26 #[iv z, rv b1, iv (6 : Int32), iv (5 : Int32), rv w_SPECIAL, iv (4 : Int32)] [(.ref w_SPECIAL), (.int (4 : Int32))])) (fun t k => XS.aload Xsk5_2.here hx rfl (hb hby d1_24) rfl rfl k) ?_
                    obtain ⟨T16, X16, e16, st16⟩ := getF Xsk5_2 hx hZ hown (host := "") (Or.inl (hw _ (List.mem_of_getElem? (i := 25) rfl))) Via.refl esk5_2 (F_ranges_SPECIAL.ext EX1_h0) (g := (mkF m 26 #[iv z, rv b1, iv (6 : Int32), iv (5 : Int32), rv w_SPECIAL, iv (4 : Int32)] [(.ref w_SPECIAL), (.int (4 : Int32))])) rfl rfl (hb hby d1_26)
                    refine own_pre (T' := T16) (f' := (mkF m 29 #[iv z, rv b1, iv (6 : Int32), iv (5 : Int32), rv w_SPECIAL, iv (4 : Int32)] [(.ref r_ranges_SPECIAL), (.int (4 : Int32))])) (fun t k => st16 t k) ?_
                    refine own_pre (T' := T16) (f' := (mkF m 30 #[iv z, rv b1, iv (6 : Int32), iv (5 : Int32), rv w_SPECIAL, iv (4 : Int32)] [(.int (8 : Int32)), (.int (4 : Int32))])) (fun t k => own_len X16 hx hZ e16 (V_ranges_SPECIAL.ext EX1_h0) (g := (mkF m 29 #[iv z, rv b1, iv (6 : Int32), iv (5 : Int32), rv w_SPECIAL, iv (4 : Int32)] [(.ref r_ranges_SPECIAL), (.int (4 : Int32))])) rfl rfl (hb hby d1_29) t k) ?_
                    refine own_pre (T' := T16) (f' := (mkF m 33 #[iv z, rv b1, iv (6 : Int32), iv (5 : Int32), rv w_SPECIAL, iv (4 : Int32)] [])) (fun t k => XS.icmpNo X16.here hx rfl (hb hby d1_30) rfl (tlt (by decide : (4 : Int32) < (8 : Int32))).2.1 k) ?_
                    have sk5_4 : ∀ (Tsk5_4 : State), Stand p l e (own_RC 3 2 7 38) s m #[(.int z)] below meth c Tsk5_4 [] 1 6 → Tsk5_4.heap = h1 → own_o z (91 : Int32) (96 : Int32) = true → own_G p.tables e below Tsk5_4 (mkF m 65 #[iv z, rv b1, iv (6 : Int32), iv (5 : Int32), rv w_SPECIAL, iv (4 : Int32)] []) (own_P (own_RC 3 2 7 38) s (own_QO Z x h0)) := by
                      intro Tsk5_4 Xsk5_4 esk5_4 osk5_4
                      refine own_pre (T' := Tsk5_4) (f' := (mkF m 68 #[iv z, rv b1, iv (6 : Int32), iv (5 : Int32), rv w_SPECIAL, iv ((4 : Int32) + (2 : Int32))] [])) (fun t k => XS.iinc Xsk5_4.here hx rfl (hb hby d1_65) rfl (l' := #[iv z, rv b1, iv (6 : Int32), iv (5 : Int32), rv w_SPECIAL, iv ((4 : Int32) + (2 : Int32))]) rfl k) ?_
                      rw [show ((4 : Int32) + (2 : Int32)) = (6 : Int32) from by decide]
                      refine own_pre (T' := Tsk5_4) (f' := (mkF m 22 #[iv z, rv b1, iv (6 : Int32), iv (5 : Int32), rv w_SPECIAL, iv (6 : Int32)] [])) (fun t k => XS.goto Xsk5_4.here hx rfl (pc0 := 68) (pc' := 22) rfl (hb hby d1_68) (by decide) (by decide) k) ?_
                      refine own_pre (T' := Tsk5_4) (f' := (mkF m 24 #[iv z, rv b1, iv (6 : Int32), iv (5 : Int32), rv w_SPECIAL, iv (6 : Int32)] [(.int (6 : Int32))])) (fun t k => XS.iload Xsk5_4.here hx rfl (hb hby d1_22) rfl k) ?_
                      refine own_pre (T' := Tsk5_4) (f' := (mkF m 26 #[iv z, rv b1, iv (6 : Int32), iv (5 : Int32), rv w_SPECIAL, iv (6 : Int32)] [(.ref w_SPECIAL), (.int (6 : Int32))])) (fun t k => XS.aload Xsk5_4.here hx rfl (hb hby d1_24) rfl rfl k) ?_
                      obtain ⟨T17, X17, e17, st17⟩ := getF Xsk5_4 hx hZ hown (host := "") (Or.inl (hw _ (List.mem_of_getElem? (i := 25) rfl))) Via.refl esk5_4 (F_ranges_SPECIAL.ext EX1_h0) (g := (mkF m 26 #[iv z, rv b1, iv (6 : Int32), iv (5 : Int32), rv w_SPECIAL, iv (6 : Int32)] [(.ref w_SPECIAL), (.int (6 : Int32))])) rfl rfl (hb hby d1_26)
                      refine own_pre (T' := T17) (f' := (mkF m 29 #[iv z, rv b1, iv (6 : Int32), iv (5 : Int32), rv w_SPECIAL, iv (6 : Int32)] [(.ref r_ranges_SPECIAL), (.int (6 : Int32))])) (fun t k => st17 t k) ?_
                      refine own_pre (T' := T17) (f' := (mkF m 30 #[iv z, rv b1, iv (6 : Int32), iv (5 : Int32), rv w_SPECIAL, iv (6 : Int32)] [(.int (8 : Int32)), (.int (6 : Int32))])) (fun t k => own_len X17 hx hZ e17 (V_ranges_SPECIAL.ext EX1_h0) (g := (mkF m 29 #[iv z, rv b1, iv (6 : Int32), iv (5 : Int32), rv w_SPECIAL, iv (6 : Int32)] [(.ref r_ranges_SPECIAL), (.int (6 : Int32))])) rfl rfl (hb hby d1_29) t k) ?_
                      refine own_pre (T' := T17) (f' := (mkF m 33 #[iv z, rv b1, iv (6 : Int32), iv (5 : Int32), rv w_SPECIAL, iv (6 : Int32)] [])) (fun t k => XS.icmpNo X17.here hx rfl (hb hby d1_30) rfl (tlt (by decide : (6 : Int32) < (8 : Int32))).2.1 k) ?_
                      have sk5_6 : ∀ (Tsk5_6 : State), Stand p l e (own_RC 3 2 7 38) s m #[(.int z)] below meth c Tsk5_6 [] 1 6 → Tsk5_6.heap = h1 → own_o z (123 : Int32) (126 : Int32) = true → own_G p.tables e below Tsk5_6 (mkF m 65 #[iv z, rv b1, iv (6 : Int32), iv (5 : Int32), rv w_SPECIAL, iv (6 : Int32)] []) (own_P (own_RC 3 2 7 38) s (own_QO Z x h0)) := by
                        intro Tsk5_6 Xsk5_6 esk5_6 osk5_6
                        refine own_pre (T' := Tsk5_6) (f' := (mkF m 68 #[iv z, rv b1, iv (6 : Int32), iv (5 : Int32), rv w_SPECIAL, iv ((6 : Int32) + (2 : Int32))] [])) (fun t k => XS.iinc Xsk5_6.here hx rfl (hb hby d1_65) rfl (l' := #[iv z, rv b1, iv (6 : Int32), iv (5 : Int32), rv w_SPECIAL, iv ((6 : Int32) + (2 : Int32))]) rfl k) ?_
                        rw [show ((6 : Int32) + (2 : Int32)) = (8 : Int32) from by decide]
                        refine own_pre (T' := Tsk5_6) (f' := (mkF m 22 #[iv z, rv b1, iv (6 : Int32), iv (5 : Int32), rv w_SPECIAL, iv (8 : Int32)] [])) (fun t k => XS.goto Xsk5_6.here hx rfl (pc0 := 68) (pc' := 22) rfl (hb hby d1_68) (by decide) (by decide) k) ?_
                        refine own_pre (T' := Tsk5_6) (f' := (mkF m 24 #[iv z, rv b1, iv (6 : Int32), iv (5 : Int32), rv w_SPECIAL, iv (8 : Int32)] [(.int (8 : Int32))])) (fun t k => XS.iload Xsk5_6.here hx rfl (hb hby d1_22) rfl k) ?_
                        refine own_pre (T' := Tsk5_6) (f' := (mkF m 26 #[iv z, rv b1, iv (6 : Int32), iv (5 : Int32), rv w_SPECIAL, iv (8 : Int32)] [(.ref w_SPECIAL), (.int (8 : Int32))])) (fun t k => XS.aload Xsk5_6.here hx rfl (hb hby d1_24) rfl rfl k) ?_
                        obtain ⟨T18, X18, e18, st18⟩ := getF Xsk5_6 hx hZ hown (host := "") (Or.inl (hw _ (List.mem_of_getElem? (i := 25) rfl))) Via.refl esk5_6 (F_ranges_SPECIAL.ext EX1_h0) (g := (mkF m 26 #[iv z, rv b1, iv (6 : Int32), iv (5 : Int32), rv w_SPECIAL, iv (8 : Int32)] [(.ref w_SPECIAL), (.int (8 : Int32))])) rfl rfl (hb hby d1_26)
                        refine own_pre (T' := T18) (f' := (mkF m 29 #[iv z, rv b1, iv (6 : Int32), iv (5 : Int32), rv w_SPECIAL, iv (8 : Int32)] [(.ref r_ranges_SPECIAL), (.int (8 : Int32))])) (fun t k => st18 t k) ?_
                        refine own_pre (T' := T18) (f' := (mkF m 30 #[iv z, rv b1, iv (6 : Int32), iv (5 : Int32), rv w_SPECIAL, iv (8 : Int32)] [(.int (8 : Int32)), (.int (8 : Int32))])) (fun t k => own_len X18 hx hZ e18 (V_ranges_SPECIAL.ext EX1_h0) (g := (mkF m 29 #[iv z, rv b1, iv (6 : Int32), iv (5 : Int32), rv w_SPECIAL, iv (8 : Int32)] [(.ref r_ranges_SPECIAL), (.int (8 : Int32))])) rfl rfl (hb hby d1_29) t k) ?_
                        refine own_pre (T' := T18) (f' := (mkF m 71 #[iv z, rv b1, iv (6 : Int32), iv (5 : Int32), rv w_SPECIAL, iv (8 : Int32)] [])) (fun t k => XS.icmpYes X18.here hx rfl (pc0 := 30) (pc' := 71) rfl (hb hby d1_30) rfl (flt (by decide : ¬ ((8 : Int32) < (8 : Int32)))).2.1 (by decide) (by decide) k) ?_
                        refine own_pre (T' := T18) (f' := (mkF m 74 #[iv z, rv b1, iv (6 : Int32), iv ((5 : Int32) + (1 : Int32)), rv w_SPECIAL, iv (8 : Int32)] [])) (fun t k => XS.iinc X18.here hx rfl (hb hby d1_71) rfl (l' := #[iv z, rv b1, iv (6 : Int32), iv ((5 : Int32) + (1 : Int32)), rv w_SPECIAL, iv (8 : Int32)]) rfl k) ?_
                        rw [show ((5 : Int32) + (1 : Int32)) = (6 : Int32) from by decide]
                        refine own_pre (T' := T18) (f' := (mkF m 9 #[iv z, rv b1, iv (6 : Int32), iv (6 : Int32), rv w_SPECIAL, iv (8 : Int32)] [])) (fun t k => XS.goto X18.here hx rfl (pc0 := 74) (pc' := 9) rfl (hb hby d1_74) (by decide) (by decide) k) ?_
                        refine own_pre (T' := T18) (f' := (mkF m 10 #[iv z, rv b1, iv (6 : Int32), iv (6 : Int32), rv w_SPECIAL, iv (8 : Int32)] [(.int (6 : Int32))])) (fun t k => XS.iloadN X18.here hx rfl (hb hby d1_9) rfl k) ?_
                        refine own_pre (T' := T18) (f' := (mkF m 11 #[iv z, rv b1, iv (6 : Int32), iv (6 : Int32), rv w_SPECIAL, iv (8 : Int32)] [(.int (6 : Int32)), (.int (6 : Int32))])) (fun t k => XS.iloadN X18.here hx rfl (hb hby d1_10) rfl k) ?_
                        refine own_pre (T' := T18) (f' := (mkF m 77 #[iv z, rv b1, iv (6 : Int32), iv (6 : Int32), rv w_SPECIAL, iv (8 : Int32)] [])) (fun t k => XS.icmpYes X18.here hx rfl (pc0 := 11) (pc' := 77) rfl (hb hby d1_11) rfl (flt (by decide : ¬ ((6 : Int32) < (6 : Int32)))).2.1 (by decide) (by decide) k) ?_
                        obtain ⟨T19, X19, e19, st19⟩ := own_pure (f := 0) (n := 0) (v := (some (.ref w_EMPTY))) (own_callS X18 hx hZ e18 (y := (⟨"java/util/Optional", "empty", "()Ljava/util/Optional;"⟩ : MethodName)) hown (hw _ (List.mem_of_getElem? (i := 27) rfl)) (hw _ (List.mem_of_getElem? (i := 28) rfl)) (hw _ (List.mem_of_getElem? (i := 30) rfl)) (hw _ (List.mem_of_getElem? (i := 29) rfl)) (by decide) 0 [] [] (own_empty l Z a0 hw [] w__VALUES w_CYRILLIC_UPPER w_CYRILLIC_LOWER w_LATIN_UPPER w_LATIN_LOWER w_DIGITS w_SPECIAL w_EMPTY r_ranges_CYRILLIC_UPPER r_ranges_CYRILLIC_LOWER r_ranges_LATIN_UPPER r_ranges_LATIN_LOWER r_ranges_DIGITS r_ranges_SPECIAL k__VALUES k_ranges_CYRILLIC_UPPER k_ranges_CYRILLIC_LOWER k_ranges_LATIN_UPPER k_ranges_LATIN_LOWER k_ranges_DIGITS k_ranges_SPECIAL h1 (own_F_ext F0 EX1_h0)) (by decide) (by decide) (by decide) (by decide) (g := (mkF m 77 #[iv z, rv b1, iv (6 : Int32), iv (6 : Int32), rv w_SPECIAL, iv (8 : Int32)] [])) rfl (by rw [hml]; rfl) (lenOf pd_3 rfl) rfl (by show 2 * 0 + _ ≤ _; exact Nat.le_of_eq rfl) (hb hby d1_77))
                        refine own_pre (T' := T19) (f' := (mkF m 80 #[iv z, rv b1, iv (6 : Int32), iv (6 : Int32), rv w_SPECIAL, iv (8 : Int32)] [(.ref w_EMPTY)])) (fun t k => st19 t k) ?_
                        exact own_retR X19 hx hlk hret (hb hby d1_80) rfl rfl rfl (by rw [e19]; exact ⟨_, rfl, EX1_h0, rfl, (E_EMPTY.ext EX1_h0), (by rw [← hcl]; simp [own_cls, osk0_0, osk0_2, osk1_0, osk1_2, osk2_0, osk3_0, osk4_0, osk5_0, osk5_2, osk5_4, osk5_6] : Value.null = x) ▸ (F_value_EMPTY.ext EX1_h0)⟩) (by decide) (by decide)
                      refine own_pre (T' := T17) (f' := (mkF m 34 #[iv z, rv b1, iv (6 : Int32), iv (5 : Int32), rv w_SPECIAL, iv (6 : Int32)] [(.int z)])) (fun t k => XS.iloadN X17.here hx rfl (hb hby d1_33) rfl k) ?_
                      refine own_pre (T' := T17) (f' := (mkF m 36 #[iv z, rv b1, iv (6 : Int32), iv (5 : Int32), rv w_SPECIAL, iv (6 : Int32)] [(.ref w_SPECIAL), (.int z)])) (fun t k => XS.aload X17.here hx rfl (hb hby d1_34) rfl rfl k) ?_
                      obtain ⟨T20, X20, e20, st20⟩ := getF X17 hx hZ hown (host := "") (Or.inl (hw _ (List.mem_of_getElem? (i := 25) rfl))) Via.refl e17 (F_ranges_SPECIAL.ext EX1_h0) (g := (mkF m 36 #[iv z, rv b1, iv (6 : Int32), iv (5 : Int32), rv w_SPECIAL, iv (6 : Int32)] [(.ref w_SPECIAL), (.int z)])) rfl rfl (hb hby d1_36)
                      refine own_pre (T' := T20) (f' := (mkF m 39 #[iv z, rv b1, iv (6 : Int32), iv (5 : Int32), rv w_SPECIAL, iv (6 : Int32)] [(.ref r_ranges_SPECIAL), (.int z)])) (fun t k => st20 t k) ?_
                      refine own_pre (T' := T20) (f' := (mkF m 41 #[iv z, rv b1, iv (6 : Int32), iv (5 : Int32), rv w_SPECIAL, iv (6 : Int32)] [(.int (6 : Int32)), (.ref r_ranges_SPECIAL), (.int z)])) (fun t k => XS.iload X20.here hx rfl (hb hby d1_39) rfl k) ?_
                      refine own_pre (T' := T20) (f' := (mkF m 42 #[iv z, rv b1, iv (6 : Int32), iv (5 : Int32), rv w_SPECIAL, iv (6 : Int32)] [(.int (123 : Int32)), (.int z)])) (fun t k => own_ldI X20 hx hZ e20 (V_ranges_SPECIAL.ext EX1_h0) (by decide) rfl (g := (mkF m 41 #[iv z, rv b1, iv (6 : Int32), iv (5 : Int32), rv w_SPECIAL, iv (6 : Int32)] [(.int (6 : Int32)), (.ref r_ranges_SPECIAL), (.int z)])) rfl rfl (hb hby d1_41) t k) ?_
                      by_cases hc21 : z < (123 : Int32)
                      · refine own_pre (T' := T20) (f' := (mkF m 65 #[iv z, rv b1, iv (6 : Int32), iv (5 : Int32), rv w_SPECIAL, iv (6 : Int32)] [])) (fun t k => XS.icmpYes X20.here hx rfl (pc0 := 42) (pc' := 65) rfl (hb hby d1_42) rfl (tlt hc21).1 (by decide) (by decide) k) ?_
                        exact sk5_6 T20 X20 e20 (own_oL hc21)
                      · refine own_pre (T' := T20) (f' := (mkF m 45 #[iv z, rv b1, iv (6 : Int32), iv (5 : Int32), rv w_SPECIAL, iv (6 : Int32)] [])) (fun t k => XS.icmpNo X20.here hx rfl (hb hby d1_42) rfl (flt hc21).1 k) ?_
                        refine own_pre (T' := T20) (f' := (mkF m 46 #[iv z, rv b1, iv (6 : Int32), iv (5 : Int32), rv w_SPECIAL, iv (6 : Int32)] [(.int z)])) (fun t k => XS.iloadN X20.here hx rfl (hb hby d1_45) rfl k) ?_
                        refine own_pre (T' := T20) (f' := (mkF m 48 #[iv z, rv b1, iv (6 : Int32), iv (5 : Int32), rv w_SPECIAL, iv (6 : Int32)] [(.ref w_SPECIAL), (.int z)])) (fun t k => XS.aload X20.here hx rfl (hb hby d1_46) rfl rfl k) ?_
                        obtain ⟨T22, X22, e22, st22⟩ := getF X20 hx hZ hown (host := "") (Or.inl (hw _ (List.mem_of_getElem? (i := 25) rfl))) Via.refl e20 (F_ranges_SPECIAL.ext EX1_h0) (g := (mkF m 48 #[iv z, rv b1, iv (6 : Int32), iv (5 : Int32), rv w_SPECIAL, iv (6 : Int32)] [(.ref w_SPECIAL), (.int z)])) rfl rfl (hb hby d1_48)
                        refine own_pre (T' := T22) (f' := (mkF m 51 #[iv z, rv b1, iv (6 : Int32), iv (5 : Int32), rv w_SPECIAL, iv (6 : Int32)] [(.ref r_ranges_SPECIAL), (.int z)])) (fun t k => st22 t k) ?_
                        refine own_pre (T' := T22) (f' := (mkF m 53 #[iv z, rv b1, iv (6 : Int32), iv (5 : Int32), rv w_SPECIAL, iv (6 : Int32)] [(.int (6 : Int32)), (.ref r_ranges_SPECIAL), (.int z)])) (fun t k => XS.iload X22.here hx rfl (hb hby d1_51) rfl k) ?_
                        refine own_pre (T' := T22) (f' := (mkF m 54 #[iv z, rv b1, iv (6 : Int32), iv (5 : Int32), rv w_SPECIAL, iv (6 : Int32)] [(.int (1 : Int32)), (.int (6 : Int32)), (.ref r_ranges_SPECIAL), (.int z)])) (fun t k => XS.iconst X22.here hx rfl (hb hby d1_53) k) ?_
                        refine own_pre (T' := T22) (f' := (mkF m 55 #[iv z, rv b1, iv (6 : Int32), iv (5 : Int32), rv w_SPECIAL, iv (6 : Int32)] [(.int ((6 : Int32) + (1 : Int32))), (.ref r_ranges_SPECIAL), (.int z)])) (fun t k => XS.iadd X22.here hx rfl (hb hby d1_54) rfl k) ?_
                        rw [show ((6 : Int32) + (1 : Int32)) = (7 : Int32) from by decide]
                        refine own_pre (T' := T22) (f' := (mkF m 56 #[iv z, rv b1, iv (6 : Int32), iv (5 : Int32), rv w_SPECIAL, iv (6 : Int32)] [(.int (126 : Int32)), (.int z)])) (fun t k => own_ldI X22 hx hZ e22 (V_ranges_SPECIAL.ext EX1_h0) (by decide) rfl (g := (mkF m 55 #[iv z, rv b1, iv (6 : Int32), iv (5 : Int32), rv w_SPECIAL, iv (6 : Int32)] [(.int (7 : Int32)), (.ref r_ranges_SPECIAL), (.int z)])) rfl rfl (hb hby d1_55) t k) ?_
                        by_cases hc23 : (126 : Int32) < z
                        · refine own_pre (T' := T22) (f' := (mkF m 65 #[iv z, rv b1, iv (6 : Int32), iv (5 : Int32), rv w_SPECIAL, iv (6 : Int32)] [])) (fun t k => XS.icmpYes X22.here hx rfl (pc0 := 56) (pc' := 65) rfl (hb hby d1_56) rfl (tlt hc23).2.2.1 (by decide) (by decide) k) ?_
                          exact sk5_6 T22 X22 e22 (own_oH hc23)
                        · refine own_pre (T' := T22) (f' := (mkF m 59 #[iv z, rv b1, iv (6 : Int32), iv (5 : Int32), rv w_SPECIAL, iv (6 : Int32)] [])) (fun t k => XS.icmpNo X22.here hx rfl (hb hby d1_56) rfl (flt hc23).2.2.1 k) ?_
                          have ofsk5_6 := own_oF hc21 hc23
                          refine own_pre (T' := T22) (f' := (mkF m 61 #[iv z, rv b1, iv (6 : Int32), iv (5 : Int32), rv w_SPECIAL, iv (6 : Int32)] [(.ref w_SPECIAL)])) (fun t k => XS.aload X22.here hx rfl (hb hby d1_59) rfl rfl k) ?_
                          obtain ⟨T24, h24, X24, e24, E24, A24, st24⟩ := own_grow (R' := own_RC 2 1 1 26) (v := some (.ref h1.size)) (own_callS X22 hx hZ e22 (y := (⟨"java/util/Optional", "of", "(Ljava/lang/Object;)Ljava/util/Optional;"⟩ : MethodName)) hown (hw _ (List.mem_of_getElem? (i := 53) rfl)) (hw _ (List.mem_of_getElem? (i := 54) rfl)) (hw _ (List.mem_of_getElem? (i := 55) rfl)) (hw _ (List.mem_of_getElem? (i := 29) rfl)) (by decide) 0 [(.ref w_SPECIAL)] [] (own_oof l Z a0 hw [] w__VALUES w_CYRILLIC_UPPER w_CYRILLIC_LOWER w_LATIN_UPPER w_LATIN_LOWER w_DIGITS w_SPECIAL w_EMPTY r_ranges_CYRILLIC_UPPER r_ranges_CYRILLIC_LOWER r_ranges_LATIN_UPPER r_ranges_LATIN_LOWER r_ranges_DIGITS r_ranges_SPECIAL k__VALUES k_ranges_CYRILLIC_UPPER k_ranges_CYRILLIC_LOWER k_ranges_LATIN_UPPER k_ranges_LATIN_LOWER k_ranges_DIGITS k_ranges_SPECIAL h1 (own_F_ext F0 EX1_h0) w_SPECIAL) (by decide) (by decide) (by decide) (by decide) (g := (mkF m 61 #[iv z, rv b1, iv (6 : Int32), iv (5 : Int32), rv w_SPECIAL, iv (6 : Int32)] [(.ref w_SPECIAL)])) rfl (by rw [hml]; rfl) (lenOf pd_4 rfl) rfl (by show 2 * 0 + _ ≤ _; exact Nat.le_of_eq rfl) (hb hby d1_61))
                          have EX24_h0 : Ext h0 h24 := own_extE EX1_h0 E24
                          have EX24_h1 : Ext h1 h24 := E24
                          refine own_pre (T' := T24) (f' := (mkF m 64 #[iv z, rv b1, iv (6 : Int32), iv (5 : Int32), rv w_SPECIAL, iv (6 : Int32)] [(.ref h1.size)])) (fun t k => st24 t k) ?_
                          exact own_retR X24 hx hlk hret (hb hby d1_64) rfl rfl rfl (by rw [e24]; exact ⟨_, rfl, EX24_h0, rfl, A24.1, (by rw [← hcl]; simp [own_cls, osk0_0, osk0_2, osk1_0, osk1_2, osk2_0, osk3_0, osk4_0, osk5_0, osk5_2, osk5_4, ofsk5_6] : Value.ref w_SPECIAL = x) ▸ A24.2⟩) (by decide) (by decide)
                    refine own_pre (T' := T16) (f' := (mkF m 34 #[iv z, rv b1, iv (6 : Int32), iv (5 : Int32), rv w_SPECIAL, iv (4 : Int32)] [(.int z)])) (fun t k => XS.iloadN X16.here hx rfl (hb hby d1_33) rfl k) ?_
                    refine own_pre (T' := T16) (f' := (mkF m 36 #[iv z, rv b1, iv (6 : Int32), iv (5 : Int32), rv w_SPECIAL, iv (4 : Int32)] [(.ref w_SPECIAL), (.int z)])) (fun t k => XS.aload X16.here hx rfl (hb hby d1_34) rfl rfl k) ?_
                    obtain ⟨T25, X25, e25, st25⟩ := getF X16 hx hZ hown (host := "") (Or.inl (hw _ (List.mem_of_getElem? (i := 25) rfl))) Via.refl e16 (F_ranges_SPECIAL.ext EX1_h0) (g := (mkF m 36 #[iv z, rv b1, iv (6 : Int32), iv (5 : Int32), rv w_SPECIAL, iv (4 : Int32)] [(.ref w_SPECIAL), (.int z)])) rfl rfl (hb hby d1_36)
                    refine own_pre (T' := T25) (f' := (mkF m 39 #[iv z, rv b1, iv (6 : Int32), iv (5 : Int32), rv w_SPECIAL, iv (4 : Int32)] [(.ref r_ranges_SPECIAL), (.int z)])) (fun t k => st25 t k) ?_
                    refine own_pre (T' := T25) (f' := (mkF m 41 #[iv z, rv b1, iv (6 : Int32), iv (5 : Int32), rv w_SPECIAL, iv (4 : Int32)] [(.int (4 : Int32)), (.ref r_ranges_SPECIAL), (.int z)])) (fun t k => XS.iload X25.here hx rfl (hb hby d1_39) rfl k) ?_
                    refine own_pre (T' := T25) (f' := (mkF m 42 #[iv z, rv b1, iv (6 : Int32), iv (5 : Int32), rv w_SPECIAL, iv (4 : Int32)] [(.int (91 : Int32)), (.int z)])) (fun t k => own_ldI X25 hx hZ e25 (V_ranges_SPECIAL.ext EX1_h0) (by decide) rfl (g := (mkF m 41 #[iv z, rv b1, iv (6 : Int32), iv (5 : Int32), rv w_SPECIAL, iv (4 : Int32)] [(.int (4 : Int32)), (.ref r_ranges_SPECIAL), (.int z)])) rfl rfl (hb hby d1_41) t k) ?_
                    by_cases hc26 : z < (91 : Int32)
                    · refine own_pre (T' := T25) (f' := (mkF m 65 #[iv z, rv b1, iv (6 : Int32), iv (5 : Int32), rv w_SPECIAL, iv (4 : Int32)] [])) (fun t k => XS.icmpYes X25.here hx rfl (pc0 := 42) (pc' := 65) rfl (hb hby d1_42) rfl (tlt hc26).1 (by decide) (by decide) k) ?_
                      exact sk5_4 T25 X25 e25 (own_oL hc26)
                    · refine own_pre (T' := T25) (f' := (mkF m 45 #[iv z, rv b1, iv (6 : Int32), iv (5 : Int32), rv w_SPECIAL, iv (4 : Int32)] [])) (fun t k => XS.icmpNo X25.here hx rfl (hb hby d1_42) rfl (flt hc26).1 k) ?_
                      refine own_pre (T' := T25) (f' := (mkF m 46 #[iv z, rv b1, iv (6 : Int32), iv (5 : Int32), rv w_SPECIAL, iv (4 : Int32)] [(.int z)])) (fun t k => XS.iloadN X25.here hx rfl (hb hby d1_45) rfl k) ?_
                      refine own_pre (T' := T25) (f' := (mkF m 48 #[iv z, rv b1, iv (6 : Int32), iv (5 : Int32), rv w_SPECIAL, iv (4 : Int32)] [(.ref w_SPECIAL), (.int z)])) (fun t k => XS.aload X25.here hx rfl (hb hby d1_46) rfl rfl k) ?_
                      obtain ⟨T27, X27, e27, st27⟩ := getF X25 hx hZ hown (host := "") (Or.inl (hw _ (List.mem_of_getElem? (i := 25) rfl))) Via.refl e25 (F_ranges_SPECIAL.ext EX1_h0) (g := (mkF m 48 #[iv z, rv b1, iv (6 : Int32), iv (5 : Int32), rv w_SPECIAL, iv (4 : Int32)] [(.ref w_SPECIAL), (.int z)])) rfl rfl (hb hby d1_48)
                      refine own_pre (T' := T27) (f' := (mkF m 51 #[iv z, rv b1, iv (6 : Int32), iv (5 : Int32), rv w_SPECIAL, iv (4 : Int32)] [(.ref r_ranges_SPECIAL), (.int z)])) (fun t k => st27 t k) ?_
                      refine own_pre (T' := T27) (f' := (mkF m 53 #[iv z, rv b1, iv (6 : Int32), iv (5 : Int32), rv w_SPECIAL, iv (4 : Int32)] [(.int (4 : Int32)), (.ref r_ranges_SPECIAL), (.int z)])) (fun t k => XS.iload X27.here hx rfl (hb hby d1_51) rfl k) ?_
                      refine own_pre (T' := T27) (f' := (mkF m 54 #[iv z, rv b1, iv (6 : Int32), iv (5 : Int32), rv w_SPECIAL, iv (4 : Int32)] [(.int (1 : Int32)), (.int (4 : Int32)), (.ref r_ranges_SPECIAL), (.int z)])) (fun t k => XS.iconst X27.here hx rfl (hb hby d1_53) k) ?_
                      refine own_pre (T' := T27) (f' := (mkF m 55 #[iv z, rv b1, iv (6 : Int32), iv (5 : Int32), rv w_SPECIAL, iv (4 : Int32)] [(.int ((4 : Int32) + (1 : Int32))), (.ref r_ranges_SPECIAL), (.int z)])) (fun t k => XS.iadd X27.here hx rfl (hb hby d1_54) rfl k) ?_
                      rw [show ((4 : Int32) + (1 : Int32)) = (5 : Int32) from by decide]
                      refine own_pre (T' := T27) (f' := (mkF m 56 #[iv z, rv b1, iv (6 : Int32), iv (5 : Int32), rv w_SPECIAL, iv (4 : Int32)] [(.int (96 : Int32)), (.int z)])) (fun t k => own_ldI X27 hx hZ e27 (V_ranges_SPECIAL.ext EX1_h0) (by decide) rfl (g := (mkF m 55 #[iv z, rv b1, iv (6 : Int32), iv (5 : Int32), rv w_SPECIAL, iv (4 : Int32)] [(.int (5 : Int32)), (.ref r_ranges_SPECIAL), (.int z)])) rfl rfl (hb hby d1_55) t k) ?_
                      by_cases hc28 : (96 : Int32) < z
                      · refine own_pre (T' := T27) (f' := (mkF m 65 #[iv z, rv b1, iv (6 : Int32), iv (5 : Int32), rv w_SPECIAL, iv (4 : Int32)] [])) (fun t k => XS.icmpYes X27.here hx rfl (pc0 := 56) (pc' := 65) rfl (hb hby d1_56) rfl (tlt hc28).2.2.1 (by decide) (by decide) k) ?_
                        exact sk5_4 T27 X27 e27 (own_oH hc28)
                      · refine own_pre (T' := T27) (f' := (mkF m 59 #[iv z, rv b1, iv (6 : Int32), iv (5 : Int32), rv w_SPECIAL, iv (4 : Int32)] [])) (fun t k => XS.icmpNo X27.here hx rfl (hb hby d1_56) rfl (flt hc28).2.2.1 k) ?_
                        have ofsk5_4 := own_oF hc26 hc28
                        refine own_pre (T' := T27) (f' := (mkF m 61 #[iv z, rv b1, iv (6 : Int32), iv (5 : Int32), rv w_SPECIAL, iv (4 : Int32)] [(.ref w_SPECIAL)])) (fun t k => XS.aload X27.here hx rfl (hb hby d1_59) rfl rfl k) ?_
                        obtain ⟨T29, h29, X29, e29, E29, A29, st29⟩ := own_grow (R' := own_RC 2 1 1 26) (v := some (.ref h1.size)) (own_callS X27 hx hZ e27 (y := (⟨"java/util/Optional", "of", "(Ljava/lang/Object;)Ljava/util/Optional;"⟩ : MethodName)) hown (hw _ (List.mem_of_getElem? (i := 53) rfl)) (hw _ (List.mem_of_getElem? (i := 54) rfl)) (hw _ (List.mem_of_getElem? (i := 55) rfl)) (hw _ (List.mem_of_getElem? (i := 29) rfl)) (by decide) 0 [(.ref w_SPECIAL)] [] (own_oof l Z a0 hw [] w__VALUES w_CYRILLIC_UPPER w_CYRILLIC_LOWER w_LATIN_UPPER w_LATIN_LOWER w_DIGITS w_SPECIAL w_EMPTY r_ranges_CYRILLIC_UPPER r_ranges_CYRILLIC_LOWER r_ranges_LATIN_UPPER r_ranges_LATIN_LOWER r_ranges_DIGITS r_ranges_SPECIAL k__VALUES k_ranges_CYRILLIC_UPPER k_ranges_CYRILLIC_LOWER k_ranges_LATIN_UPPER k_ranges_LATIN_LOWER k_ranges_DIGITS k_ranges_SPECIAL h1 (own_F_ext F0 EX1_h0) w_SPECIAL) (by decide) (by decide) (by decide) (by decide) (g := (mkF m 61 #[iv z, rv b1, iv (6 : Int32), iv (5 : Int32), rv w_SPECIAL, iv (4 : Int32)] [(.ref w_SPECIAL)])) rfl (by rw [hml]; rfl) (lenOf pd_4 rfl) rfl (by show 2 * 0 + _ ≤ _; exact Nat.le_of_eq rfl) (hb hby d1_61))
                        have EX29_h0 : Ext h0 h29 := own_extE EX1_h0 E29
                        have EX29_h1 : Ext h1 h29 := E29
                        refine own_pre (T' := T29) (f' := (mkF m 64 #[iv z, rv b1, iv (6 : Int32), iv (5 : Int32), rv w_SPECIAL, iv (4 : Int32)] [(.ref h1.size)])) (fun t k => st29 t k) ?_
                        exact own_retR X29 hx hlk hret (hb hby d1_64) rfl rfl rfl (by rw [e29]; exact ⟨_, rfl, EX29_h0, rfl, A29.1, (by rw [← hcl]; simp [own_cls, osk0_0, osk0_2, osk1_0, osk1_2, osk2_0, osk3_0, osk4_0, osk5_0, osk5_2, ofsk5_4] : Value.ref w_SPECIAL = x) ▸ A29.2⟩) (by decide) (by decide)
                  refine own_pre (T' := T15) (f' := (mkF m 34 #[iv z, rv b1, iv (6 : Int32), iv (5 : Int32), rv w_SPECIAL, iv (2 : Int32)] [(.int z)])) (fun t k => XS.iloadN X15.here hx rfl (hb hby d1_33) rfl k) ?_
                  refine own_pre (T' := T15) (f' := (mkF m 36 #[iv z, rv b1, iv (6 : Int32), iv (5 : Int32), rv w_SPECIAL, iv (2 : Int32)] [(.ref w_SPECIAL), (.int z)])) (fun t k => XS.aload X15.here hx rfl (hb hby d1_34) rfl rfl k) ?_
                  obtain ⟨T30, X30, e30, st30⟩ := getF X15 hx hZ hown (host := "") (Or.inl (hw _ (List.mem_of_getElem? (i := 25) rfl))) Via.refl e15 (F_ranges_SPECIAL.ext EX1_h0) (g := (mkF m 36 #[iv z, rv b1, iv (6 : Int32), iv (5 : Int32), rv w_SPECIAL, iv (2 : Int32)] [(.ref w_SPECIAL), (.int z)])) rfl rfl (hb hby d1_36)
                  refine own_pre (T' := T30) (f' := (mkF m 39 #[iv z, rv b1, iv (6 : Int32), iv (5 : Int32), rv w_SPECIAL, iv (2 : Int32)] [(.ref r_ranges_SPECIAL), (.int z)])) (fun t k => st30 t k) ?_
                  refine own_pre (T' := T30) (f' := (mkF m 41 #[iv z, rv b1, iv (6 : Int32), iv (5 : Int32), rv w_SPECIAL, iv (2 : Int32)] [(.int (2 : Int32)), (.ref r_ranges_SPECIAL), (.int z)])) (fun t k => XS.iload X30.here hx rfl (hb hby d1_39) rfl k) ?_
                  refine own_pre (T' := T30) (f' := (mkF m 42 #[iv z, rv b1, iv (6 : Int32), iv (5 : Int32), rv w_SPECIAL, iv (2 : Int32)] [(.int (58 : Int32)), (.int z)])) (fun t k => own_ldI X30 hx hZ e30 (V_ranges_SPECIAL.ext EX1_h0) (by decide) rfl (g := (mkF m 41 #[iv z, rv b1, iv (6 : Int32), iv (5 : Int32), rv w_SPECIAL, iv (2 : Int32)] [(.int (2 : Int32)), (.ref r_ranges_SPECIAL), (.int z)])) rfl rfl (hb hby d1_41) t k) ?_
                  by_cases hc31 : z < (58 : Int32)
                  · refine own_pre (T' := T30) (f' := (mkF m 65 #[iv z, rv b1, iv (6 : Int32), iv (5 : Int32), rv w_SPECIAL, iv (2 : Int32)] [])) (fun t k => XS.icmpYes X30.here hx rfl (pc0 := 42) (pc' := 65) rfl (hb hby d1_42) rfl (tlt hc31).1 (by decide) (by decide) k) ?_
                    exact sk5_2 T30 X30 e30 (own_oL hc31)
                  · refine own_pre (T' := T30) (f' := (mkF m 45 #[iv z, rv b1, iv (6 : Int32), iv (5 : Int32), rv w_SPECIAL, iv (2 : Int32)] [])) (fun t k => XS.icmpNo X30.here hx rfl (hb hby d1_42) rfl (flt hc31).1 k) ?_
                    refine own_pre (T' := T30) (f' := (mkF m 46 #[iv z, rv b1, iv (6 : Int32), iv (5 : Int32), rv w_SPECIAL, iv (2 : Int32)] [(.int z)])) (fun t k => XS.iloadN X30.here hx rfl (hb hby d1_45) rfl k) ?_
                    refine own_pre (T' := T30) (f' := (mkF m 48 #[iv z, rv b1, iv (6 : Int32), iv (5 : Int32), rv w_SPECIAL, iv (2 : Int32)] [(.ref w_SPECIAL), (.int z)])) (fun t k => XS.aload X30.here hx rfl (hb hby d1_46) rfl rfl k) ?_
                    obtain ⟨T32, X32, e32, st32⟩ := getF X30 hx hZ hown (host := "") (Or.inl (hw _ (List.mem_of_getElem? (i := 25) rfl))) Via.refl e30 (F_ranges_SPECIAL.ext EX1_h0) (g := (mkF m 48 #[iv z, rv b1, iv (6 : Int32), iv (5 : Int32), rv w_SPECIAL, iv (2 : Int32)] [(.ref w_SPECIAL), (.int z)])) rfl rfl (hb hby d1_48)
                    refine own_pre (T' := T32) (f' := (mkF m 51 #[iv z, rv b1, iv (6 : Int32), iv (5 : Int32), rv w_SPECIAL, iv (2 : Int32)] [(.ref r_ranges_SPECIAL), (.int z)])) (fun t k => st32 t k) ?_
                    refine own_pre (T' := T32) (f' := (mkF m 53 #[iv z, rv b1, iv (6 : Int32), iv (5 : Int32), rv w_SPECIAL, iv (2 : Int32)] [(.int (2 : Int32)), (.ref r_ranges_SPECIAL), (.int z)])) (fun t k => XS.iload X32.here hx rfl (hb hby d1_51) rfl k) ?_
                    refine own_pre (T' := T32) (f' := (mkF m 54 #[iv z, rv b1, iv (6 : Int32), iv (5 : Int32), rv w_SPECIAL, iv (2 : Int32)] [(.int (1 : Int32)), (.int (2 : Int32)), (.ref r_ranges_SPECIAL), (.int z)])) (fun t k => XS.iconst X32.here hx rfl (hb hby d1_53) k) ?_
                    refine own_pre (T' := T32) (f' := (mkF m 55 #[iv z, rv b1, iv (6 : Int32), iv (5 : Int32), rv w_SPECIAL, iv (2 : Int32)] [(.int ((2 : Int32) + (1 : Int32))), (.ref r_ranges_SPECIAL), (.int z)])) (fun t k => XS.iadd X32.here hx rfl (hb hby d1_54) rfl k) ?_
                    rw [show ((2 : Int32) + (1 : Int32)) = (3 : Int32) from by decide]
                    refine own_pre (T' := T32) (f' := (mkF m 56 #[iv z, rv b1, iv (6 : Int32), iv (5 : Int32), rv w_SPECIAL, iv (2 : Int32)] [(.int (64 : Int32)), (.int z)])) (fun t k => own_ldI X32 hx hZ e32 (V_ranges_SPECIAL.ext EX1_h0) (by decide) rfl (g := (mkF m 55 #[iv z, rv b1, iv (6 : Int32), iv (5 : Int32), rv w_SPECIAL, iv (2 : Int32)] [(.int (3 : Int32)), (.ref r_ranges_SPECIAL), (.int z)])) rfl rfl (hb hby d1_55) t k) ?_
                    by_cases hc33 : (64 : Int32) < z
                    · refine own_pre (T' := T32) (f' := (mkF m 65 #[iv z, rv b1, iv (6 : Int32), iv (5 : Int32), rv w_SPECIAL, iv (2 : Int32)] [])) (fun t k => XS.icmpYes X32.here hx rfl (pc0 := 56) (pc' := 65) rfl (hb hby d1_56) rfl (tlt hc33).2.2.1 (by decide) (by decide) k) ?_
                      exact sk5_2 T32 X32 e32 (own_oH hc33)
                    · refine own_pre (T' := T32) (f' := (mkF m 59 #[iv z, rv b1, iv (6 : Int32), iv (5 : Int32), rv w_SPECIAL, iv (2 : Int32)] [])) (fun t k => XS.icmpNo X32.here hx rfl (hb hby d1_56) rfl (flt hc33).2.2.1 k) ?_
                      have ofsk5_2 := own_oF hc31 hc33
                      refine own_pre (T' := T32) (f' := (mkF m 61 #[iv z, rv b1, iv (6 : Int32), iv (5 : Int32), rv w_SPECIAL, iv (2 : Int32)] [(.ref w_SPECIAL)])) (fun t k => XS.aload X32.here hx rfl (hb hby d1_59) rfl rfl k) ?_
                      obtain ⟨T34, h34, X34, e34, E34, A34, st34⟩ := own_grow (R' := own_RC 2 1 1 26) (v := some (.ref h1.size)) (own_callS X32 hx hZ e32 (y := (⟨"java/util/Optional", "of", "(Ljava/lang/Object;)Ljava/util/Optional;"⟩ : MethodName)) hown (hw _ (List.mem_of_getElem? (i := 53) rfl)) (hw _ (List.mem_of_getElem? (i := 54) rfl)) (hw _ (List.mem_of_getElem? (i := 55) rfl)) (hw _ (List.mem_of_getElem? (i := 29) rfl)) (by decide) 0 [(.ref w_SPECIAL)] [] (own_oof l Z a0 hw [] w__VALUES w_CYRILLIC_UPPER w_CYRILLIC_LOWER w_LATIN_UPPER w_LATIN_LOWER w_DIGITS w_SPECIAL w_EMPTY r_ranges_CYRILLIC_UPPER r_ranges_CYRILLIC_LOWER r_ranges_LATIN_UPPER r_ranges_LATIN_LOWER r_ranges_DIGITS r_ranges_SPECIAL k__VALUES k_ranges_CYRILLIC_UPPER k_ranges_CYRILLIC_LOWER k_ranges_LATIN_UPPER k_ranges_LATIN_LOWER k_ranges_DIGITS k_ranges_SPECIAL h1 (own_F_ext F0 EX1_h0) w_SPECIAL) (by decide) (by decide) (by decide) (by decide) (g := (mkF m 61 #[iv z, rv b1, iv (6 : Int32), iv (5 : Int32), rv w_SPECIAL, iv (2 : Int32)] [(.ref w_SPECIAL)])) rfl (by rw [hml]; rfl) (lenOf pd_4 rfl) rfl (by show 2 * 0 + _ ≤ _; exact Nat.le_of_eq rfl) (hb hby d1_61))
                      have EX34_h0 : Ext h0 h34 := own_extE EX1_h0 E34
                      have EX34_h1 : Ext h1 h34 := E34
                      refine own_pre (T' := T34) (f' := (mkF m 64 #[iv z, rv b1, iv (6 : Int32), iv (5 : Int32), rv w_SPECIAL, iv (2 : Int32)] [(.ref h1.size)])) (fun t k => st34 t k) ?_
                      exact own_retR X34 hx hlk hret (hb hby d1_64) rfl rfl rfl (by rw [e34]; exact ⟨_, rfl, EX34_h0, rfl, A34.1, (by rw [← hcl]; simp [own_cls, osk0_0, osk0_2, osk1_0, osk1_2, osk2_0, osk3_0, osk4_0, osk5_0, ofsk5_2] : Value.ref w_SPECIAL = x) ▸ A34.2⟩) (by decide) (by decide)
                refine own_pre (T' := T14) (f' := (mkF m 34 #[iv z, rv b1, iv (6 : Int32), iv (5 : Int32), rv w_SPECIAL, iv (0 : Int32)] [(.int z)])) (fun t k => XS.iloadN X14.here hx rfl (hb hby d1_33) rfl k) ?_
                refine own_pre (T' := T14) (f' := (mkF m 36 #[iv z, rv b1, iv (6 : Int32), iv (5 : Int32), rv w_SPECIAL, iv (0 : Int32)] [(.ref w_SPECIAL), (.int z)])) (fun t k => XS.aload X14.here hx rfl (hb hby d1_34) rfl rfl k) ?_
                obtain ⟨T35, X35, e35, st35⟩ := getF X14 hx hZ hown (host := "") (Or.inl (hw _ (List.mem_of_getElem? (i := 25) rfl))) Via.refl e14 (F_ranges_SPECIAL.ext EX1_h0) (g := (mkF m 36 #[iv z, rv b1, iv (6 : Int32), iv (5 : Int32), rv w_SPECIAL, iv (0 : Int32)] [(.ref w_SPECIAL), (.int z)])) rfl rfl (hb hby d1_36)
                refine own_pre (T' := T35) (f' := (mkF m 39 #[iv z, rv b1, iv (6 : Int32), iv (5 : Int32), rv w_SPECIAL, iv (0 : Int32)] [(.ref r_ranges_SPECIAL), (.int z)])) (fun t k => st35 t k) ?_
                refine own_pre (T' := T35) (f' := (mkF m 41 #[iv z, rv b1, iv (6 : Int32), iv (5 : Int32), rv w_SPECIAL, iv (0 : Int32)] [(.int (0 : Int32)), (.ref r_ranges_SPECIAL), (.int z)])) (fun t k => XS.iload X35.here hx rfl (hb hby d1_39) rfl k) ?_
                refine own_pre (T' := T35) (f' := (mkF m 42 #[iv z, rv b1, iv (6 : Int32), iv (5 : Int32), rv w_SPECIAL, iv (0 : Int32)] [(.int (33 : Int32)), (.int z)])) (fun t k => own_ldI X35 hx hZ e35 (V_ranges_SPECIAL.ext EX1_h0) (by decide) rfl (g := (mkF m 41 #[iv z, rv b1, iv (6 : Int32), iv (5 : Int32), rv w_SPECIAL, iv (0 : Int32)] [(.int (0 : Int32)), (.ref r_ranges_SPECIAL), (.int z)])) rfl rfl (hb hby d1_41) t k) ?_
                by_cases hc36 : z < (33 : Int32)
                · refine own_pre (T' := T35) (f' := (mkF m 65 #[iv z, rv b1, iv (6 : Int32), iv (5 : Int32), rv w_SPECIAL, iv (0 : Int32)] [])) (fun t k => XS.icmpYes X35.here hx rfl (pc0 := 42) (pc' := 65) rfl (hb hby d1_42) rfl (tlt hc36).1 (by decide) (by decide) k) ?_
                  exact sk5_0 T35 X35 e35 (own_oL hc36)
                · refine own_pre (T' := T35) (f' := (mkF m 45 #[iv z, rv b1, iv (6 : Int32), iv (5 : Int32), rv w_SPECIAL, iv (0 : Int32)] [])) (fun t k => XS.icmpNo X35.here hx rfl (hb hby d1_42) rfl (flt hc36).1 k) ?_
                  refine own_pre (T' := T35) (f' := (mkF m 46 #[iv z, rv b1, iv (6 : Int32), iv (5 : Int32), rv w_SPECIAL, iv (0 : Int32)] [(.int z)])) (fun t k => XS.iloadN X35.here hx rfl (hb hby d1_45) rfl k) ?_
                  refine own_pre (T' := T35) (f' := (mkF m 48 #[iv z, rv b1, iv (6 : Int32), iv (5 : Int32), rv w_SPECIAL, iv (0 : Int32)] [(.ref w_SPECIAL), (.int z)])) (fun t k => XS.aload X35.here hx rfl (hb hby d1_46) rfl rfl k) ?_
                  obtain ⟨T37, X37, e37, st37⟩ := getF X35 hx hZ hown (host := "") (Or.inl (hw _ (List.mem_of_getElem? (i := 25) rfl))) Via.refl e35 (F_ranges_SPECIAL.ext EX1_h0) (g := (mkF m 48 #[iv z, rv b1, iv (6 : Int32), iv (5 : Int32), rv w_SPECIAL, iv (0 : Int32)] [(.ref w_SPECIAL), (.int z)])) rfl rfl (hb hby d1_48)
                  refine own_pre (T' := T37) (f' := (mkF m 51 #[iv z, rv b1, iv (6 : Int32), iv (5 : Int32), rv w_SPECIAL, iv (0 : Int32)] [(.ref r_ranges_SPECIAL), (.int z)])) (fun t k => st37 t k) ?_
                  refine own_pre (T' := T37) (f' := (mkF m 53 #[iv z, rv b1, iv (6 : Int32), iv (5 : Int32), rv w_SPECIAL, iv (0 : Int32)] [(.int (0 : Int32)), (.ref r_ranges_SPECIAL), (.int z)])) (fun t k => XS.iload X37.here hx rfl (hb hby d1_51) rfl k) ?_
                  refine own_pre (T' := T37) (f' := (mkF m 54 #[iv z, rv b1, iv (6 : Int32), iv (5 : Int32), rv w_SPECIAL, iv (0 : Int32)] [(.int (1 : Int32)), (.int (0 : Int32)), (.ref r_ranges_SPECIAL), (.int z)])) (fun t k => XS.iconst X37.here hx rfl (hb hby d1_53) k) ?_
                  refine own_pre (T' := T37) (f' := (mkF m 55 #[iv z, rv b1, iv (6 : Int32), iv (5 : Int32), rv w_SPECIAL, iv (0 : Int32)] [(.int ((0 : Int32) + (1 : Int32))), (.ref r_ranges_SPECIAL), (.int z)])) (fun t k => XS.iadd X37.here hx rfl (hb hby d1_54) rfl k) ?_
                  rw [show ((0 : Int32) + (1 : Int32)) = (1 : Int32) from by decide]
                  refine own_pre (T' := T37) (f' := (mkF m 56 #[iv z, rv b1, iv (6 : Int32), iv (5 : Int32), rv w_SPECIAL, iv (0 : Int32)] [(.int (47 : Int32)), (.int z)])) (fun t k => own_ldI X37 hx hZ e37 (V_ranges_SPECIAL.ext EX1_h0) (by decide) rfl (g := (mkF m 55 #[iv z, rv b1, iv (6 : Int32), iv (5 : Int32), rv w_SPECIAL, iv (0 : Int32)] [(.int (1 : Int32)), (.ref r_ranges_SPECIAL), (.int z)])) rfl rfl (hb hby d1_55) t k) ?_
                  by_cases hc38 : (47 : Int32) < z
                  · refine own_pre (T' := T37) (f' := (mkF m 65 #[iv z, rv b1, iv (6 : Int32), iv (5 : Int32), rv w_SPECIAL, iv (0 : Int32)] [])) (fun t k => XS.icmpYes X37.here hx rfl (pc0 := 56) (pc' := 65) rfl (hb hby d1_56) rfl (tlt hc38).2.2.1 (by decide) (by decide) k) ?_
                    exact sk5_0 T37 X37 e37 (own_oH hc38)
                  · refine own_pre (T' := T37) (f' := (mkF m 59 #[iv z, rv b1, iv (6 : Int32), iv (5 : Int32), rv w_SPECIAL, iv (0 : Int32)] [])) (fun t k => XS.icmpNo X37.here hx rfl (hb hby d1_56) rfl (flt hc38).2.2.1 k) ?_
                    have ofsk5_0 := own_oF hc36 hc38
                    refine own_pre (T' := T37) (f' := (mkF m 61 #[iv z, rv b1, iv (6 : Int32), iv (5 : Int32), rv w_SPECIAL, iv (0 : Int32)] [(.ref w_SPECIAL)])) (fun t k => XS.aload X37.here hx rfl (hb hby d1_59) rfl rfl k) ?_
                    obtain ⟨T39, h39, X39, e39, E39, A39, st39⟩ := own_grow (R' := own_RC 2 1 1 26) (v := some (.ref h1.size)) (own_callS X37 hx hZ e37 (y := (⟨"java/util/Optional", "of", "(Ljava/lang/Object;)Ljava/util/Optional;"⟩ : MethodName)) hown (hw _ (List.mem_of_getElem? (i := 53) rfl)) (hw _ (List.mem_of_getElem? (i := 54) rfl)) (hw _ (List.mem_of_getElem? (i := 55) rfl)) (hw _ (List.mem_of_getElem? (i := 29) rfl)) (by decide) 0 [(.ref w_SPECIAL)] [] (own_oof l Z a0 hw [] w__VALUES w_CYRILLIC_UPPER w_CYRILLIC_LOWER w_LATIN_UPPER w_LATIN_LOWER w_DIGITS w_SPECIAL w_EMPTY r_ranges_CYRILLIC_UPPER r_ranges_CYRILLIC_LOWER r_ranges_LATIN_UPPER r_ranges_LATIN_LOWER r_ranges_DIGITS r_ranges_SPECIAL k__VALUES k_ranges_CYRILLIC_UPPER k_ranges_CYRILLIC_LOWER k_ranges_LATIN_UPPER k_ranges_LATIN_LOWER k_ranges_DIGITS k_ranges_SPECIAL h1 (own_F_ext F0 EX1_h0) w_SPECIAL) (by decide) (by decide) (by decide) (by decide) (g := (mkF m 61 #[iv z, rv b1, iv (6 : Int32), iv (5 : Int32), rv w_SPECIAL, iv (0 : Int32)] [(.ref w_SPECIAL)])) rfl (by rw [hml]; rfl) (lenOf pd_4 rfl) rfl (by show 2 * 0 + _ ≤ _; exact Nat.le_of_eq rfl) (hb hby d1_61))
                    have EX39_h0 : Ext h0 h39 := own_extE EX1_h0 E39
                    have EX39_h1 : Ext h1 h39 := E39
                    refine own_pre (T' := T39) (f' := (mkF m 64 #[iv z, rv b1, iv (6 : Int32), iv (5 : Int32), rv w_SPECIAL, iv (0 : Int32)] [(.ref h1.size)])) (fun t k => st39 t k) ?_
                    exact own_retR X39 hx hlk hret (hb hby d1_64) rfl rfl rfl (by rw [e39]; exact ⟨_, rfl, EX39_h0, rfl, A39.1, (by rw [← hcl]; simp [own_cls, osk0_0, osk0_2, osk1_0, osk1_2, osk2_0, osk3_0, osk4_0, ofsk5_0] : Value.ref w_SPECIAL = x) ▸ A39.2⟩) (by decide) (by decide)
              refine own_pre (T' := T12) (f' := (mkF m 34 #[iv z, rv b1, iv (6 : Int32), iv (4 : Int32), rv w_DIGITS, iv (0 : Int32)] [(.int z)])) (fun t k => XS.iloadN X12.here hx rfl (hb hby d1_33) rfl k) ?_
              refine own_pre (T' := T12) (f' := (mkF m 36 #[iv z, rv b1, iv (6 : Int32), iv (4 : Int32), rv w_DIGITS, iv (0 : Int32)] [(.ref w_DIGITS), (.int z)])) (fun t k => XS.aload X12.here hx rfl (hb hby d1_34) rfl rfl k) ?_
              obtain ⟨T40, X40, e40, st40⟩ := getF X12 hx hZ hown (host := "") (Or.inl (hw _ (List.mem_of_getElem? (i := 25) rfl))) Via.refl e12 (F_ranges_DIGITS.ext EX1_h0) (g := (mkF m 36 #[iv z, rv b1, iv (6 : Int32), iv (4 : Int32), rv w_DIGITS, iv (0 : Int32)] [(.ref w_DIGITS), (.int z)])) rfl rfl (hb hby d1_36)
              refine own_pre (T' := T40) (f' := (mkF m 39 #[iv z, rv b1, iv (6 : Int32), iv (4 : Int32), rv w_DIGITS, iv (0 : Int32)] [(.ref r_ranges_DIGITS), (.int z)])) (fun t k => st40 t k) ?_
              refine own_pre (T' := T40) (f' := (mkF m 41 #[iv z, rv b1, iv (6 : Int32), iv (4 : Int32), rv w_DIGITS, iv (0 : Int32)] [(.int (0 : Int32)), (.ref r_ranges_DIGITS), (.int z)])) (fun t k => XS.iload X40.here hx rfl (hb hby d1_39) rfl k) ?_
              refine own_pre (T' := T40) (f' := (mkF m 42 #[iv z, rv b1, iv (6 : Int32), iv (4 : Int32), rv w_DIGITS, iv (0 : Int32)] [(.int (48 : Int32)), (.int z)])) (fun t k => own_ldI X40 hx hZ e40 (V_ranges_DIGITS.ext EX1_h0) (by decide) rfl (g := (mkF m 41 #[iv z, rv b1, iv (6 : Int32), iv (4 : Int32), rv w_DIGITS, iv (0 : Int32)] [(.int (0 : Int32)), (.ref r_ranges_DIGITS), (.int z)])) rfl rfl (hb hby d1_41) t k) ?_
              by_cases hc41 : z < (48 : Int32)
              · refine own_pre (T' := T40) (f' := (mkF m 65 #[iv z, rv b1, iv (6 : Int32), iv (4 : Int32), rv w_DIGITS, iv (0 : Int32)] [])) (fun t k => XS.icmpYes X40.here hx rfl (pc0 := 42) (pc' := 65) rfl (hb hby d1_42) rfl (tlt hc41).1 (by decide) (by decide) k) ?_
                exact sk4_0 T40 X40 e40 (own_oL hc41)
              · refine own_pre (T' := T40) (f' := (mkF m 45 #[iv z, rv b1, iv (6 : Int32), iv (4 : Int32), rv w_DIGITS, iv (0 : Int32)] [])) (fun t k => XS.icmpNo X40.here hx rfl (hb hby d1_42) rfl (flt hc41).1 k) ?_
                refine own_pre (T' := T40) (f' := (mkF m 46 #[iv z, rv b1, iv (6 : Int32), iv (4 : Int32), rv w_DIGITS, iv (0 : Int32)] [(.int z)])) (fun t k => XS.iloadN X40.here hx rfl (hb hby d1_45) rfl k) ?_
                refine own_pre (T' := T40) (f' := (mkF m 48 #[iv z, rv b1, iv (6 : Int32), iv (4 : Int32), rv w_DIGITS, iv (0 : Int32)] [(.ref w_DIGITS), (.int z)])) (fun t k => XS.aload X40.here hx rfl (hb hby d1_46) rfl rfl k) ?_
                obtain ⟨T42, X42, e42, st42⟩ := getF X40 hx hZ hown (host := "") (Or.inl (hw _ (List.mem_of_getElem? (i := 25) rfl))) Via.refl e40 (F_ranges_DIGITS.ext EX1_h0) (g := (mkF m 48 #[iv z, rv b1, iv (6 : Int32), iv (4 : Int32), rv w_DIGITS, iv (0 : Int32)] [(.ref w_DIGITS), (.int z)])) rfl rfl (hb hby d1_48)
                refine own_pre (T' := T42) (f' := (mkF m 51 #[iv z, rv b1, iv (6 : Int32), iv (4 : Int32), rv w_DIGITS, iv (0 : Int32)] [(.ref r_ranges_DIGITS), (.int z)])) (fun t k => st42 t k) ?_
                refine own_pre (T' := T42) (f' := (mkF m 53 #[iv z, rv b1, iv (6 : Int32), iv (4 : Int32), rv w_DIGITS, iv (0 : Int32)] [(.int (0 : Int32)), (.ref r_ranges_DIGITS), (.int z)])) (fun t k => XS.iload X42.here hx rfl (hb hby d1_51) rfl k) ?_
                refine own_pre (T' := T42) (f' := (mkF m 54 #[iv z, rv b1, iv (6 : Int32), iv (4 : Int32), rv w_DIGITS, iv (0 : Int32)] [(.int (1 : Int32)), (.int (0 : Int32)), (.ref r_ranges_DIGITS), (.int z)])) (fun t k => XS.iconst X42.here hx rfl (hb hby d1_53) k) ?_
                refine own_pre (T' := T42) (f' := (mkF m 55 #[iv z, rv b1, iv (6 : Int32), iv (4 : Int32), rv w_DIGITS, iv (0 : Int32)] [(.int ((0 : Int32) + (1 : Int32))), (.ref r_ranges_DIGITS), (.int z)])) (fun t k => XS.iadd X42.here hx rfl (hb hby d1_54) rfl k) ?_
                rw [show ((0 : Int32) + (1 : Int32)) = (1 : Int32) from by decide]
                refine own_pre (T' := T42) (f' := (mkF m 56 #[iv z, rv b1, iv (6 : Int32), iv (4 : Int32), rv w_DIGITS, iv (0 : Int32)] [(.int (57 : Int32)), (.int z)])) (fun t k => own_ldI X42 hx hZ e42 (V_ranges_DIGITS.ext EX1_h0) (by decide) rfl (g := (mkF m 55 #[iv z, rv b1, iv (6 : Int32), iv (4 : Int32), rv w_DIGITS, iv (0 : Int32)] [(.int (1 : Int32)), (.ref r_ranges_DIGITS), (.int z)])) rfl rfl (hb hby d1_55) t k) ?_
                by_cases hc43 : (57 : Int32) < z
                · refine own_pre (T' := T42) (f' := (mkF m 65 #[iv z, rv b1, iv (6 : Int32), iv (4 : Int32), rv w_DIGITS, iv (0 : Int32)] [])) (fun t k => XS.icmpYes X42.here hx rfl (pc0 := 56) (pc' := 65) rfl (hb hby d1_56) rfl (tlt hc43).2.2.1 (by decide) (by decide) k) ?_
                  exact sk4_0 T42 X42 e42 (own_oH hc43)
                · refine own_pre (T' := T42) (f' := (mkF m 59 #[iv z, rv b1, iv (6 : Int32), iv (4 : Int32), rv w_DIGITS, iv (0 : Int32)] [])) (fun t k => XS.icmpNo X42.here hx rfl (hb hby d1_56) rfl (flt hc43).2.2.1 k) ?_
                  have ofsk4_0 := own_oF hc41 hc43
                  refine own_pre (T' := T42) (f' := (mkF m 61 #[iv z, rv b1, iv (6 : Int32), iv (4 : Int32), rv w_DIGITS, iv (0 : Int32)] [(.ref w_DIGITS)])) (fun t k => XS.aload X42.here hx rfl (hb hby d1_59) rfl rfl k) ?_
                  obtain ⟨T44, h44, X44, e44, E44, A44, st44⟩ := own_grow (R' := own_RC 2 1 1 26) (v := some (.ref h1.size)) (own_callS X42 hx hZ e42 (y := (⟨"java/util/Optional", "of", "(Ljava/lang/Object;)Ljava/util/Optional;"⟩ : MethodName)) hown (hw _ (List.mem_of_getElem? (i := 53) rfl)) (hw _ (List.mem_of_getElem? (i := 54) rfl)) (hw _ (List.mem_of_getElem? (i := 55) rfl)) (hw _ (List.mem_of_getElem? (i := 29) rfl)) (by decide) 0 [(.ref w_DIGITS)] [] (own_oof l Z a0 hw [] w__VALUES w_CYRILLIC_UPPER w_CYRILLIC_LOWER w_LATIN_UPPER w_LATIN_LOWER w_DIGITS w_SPECIAL w_EMPTY r_ranges_CYRILLIC_UPPER r_ranges_CYRILLIC_LOWER r_ranges_LATIN_UPPER r_ranges_LATIN_LOWER r_ranges_DIGITS r_ranges_SPECIAL k__VALUES k_ranges_CYRILLIC_UPPER k_ranges_CYRILLIC_LOWER k_ranges_LATIN_UPPER k_ranges_LATIN_LOWER k_ranges_DIGITS k_ranges_SPECIAL h1 (own_F_ext F0 EX1_h0) w_DIGITS) (by decide) (by decide) (by decide) (by decide) (g := (mkF m 61 #[iv z, rv b1, iv (6 : Int32), iv (4 : Int32), rv w_DIGITS, iv (0 : Int32)] [(.ref w_DIGITS)])) rfl (by rw [hml]; rfl) (lenOf pd_4 rfl) rfl (by show 2 * 0 + _ ≤ _; exact Nat.le_of_eq rfl) (hb hby d1_61))
                  have EX44_h0 : Ext h0 h44 := own_extE EX1_h0 E44
                  have EX44_h1 : Ext h1 h44 := E44
                  refine own_pre (T' := T44) (f' := (mkF m 64 #[iv z, rv b1, iv (6 : Int32), iv (4 : Int32), rv w_DIGITS, iv (0 : Int32)] [(.ref h1.size)])) (fun t k => st44 t k) ?_
                  exact own_retR X44 hx hlk hret (hb hby d1_64) rfl rfl rfl (by rw [e44]; exact ⟨_, rfl, EX44_h0, rfl, A44.1, (by rw [← hcl]; simp [own_cls, osk0_0, osk0_2, osk1_0, osk1_2, osk2_0, osk3_0, ofsk4_0] : Value.ref w_DIGITS = x) ▸ A44.2⟩) (by decide) (by decide)
            refine own_pre (T' := T10) (f' := (mkF m 34 #[iv z, rv b1, iv (6 : Int32), iv (3 : Int32), rv w_LATIN_LOWER, iv (0 : Int32)] [(.int z)])) (fun t k => XS.iloadN X10.here hx rfl (hb hby d1_33) rfl k) ?_
            refine own_pre (T' := T10) (f' := (mkF m 36 #[iv z, rv b1, iv (6 : Int32), iv (3 : Int32), rv w_LATIN_LOWER, iv (0 : Int32)] [(.ref w_LATIN_LOWER), (.int z)])) (fun t k => XS.aload X10.here hx rfl (hb hby d1_34) rfl rfl k) ?_
            obtain ⟨T45, X45, e45, st45⟩ := getF X10 hx hZ hown (host := "") (Or.inl (hw _ (List.mem_of_getElem? (i := 25) rfl))) Via.refl e10 (F_ranges_LATIN_LOWER.ext EX1_h0) (g := (mkF m 36 #[iv z, rv b1, iv (6 : Int32), iv (3 : Int32), rv w_LATIN_LOWER, iv (0 : Int32)] [(.ref w_LATIN_LOWER), (.int z)])) rfl rfl (hb hby d1_36)
            refine own_pre (T' := T45) (f' := (mkF m 39 #[iv z, rv b1, iv (6 : Int32), iv (3 : Int32), rv w_LATIN_LOWER, iv (0 : Int32)] [(.ref r_ranges_LATIN_LOWER), (.int z)])) (fun t k => st45 t k) ?_
            refine own_pre (T' := T45) (f' := (mkF m 41 #[iv z, rv b1, iv (6 : Int32), iv (3 : Int32), rv w_LATIN_LOWER, iv (0 : Int32)] [(.int (0 : Int32)), (.ref r_ranges_LATIN_LOWER), (.int z)])) (fun t k => XS.iload X45.here hx rfl (hb hby d1_39) rfl k) ?_
            refine own_pre (T' := T45) (f' := (mkF m 42 #[iv z, rv b1, iv (6 : Int32), iv (3 : Int32), rv w_LATIN_LOWER, iv (0 : Int32)] [(.int (97 : Int32)), (.int z)])) (fun t k => own_ldI X45 hx hZ e45 (V_ranges_LATIN_LOWER.ext EX1_h0) (by decide) rfl (g := (mkF m 41 #[iv z, rv b1, iv (6 : Int32), iv (3 : Int32), rv w_LATIN_LOWER, iv (0 : Int32)] [(.int (0 : Int32)), (.ref r_ranges_LATIN_LOWER), (.int z)])) rfl rfl (hb hby d1_41) t k) ?_
            by_cases hc46 : z < (97 : Int32)
            · refine own_pre (T' := T45) (f' := (mkF m 65 #[iv z, rv b1, iv (6 : Int32), iv (3 : Int32), rv w_LATIN_LOWER, iv (0 : Int32)] [])) (fun t k => XS.icmpYes X45.here hx rfl (pc0 := 42) (pc' := 65) rfl (hb hby d1_42) rfl (tlt hc46).1 (by decide) (by decide) k) ?_
              exact sk3_0 T45 X45 e45 (own_oL hc46)
            · refine own_pre (T' := T45) (f' := (mkF m 45 #[iv z, rv b1, iv (6 : Int32), iv (3 : Int32), rv w_LATIN_LOWER, iv (0 : Int32)] [])) (fun t k => XS.icmpNo X45.here hx rfl (hb hby d1_42) rfl (flt hc46).1 k) ?_
              refine own_pre (T' := T45) (f' := (mkF m 46 #[iv z, rv b1, iv (6 : Int32), iv (3 : Int32), rv w_LATIN_LOWER, iv (0 : Int32)] [(.int z)])) (fun t k => XS.iloadN X45.here hx rfl (hb hby d1_45) rfl k) ?_
              refine own_pre (T' := T45) (f' := (mkF m 48 #[iv z, rv b1, iv (6 : Int32), iv (3 : Int32), rv w_LATIN_LOWER, iv (0 : Int32)] [(.ref w_LATIN_LOWER), (.int z)])) (fun t k => XS.aload X45.here hx rfl (hb hby d1_46) rfl rfl k) ?_
              obtain ⟨T47, X47, e47, st47⟩ := getF X45 hx hZ hown (host := "") (Or.inl (hw _ (List.mem_of_getElem? (i := 25) rfl))) Via.refl e45 (F_ranges_LATIN_LOWER.ext EX1_h0) (g := (mkF m 48 #[iv z, rv b1, iv (6 : Int32), iv (3 : Int32), rv w_LATIN_LOWER, iv (0 : Int32)] [(.ref w_LATIN_LOWER), (.int z)])) rfl rfl (hb hby d1_48)
              refine own_pre (T' := T47) (f' := (mkF m 51 #[iv z, rv b1, iv (6 : Int32), iv (3 : Int32), rv w_LATIN_LOWER, iv (0 : Int32)] [(.ref r_ranges_LATIN_LOWER), (.int z)])) (fun t k => st47 t k) ?_
              refine own_pre (T' := T47) (f' := (mkF m 53 #[iv z, rv b1, iv (6 : Int32), iv (3 : Int32), rv w_LATIN_LOWER, iv (0 : Int32)] [(.int (0 : Int32)), (.ref r_ranges_LATIN_LOWER), (.int z)])) (fun t k => XS.iload X47.here hx rfl (hb hby d1_51) rfl k) ?_
              refine own_pre (T' := T47) (f' := (mkF m 54 #[iv z, rv b1, iv (6 : Int32), iv (3 : Int32), rv w_LATIN_LOWER, iv (0 : Int32)] [(.int (1 : Int32)), (.int (0 : Int32)), (.ref r_ranges_LATIN_LOWER), (.int z)])) (fun t k => XS.iconst X47.here hx rfl (hb hby d1_53) k) ?_
              refine own_pre (T' := T47) (f' := (mkF m 55 #[iv z, rv b1, iv (6 : Int32), iv (3 : Int32), rv w_LATIN_LOWER, iv (0 : Int32)] [(.int ((0 : Int32) + (1 : Int32))), (.ref r_ranges_LATIN_LOWER), (.int z)])) (fun t k => XS.iadd X47.here hx rfl (hb hby d1_54) rfl k) ?_
              rw [show ((0 : Int32) + (1 : Int32)) = (1 : Int32) from by decide]
              refine own_pre (T' := T47) (f' := (mkF m 56 #[iv z, rv b1, iv (6 : Int32), iv (3 : Int32), rv w_LATIN_LOWER, iv (0 : Int32)] [(.int (122 : Int32)), (.int z)])) (fun t k => own_ldI X47 hx hZ e47 (V_ranges_LATIN_LOWER.ext EX1_h0) (by decide) rfl (g := (mkF m 55 #[iv z, rv b1, iv (6 : Int32), iv (3 : Int32), rv w_LATIN_LOWER, iv (0 : Int32)] [(.int (1 : Int32)), (.ref r_ranges_LATIN_LOWER), (.int z)])) rfl rfl (hb hby d1_55) t k) ?_
              by_cases hc48 : (122 : Int32) < z
              · refine own_pre (T' := T47) (f' := (mkF m 65 #[iv z, rv b1, iv (6 : Int32), iv (3 : Int32), rv w_LATIN_LOWER, iv (0 : Int32)] [])) (fun t k => XS.icmpYes X47.here hx rfl (pc0 := 56) (pc' := 65) rfl (hb hby d1_56) rfl (tlt hc48).2.2.1 (by decide) (by decide) k) ?_
                exact sk3_0 T47 X47 e47 (own_oH hc48)
              · refine own_pre (T' := T47) (f' := (mkF m 59 #[iv z, rv b1, iv (6 : Int32), iv (3 : Int32), rv w_LATIN_LOWER, iv (0 : Int32)] [])) (fun t k => XS.icmpNo X47.here hx rfl (hb hby d1_56) rfl (flt hc48).2.2.1 k) ?_
                have ofsk3_0 := own_oF hc46 hc48
                refine own_pre (T' := T47) (f' := (mkF m 61 #[iv z, rv b1, iv (6 : Int32), iv (3 : Int32), rv w_LATIN_LOWER, iv (0 : Int32)] [(.ref w_LATIN_LOWER)])) (fun t k => XS.aload X47.here hx rfl (hb hby d1_59) rfl rfl k) ?_
                obtain ⟨T49, h49, X49, e49, E49, A49, st49⟩ := own_grow (R' := own_RC 2 1 1 26) (v := some (.ref h1.size)) (own_callS X47 hx hZ e47 (y := (⟨"java/util/Optional", "of", "(Ljava/lang/Object;)Ljava/util/Optional;"⟩ : MethodName)) hown (hw _ (List.mem_of_getElem? (i := 53) rfl)) (hw _ (List.mem_of_getElem? (i := 54) rfl)) (hw _ (List.mem_of_getElem? (i := 55) rfl)) (hw _ (List.mem_of_getElem? (i := 29) rfl)) (by decide) 0 [(.ref w_LATIN_LOWER)] [] (own_oof l Z a0 hw [] w__VALUES w_CYRILLIC_UPPER w_CYRILLIC_LOWER w_LATIN_UPPER w_LATIN_LOWER w_DIGITS w_SPECIAL w_EMPTY r_ranges_CYRILLIC_UPPER r_ranges_CYRILLIC_LOWER r_ranges_LATIN_UPPER r_ranges_LATIN_LOWER r_ranges_DIGITS r_ranges_SPECIAL k__VALUES k_ranges_CYRILLIC_UPPER k_ranges_CYRILLIC_LOWER k_ranges_LATIN_UPPER k_ranges_LATIN_LOWER k_ranges_DIGITS k_ranges_SPECIAL h1 (own_F_ext F0 EX1_h0) w_LATIN_LOWER) (by decide) (by decide) (by decide) (by decide) (g := (mkF m 61 #[iv z, rv b1, iv (6 : Int32), iv (3 : Int32), rv w_LATIN_LOWER, iv (0 : Int32)] [(.ref w_LATIN_LOWER)])) rfl (by rw [hml]; rfl) (lenOf pd_4 rfl) rfl (by show 2 * 0 + _ ≤ _; exact Nat.le_of_eq rfl) (hb hby d1_61))
                have EX49_h0 : Ext h0 h49 := own_extE EX1_h0 E49
                have EX49_h1 : Ext h1 h49 := E49
                refine own_pre (T' := T49) (f' := (mkF m 64 #[iv z, rv b1, iv (6 : Int32), iv (3 : Int32), rv w_LATIN_LOWER, iv (0 : Int32)] [(.ref h1.size)])) (fun t k => st49 t k) ?_
                exact own_retR X49 hx hlk hret (hb hby d1_64) rfl rfl rfl (by rw [e49]; exact ⟨_, rfl, EX49_h0, rfl, A49.1, (by rw [← hcl]; simp [own_cls, osk0_0, osk0_2, osk1_0, osk1_2, osk2_0, ofsk3_0] : Value.ref w_LATIN_LOWER = x) ▸ A49.2⟩) (by decide) (by decide)
          refine own_pre (T' := T8) (f' := (mkF m 34 #[iv z, rv b1, iv (6 : Int32), iv (2 : Int32), rv w_LATIN_UPPER, iv (0 : Int32)] [(.int z)])) (fun t k => XS.iloadN X8.here hx rfl (hb hby d1_33) rfl k) ?_
          refine own_pre (T' := T8) (f' := (mkF m 36 #[iv z, rv b1, iv (6 : Int32), iv (2 : Int32), rv w_LATIN_UPPER, iv (0 : Int32)] [(.ref w_LATIN_UPPER), (.int z)])) (fun t k => XS.aload X8.here hx rfl (hb hby d1_34) rfl rfl k) ?_
          obtain ⟨T50, X50, e50, st50⟩ := getF X8 hx hZ hown (host := "") (Or.inl (hw _ (List.mem_of_getElem? (i := 25) rfl))) Via.refl e8 (F_ranges_LATIN_UPPER.ext EX1_h0) (g := (mkF m 36 #[iv z, rv b1, iv (6 : Int32), iv (2 : Int32), rv w_LATIN_UPPER, iv (0 : Int32)] [(.ref w_LATIN_UPPER), (.int z)])) rfl rfl (hb hby d1_36)
          refine own_pre (T' := T50) (f' := (mkF m 39 #[iv z, rv b1, iv (6 : Int32), iv (2 : Int32), rv w_LATIN_UPPER, iv (0 : Int32)] [(.ref r_ranges_LATIN_UPPER), (.int z)])) (fun t k => st50 t k) ?_
          refine own_pre (T' := T50) (f' := (mkF m 41 #[iv z, rv b1, iv (6 : Int32), iv (2 : Int32), rv w_LATIN_UPPER, iv (0 : Int32)] [(.int (0 : Int32)), (.ref r_ranges_LATIN_UPPER), (.int z)])) (fun t k => XS.iload X50.here hx rfl (hb hby d1_39) rfl k) ?_
          refine own_pre (T' := T50) (f' := (mkF m 42 #[iv z, rv b1, iv (6 : Int32), iv (2 : Int32), rv w_LATIN_UPPER, iv (0 : Int32)] [(.int (65 : Int32)), (.int z)])) (fun t k => own_ldI X50 hx hZ e50 (V_ranges_LATIN_UPPER.ext EX1_h0) (by decide) rfl (g := (mkF m 41 #[iv z, rv b1, iv (6 : Int32), iv (2 : Int32), rv w_LATIN_UPPER, iv (0 : Int32)] [(.int (0 : Int32)), (.ref r_ranges_LATIN_UPPER), (.int z)])) rfl rfl (hb hby d1_41) t k) ?_
          by_cases hc51 : z < (65 : Int32)
          · refine own_pre (T' := T50) (f' := (mkF m 65 #[iv z, rv b1, iv (6 : Int32), iv (2 : Int32), rv w_LATIN_UPPER, iv (0 : Int32)] [])) (fun t k => XS.icmpYes X50.here hx rfl (pc0 := 42) (pc' := 65) rfl (hb hby d1_42) rfl (tlt hc51).1 (by decide) (by decide) k) ?_
            exact sk2_0 T50 X50 e50 (own_oL hc51)
          · refine own_pre (T' := T50) (f' := (mkF m 45 #[iv z, rv b1, iv (6 : Int32), iv (2 : Int32), rv w_LATIN_UPPER, iv (0 : Int32)] [])) (fun t k => XS.icmpNo X50.here hx rfl (hb hby d1_42) rfl (flt hc51).1 k) ?_
            refine own_pre (T' := T50) (f' := (mkF m 46 #[iv z, rv b1, iv (6 : Int32), iv (2 : Int32), rv w_LATIN_UPPER, iv (0 : Int32)] [(.int z)])) (fun t k => XS.iloadN X50.here hx rfl (hb hby d1_45) rfl k) ?_
            refine own_pre (T' := T50) (f' := (mkF m 48 #[iv z, rv b1, iv (6 : Int32), iv (2 : Int32), rv w_LATIN_UPPER, iv (0 : Int32)] [(.ref w_LATIN_UPPER), (.int z)])) (fun t k => XS.aload X50.here hx rfl (hb hby d1_46) rfl rfl k) ?_
            obtain ⟨T52, X52, e52, st52⟩ := getF X50 hx hZ hown (host := "") (Or.inl (hw _ (List.mem_of_getElem? (i := 25) rfl))) Via.refl e50 (F_ranges_LATIN_UPPER.ext EX1_h0) (g := (mkF m 48 #[iv z, rv b1, iv (6 : Int32), iv (2 : Int32), rv w_LATIN_UPPER, iv (0 : Int32)] [(.ref w_LATIN_UPPER), (.int z)])) rfl rfl (hb hby d1_48)
            refine own_pre (T' := T52) (f' := (mkF m 51 #[iv z, rv b1, iv (6 : Int32), iv (2 : Int32), rv w_LATIN_UPPER, iv (0 : Int32)] [(.ref r_ranges_LATIN_UPPER), (.int z)])) (fun t k => st52 t k) ?_
            refine own_pre (T' := T52) (f' := (mkF m 53 #[iv z, rv b1, iv (6 : Int32), iv (2 : Int32), rv w_LATIN_UPPER, iv (0 : Int32)] [(.int (0 : Int32)), (.ref r_ranges_LATIN_UPPER), (.int z)])) (fun t k => XS.iload X52.here hx rfl (hb hby d1_51) rfl k) ?_
            refine own_pre (T' := T52) (f' := (mkF m 54 #[iv z, rv b1, iv (6 : Int32), iv (2 : Int32), rv w_LATIN_UPPER, iv (0 : Int32)] [(.int (1 : Int32)), (.int (0 : Int32)), (.ref r_ranges_LATIN_UPPER), (.int z)])) (fun t k => XS.iconst X52.here hx rfl (hb hby d1_53) k) ?_
            refine own_pre (T' := T52) (f' := (mkF m 55 #[iv z, rv b1, iv (6 : Int32), iv (2 : Int32), rv w_LATIN_UPPER, iv (0 : Int32)] [(.int ((0 : Int32) + (1 : Int32))), (.ref r_ranges_LATIN_UPPER), (.int z)])) (fun t k => XS.iadd X52.here hx rfl (hb hby d1_54) rfl k) ?_
            rw [show ((0 : Int32) + (1 : Int32)) = (1 : Int32) from by decide]
            refine own_pre (T' := T52) (f' := (mkF m 56 #[iv z, rv b1, iv (6 : Int32), iv (2 : Int32), rv w_LATIN_UPPER, iv (0 : Int32)] [(.int (90 : Int32)), (.int z)])) (fun t k => own_ldI X52 hx hZ e52 (V_ranges_LATIN_UPPER.ext EX1_h0) (by decide) rfl (g := (mkF m 55 #[iv z, rv b1, iv (6 : Int32), iv (2 : Int32), rv w_LATIN_UPPER, iv (0 : Int32)] [(.int (1 : Int32)), (.ref r_ranges_LATIN_UPPER), (.int z)])) rfl rfl (hb hby d1_55) t k) ?_
            by_cases hc53 : (90 : Int32) < z
            · refine own_pre (T' := T52) (f' := (mkF m 65 #[iv z, rv b1, iv (6 : Int32), iv (2 : Int32), rv w_LATIN_UPPER, iv (0 : Int32)] [])) (fun t k => XS.icmpYes X52.here hx rfl (pc0 := 56) (pc' := 65) rfl (hb hby d1_56) rfl (tlt hc53).2.2.1 (by decide) (by decide) k) ?_
              exact sk2_0 T52 X52 e52 (own_oH hc53)
            · refine own_pre (T' := T52) (f' := (mkF m 59 #[iv z, rv b1, iv (6 : Int32), iv (2 : Int32), rv w_LATIN_UPPER, iv (0 : Int32)] [])) (fun t k => XS.icmpNo X52.here hx rfl (hb hby d1_56) rfl (flt hc53).2.2.1 k) ?_
              have ofsk2_0 := own_oF hc51 hc53
              refine own_pre (T' := T52) (f' := (mkF m 61 #[iv z, rv b1, iv (6 : Int32), iv (2 : Int32), rv w_LATIN_UPPER, iv (0 : Int32)] [(.ref w_LATIN_UPPER)])) (fun t k => XS.aload X52.here hx rfl (hb hby d1_59) rfl rfl k) ?_
              obtain ⟨T54, h54, X54, e54, E54, A54, st54⟩ := own_grow (R' := own_RC 2 1 1 26) (v := some (.ref h1.size)) (own_callS X52 hx hZ e52 (y := (⟨"java/util/Optional", "of", "(Ljava/lang/Object;)Ljava/util/Optional;"⟩ : MethodName)) hown (hw _ (List.mem_of_getElem? (i := 53) rfl)) (hw _ (List.mem_of_getElem? (i := 54) rfl)) (hw _ (List.mem_of_getElem? (i := 55) rfl)) (hw _ (List.mem_of_getElem? (i := 29) rfl)) (by decide) 0 [(.ref w_LATIN_UPPER)] [] (own_oof l Z a0 hw [] w__VALUES w_CYRILLIC_UPPER w_CYRILLIC_LOWER w_LATIN_UPPER w_LATIN_LOWER w_DIGITS w_SPECIAL w_EMPTY r_ranges_CYRILLIC_UPPER r_ranges_CYRILLIC_LOWER r_ranges_LATIN_UPPER r_ranges_LATIN_LOWER r_ranges_DIGITS r_ranges_SPECIAL k__VALUES k_ranges_CYRILLIC_UPPER k_ranges_CYRILLIC_LOWER k_ranges_LATIN_UPPER k_ranges_LATIN_LOWER k_ranges_DIGITS k_ranges_SPECIAL h1 (own_F_ext F0 EX1_h0) w_LATIN_UPPER) (by decide) (by decide) (by decide) (by decide) (g := (mkF m 61 #[iv z, rv b1, iv (6 : Int32), iv (2 : Int32), rv w_LATIN_UPPER, iv (0 : Int32)] [(.ref w_LATIN_UPPER)])) rfl (by rw [hml]; rfl) (lenOf pd_4 rfl) rfl (by show 2 * 0 + _ ≤ _; exact Nat.le_of_eq rfl) (hb hby d1_61))
              have EX54_h0 : Ext h0 h54 := own_extE EX1_h0 E54
              have EX54_h1 : Ext h1 h54 := E54
              refine own_pre (T' := T54) (f' := (mkF m 64 #[iv z, rv b1, iv (6 : Int32), iv (2 : Int32), rv w_LATIN_UPPER, iv (0 : Int32)] [(.ref h1.size)])) (fun t k => st54 t k) ?_
              exact own_retR X54 hx hlk hret (hb hby d1_64) rfl rfl rfl (by rw [e54]; exact ⟨_, rfl, EX54_h0, rfl, A54.1, (by rw [← hcl]; simp [own_cls, osk0_0, osk0_2, osk1_0, osk1_2, ofsk2_0] : Value.ref w_LATIN_UPPER = x) ▸ A54.2⟩) (by decide) (by decide)
        refine own_pre (T' := T6) (f' := (mkF m 34 #[iv z, rv b1, iv (6 : Int32), iv (1 : Int32), rv w_CYRILLIC_LOWER, iv (2 : Int32)] [(.int z)])) (fun t k => XS.iloadN X6.here hx rfl (hb hby d1_33) rfl k) ?_
        refine own_pre (T' := T6) (f' := (mkF m 36 #[iv z, rv b1, iv (6 : Int32), iv (1 : Int32), rv w_CYRILLIC_LOWER, iv (2 : Int32)] [(.ref w_CYRILLIC_LOWER), (.int z)])) (fun t k => XS.aload X6.here hx rfl (hb hby d1_34) rfl rfl k) ?_
        obtain ⟨T55, X55, e55, st55⟩ := getF X6 hx hZ hown (host := "") (Or.inl (hw _ (List.mem_of_getElem? (i := 25) rfl))) Via.refl e6 (F_ranges_CYRILLIC_LOWER.ext EX1_h0) (g := (mkF m 36 #[iv z, rv b1, iv (6 : Int32), iv (1 : Int32), rv w_CYRILLIC_LOWER, iv (2 : Int32)] [(.ref w_CYRILLIC_LOWER), (.int z)])) rfl rfl (hb hby d1_36)
        refine own_pre (T' := T55) (f' := (mkF m 39 #[iv z, rv b1, iv (6 : Int32), iv (1 : Int32), rv w_CYRILLIC_LOWER, iv (2 : Int32)] [(.ref r_ranges_CYRILLIC_LOWER), (.int z)])) (fun t k => st55 t k) ?_
        refine own_pre (T' := T55) (f' := (mkF m 41 #[iv z, rv b1, iv (6 : Int32), iv (1 : Int32), rv w_CYRILLIC_LOWER, iv (2 : Int32)] [(.int (2 : Int32)), (.ref r_ranges_CYRILLIC_LOWER), (.int z)])) (fun t k => XS.iload X55.here hx rfl (hb hby d1_39) rfl k) ?_
        refine own_pre (T' := T55) (f' := (mkF m 42 #[iv z, rv b1, iv (6 : Int32), iv (1 : Int32), rv w_CYRILLIC_LOWER, iv (2 : Int32)] [(.int (1105 : Int32)), (.int z)])) (fun t k => own_ldI X55 hx hZ e55 (V_ranges_CYRILLIC_LOWER.ext EX1_h0) (by decide) rfl (g := (mkF m 41 #[iv z, rv b1, iv (6 : Int32), iv (1 : Int32), rv w_CYRILLIC_LOWER, iv (2 : Int32)] [(.int (2 : Int32)), (.ref r_ranges_CYRILLIC_LOWER), (.int z)])) rfl rfl (hb hby d1_41) t k) ?_
        by_cases hc56 : z < (1105 : Int32)
        · refine own_pre (T' := T55) (f' := (mkF m 65 #[iv z, rv b1, iv (6 : Int32), iv (1 : Int32), rv w_CYRILLIC_LOWER, iv (2 : Int32)] [])) (fun t k => XS.icmpYes X55.here hx rfl (pc0 := 42) (pc' := 65) rfl (hb hby d1_42) rfl (tlt hc56).1 (by decide) (by decide) k) ?_
          exact sk1_2 T55 X55 e55 (own_oL hc56)
        · refine own_pre (T' := T55) (f' := (mkF m 45 #[iv z, rv b1, iv (6 : Int32), iv (1 : Int32), rv w_CYRILLIC_LOWER, iv (2 : Int32)] [])) (fun t k => XS.icmpNo X55.here hx rfl (hb hby d1_42) rfl (flt hc56).1 k) ?_
          refine own_pre (T' := T55) (f' := (mkF m 46 #[iv z, rv b1, iv (6 : Int32), iv (1 : Int32), rv w_CYRILLIC_LOWER, iv (2 : Int32)] [(.int z)])) (fun t k => XS.iloadN X55.here hx rfl (hb hby d1_45) rfl k) ?_
          refine own_pre (T' := T55) (f' := (mkF m 48 #[iv z, rv b1, iv (6 : Int32), iv (1 : Int32), rv w_CYRILLIC_LOWER, iv (2 : Int32)] [(.ref w_CYRILLIC_LOWER), (.int z)])) (fun t k => XS.aload X55.here hx rfl (hb hby d1_46) rfl rfl k) ?_
          obtain ⟨T57, X57, e57, st57⟩ := getF X55 hx hZ hown (host := "") (Or.inl (hw _ (List.mem_of_getElem? (i := 25) rfl))) Via.refl e55 (F_ranges_CYRILLIC_LOWER.ext EX1_h0) (g := (mkF m 48 #[iv z, rv b1, iv (6 : Int32), iv (1 : Int32), rv w_CYRILLIC_LOWER, iv (2 : Int32)] [(.ref w_CYRILLIC_LOWER), (.int z)])) rfl rfl (hb hby d1_48)
          refine own_pre (T' := T57) (f' := (mkF m 51 #[iv z, rv b1, iv (6 : Int32), iv (1 : Int32), rv w_CYRILLIC_LOWER, iv (2 : Int32)] [(.ref r_ranges_CYRILLIC_LOWER), (.int z)])) (fun t k => st57 t k) ?_
          refine own_pre (T' := T57) (f' := (mkF m 53 #[iv z, rv b1, iv (6 : Int32), iv (1 : Int32), rv w_CYRILLIC_LOWER, iv (2 : Int32)] [(.int (2 : Int32)), (.ref r_ranges_CYRILLIC_LOWER), (.int z)])) (fun t k => XS.iload X57.here hx rfl (hb hby d1_51) rfl k) ?_
          refine own_pre (T' := T57) (f' := (mkF m 54 #[iv z, rv b1, iv (6 : Int32), iv (1 : Int32), rv w_CYRILLIC_LOWER, iv (2 : Int32)] [(.int (1 : Int32)), (.int (2 : Int32)), (.ref r_ranges_CYRILLIC_LOWER), (.int z)])) (fun t k => XS.iconst X57.here hx rfl (hb hby d1_53) k) ?_
          refine own_pre (T' := T57) (f' := (mkF m 55 #[iv z, rv b1, iv (6 : Int32), iv (1 : Int32), rv w_CYRILLIC_LOWER, iv (2 : Int32)] [(.int ((2 : Int32) + (1 : Int32))), (.ref r_ranges_CYRILLIC_LOWER), (.int z)])) (fun t k => XS.iadd X57.here hx rfl (hb hby d1_54) rfl k) ?_
          rw [show ((2 : Int32) + (1 : Int32)) = (3 : Int32) from by decide]
          refine own_pre (T' := T57) (f' := (mkF m 56 #[iv z, rv b1, iv (6 : Int32), iv (1 : Int32), rv w_CYRILLIC_LOWER, iv (2 : Int32)] [(.int (1105 : Int32)), (.int z)])) (fun t k => own_ldI X57 hx hZ e57 (V_ranges_CYRILLIC_LOWER.ext EX1_h0) (by decide) rfl (g := (mkF m 55 #[iv z, rv b1, iv (6 : Int32), iv (1 : Int32), rv w_CYRILLIC_LOWER, iv (2 : Int32)] [(.int (3 : Int32)), (.ref r_ranges_CYRILLIC_LOWER), (.int z)])) rfl rfl (hb hby d1_55) t k) ?_
          by_cases hc58 : (1105 : Int32) < z
          · refine own_pre (T' := T57) (f' := (mkF m 65 #[iv z, rv b1, iv (6 : Int32), iv (1 : Int32), rv w_CYRILLIC_LOWER, iv (2 : Int32)] [])) (fun t k => XS.icmpYes X57.here hx rfl (pc0 := 56) (pc' := 65) rfl (hb hby d1_56) rfl (tlt hc58).2.2.1 (by decide) (by decide) k) ?_
            exact sk1_2 T57 X57 e57 (own_oH hc58)
          · refine own_pre (T' := T57) (f' := (mkF m 59 #[iv z, rv b1, iv (6 : Int32), iv (1 : Int32), rv w_CYRILLIC_LOWER, iv (2 : Int32)] [])) (fun t k => XS.icmpNo X57.here hx rfl (hb hby d1_56) rfl (flt hc58).2.2.1 k) ?_
            have ofsk1_2 := own_oF hc56 hc58
            refine own_pre (T' := T57) (f' := (mkF m 61 #[iv z, rv b1, iv (6 : Int32), iv (1 : Int32), rv w_CYRILLIC_LOWER, iv (2 : Int32)] [(.ref w_CYRILLIC_LOWER)])) (fun t k => XS.aload X57.here hx rfl (hb hby d1_59) rfl rfl k) ?_
            obtain ⟨T59, h59, X59, e59, E59, A59, st59⟩ := own_grow (R' := own_RC 2 1 1 26) (v := some (.ref h1.size)) (own_callS X57 hx hZ e57 (y := (⟨"java/util/Optional", "of", "(Ljava/lang/Object;)Ljava/util/Optional;"⟩ : MethodName)) hown (hw _ (List.mem_of_getElem? (i := 53) rfl)) (hw _ (List.mem_of_getElem? (i := 54) rfl)) (hw _ (List.mem_of_getElem? (i := 55) rfl)) (hw _ (List.mem_of_getElem? (i := 29) rfl)) (by decide) 0 [(.ref w_CYRILLIC_LOWER)] [] (own_oof l Z a0 hw [] w__VALUES w_CYRILLIC_UPPER w_CYRILLIC_LOWER w_LATIN_UPPER w_LATIN_LOWER w_DIGITS w_SPECIAL w_EMPTY r_ranges_CYRILLIC_UPPER r_ranges_CYRILLIC_LOWER r_ranges_LATIN_UPPER r_ranges_LATIN_LOWER r_ranges_DIGITS r_ranges_SPECIAL k__VALUES k_ranges_CYRILLIC_UPPER k_ranges_CYRILLIC_LOWER k_ranges_LATIN_UPPER k_ranges_LATIN_LOWER k_ranges_DIGITS k_ranges_SPECIAL h1 (own_F_ext F0 EX1_h0) w_CYRILLIC_LOWER) (by decide) (by decide) (by decide) (by decide) (g := (mkF m 61 #[iv z, rv b1, iv (6 : Int32), iv (1 : Int32), rv w_CYRILLIC_LOWER, iv (2 : Int32)] [(.ref w_CYRILLIC_LOWER)])) rfl (by rw [hml]; rfl) (lenOf pd_4 rfl) rfl (by show 2 * 0 + _ ≤ _; exact Nat.le_of_eq rfl) (hb hby d1_61))
            have EX59_h0 : Ext h0 h59 := own_extE EX1_h0 E59
            have EX59_h1 : Ext h1 h59 := E59
            refine own_pre (T' := T59) (f' := (mkF m 64 #[iv z, rv b1, iv (6 : Int32), iv (1 : Int32), rv w_CYRILLIC_LOWER, iv (2 : Int32)] [(.ref h1.size)])) (fun t k => st59 t k) ?_
            exact own_retR X59 hx hlk hret (hb hby d1_64) rfl rfl rfl (by rw [e59]; exact ⟨_, rfl, EX59_h0, rfl, A59.1, (by rw [← hcl]; simp [own_cls, osk0_0, osk0_2, osk1_0, ofsk1_2] : Value.ref w_CYRILLIC_LOWER = x) ▸ A59.2⟩) (by decide) (by decide)
      refine own_pre (T' := T5) (f' := (mkF m 34 #[iv z, rv b1, iv (6 : Int32), iv (1 : Int32), rv w_CYRILLIC_LOWER, iv (0 : Int32)] [(.int z)])) (fun t k => XS.iloadN X5.here hx rfl (hb hby d1_33) rfl k) ?_
      refine own_pre (T' := T5) (f' := (mkF m 36 #[iv z, rv b1, iv (6 : Int32), iv (1 : Int32), rv w_CYRILLIC_LOWER, iv (0 : Int32)] [(.ref w_CYRILLIC_LOWER), (.int z)])) (fun t k => XS.aload X5.here hx rfl (hb hby d1_34) rfl rfl k) ?_
      obtain ⟨T60, X60, e60, st60⟩ := getF X5 hx hZ hown (host := "") (Or.inl (hw _ (List.mem_of_getElem? (i := 25) rfl))) Via.refl e5 (F_ranges_CYRILLIC_LOWER.ext EX1_h0) (g := (mkF m 36 #[iv z, rv b1, iv (6 : Int32), iv (1 : Int32), rv w_CYRILLIC_LOWER, iv (0 : Int32)] [(.ref w_CYRILLIC_LOWER), (.int z)])) rfl rfl (hb hby d1_36)
      refine own_pre (T' := T60) (f' := (mkF m 39 #[iv z, rv b1, iv (6 : Int32), iv (1 : Int32), rv w_CYRILLIC_LOWER, iv (0 : Int32)] [(.ref r_ranges_CYRILLIC_LOWER), (.int z)])) (fun t k => st60 t k) ?_
      refine own_pre (T' := T60) (f' := (mkF m 41 #[iv z, rv b1, iv (6 : Int32), iv (1 : Int32), rv w_CYRILLIC_LOWER, iv (0 : Int32)] [(.int (0 : Int32)), (.ref r_ranges_CYRILLIC_LOWER), (.int z)])) (fun t k => XS.iload X60.here hx rfl (hb hby d1_39) rfl k) ?_
      refine own_pre (T' := T60) (f' := (mkF m 42 #[iv z, rv b1, iv (6 : Int32), iv (1 : Int32), rv w_CYRILLIC_LOWER, iv (0 : Int32)] [(.int (1072 : Int32)), (.int z)])) (fun t k => own_ldI X60 hx hZ e60 (V_ranges_CYRILLIC_LOWER.ext EX1_h0) (by decide) rfl (g := (mkF m 41 #[iv z, rv b1, iv (6 : Int32), iv (1 : Int32), rv w_CYRILLIC_LOWER, iv (0 : Int32)] [(.int (0 : Int32)), (.ref r_ranges_CYRILLIC_LOWER), (.int z)])) rfl rfl (hb hby d1_41) t k) ?_
      by_cases hc61 : z < (1072 : Int32)
      · refine own_pre (T' := T60) (f' := (mkF m 65 #[iv z, rv b1, iv (6 : Int32), iv (1 : Int32), rv w_CYRILLIC_LOWER, iv (0 : Int32)] [])) (fun t k => XS.icmpYes X60.here hx rfl (pc0 := 42) (pc' := 65) rfl (hb hby d1_42) rfl (tlt hc61).1 (by decide) (by decide) k) ?_
        exact sk1_0 T60 X60 e60 (own_oL hc61)
      · refine own_pre (T' := T60) (f' := (mkF m 45 #[iv z, rv b1, iv (6 : Int32), iv (1 : Int32), rv w_CYRILLIC_LOWER, iv (0 : Int32)] [])) (fun t k => XS.icmpNo X60.here hx rfl (hb hby d1_42) rfl (flt hc61).1 k) ?_
        refine own_pre (T' := T60) (f' := (mkF m 46 #[iv z, rv b1, iv (6 : Int32), iv (1 : Int32), rv w_CYRILLIC_LOWER, iv (0 : Int32)] [(.int z)])) (fun t k => XS.iloadN X60.here hx rfl (hb hby d1_45) rfl k) ?_
        refine own_pre (T' := T60) (f' := (mkF m 48 #[iv z, rv b1, iv (6 : Int32), iv (1 : Int32), rv w_CYRILLIC_LOWER, iv (0 : Int32)] [(.ref w_CYRILLIC_LOWER), (.int z)])) (fun t k => XS.aload X60.here hx rfl (hb hby d1_46) rfl rfl k) ?_
        obtain ⟨T62, X62, e62, st62⟩ := getF X60 hx hZ hown (host := "") (Or.inl (hw _ (List.mem_of_getElem? (i := 25) rfl))) Via.refl e60 (F_ranges_CYRILLIC_LOWER.ext EX1_h0) (g := (mkF m 48 #[iv z, rv b1, iv (6 : Int32), iv (1 : Int32), rv w_CYRILLIC_LOWER, iv (0 : Int32)] [(.ref w_CYRILLIC_LOWER), (.int z)])) rfl rfl (hb hby d1_48)
        refine own_pre (T' := T62) (f' := (mkF m 51 #[iv z, rv b1, iv (6 : Int32), iv (1 : Int32), rv w_CYRILLIC_LOWER, iv (0 : Int32)] [(.ref r_ranges_CYRILLIC_LOWER), (.int z)])) (fun t k => st62 t k) ?_
        refine own_pre (T' := T62) (f' := (mkF m 53 #[iv z, rv b1, iv (6 : Int32), iv (1 : Int32), rv w_CYRILLIC_LOWER, iv (0 : Int32)] [(.int (0 : Int32)), (.ref r_ranges_CYRILLIC_LOWER), (.int z)])) (fun t k => XS.iload X62.here hx rfl (hb hby d1_51) rfl k) ?_
        refine own_pre (T' := T62) (f' := (mkF m 54 #[iv z, rv b1, iv (6 : Int32), iv (1 : Int32), rv w_CYRILLIC_LOWER, iv (0 : Int32)] [(.int (1 : Int32)), (.int (0 : Int32)), (.ref r_ranges_CYRILLIC_LOWER), (.int z)])) (fun t k => XS.iconst X62.here hx rfl (hb hby d1_53) k) ?_
        refine own_pre (T' := T62) (f' := (mkF m 55 #[iv z, rv b1, iv (6 : Int32), iv (1 : Int32), rv w_CYRILLIC_LOWER, iv (0 : Int32)] [(.int ((0 : Int32) + (1 : Int32))), (.ref r_ranges_CYRILLIC_LOWER), (.int z)])) (fun t k => XS.iadd X62.here hx rfl (hb hby d1_54) rfl k) ?_
        rw [show ((0 : Int32) + (1 : Int32)) = (1 : Int32) from by decide]
        refine own_pre (T' := T62) (f' := (mkF m 56 #[iv z, rv b1, iv (6 : Int32), iv (1 : Int32), rv w_CYRILLIC_LOWER, iv (0 : Int32)] [(.int (1103 : Int32)), (.int z)])) (fun t k => own_ldI X62 hx hZ e62 (V_ranges_CYRILLIC_LOWER.ext EX1_h0) (by decide) rfl (g := (mkF m 55 #[iv z, rv b1, iv (6 : Int32), iv (1 : Int32), rv w_CYRILLIC_LOWER, iv (0 : Int32)] [(.int (1 : Int32)), (.ref r_ranges_CYRILLIC_LOWER), (.int z)])) rfl rfl (hb hby d1_55) t k) ?_
        by_cases hc63 : (1103 : Int32) < z
        · refine own_pre (T' := T62) (f' := (mkF m 65 #[iv z, rv b1, iv (6 : Int32), iv (1 : Int32), rv w_CYRILLIC_LOWER, iv (0 : Int32)] [])) (fun t k => XS.icmpYes X62.here hx rfl (pc0 := 56) (pc' := 65) rfl (hb hby d1_56) rfl (tlt hc63).2.2.1 (by decide) (by decide) k) ?_
          exact sk1_0 T62 X62 e62 (own_oH hc63)
        · refine own_pre (T' := T62) (f' := (mkF m 59 #[iv z, rv b1, iv (6 : Int32), iv (1 : Int32), rv w_CYRILLIC_LOWER, iv (0 : Int32)] [])) (fun t k => XS.icmpNo X62.here hx rfl (hb hby d1_56) rfl (flt hc63).2.2.1 k) ?_
          have ofsk1_0 := own_oF hc61 hc63
          refine own_pre (T' := T62) (f' := (mkF m 61 #[iv z, rv b1, iv (6 : Int32), iv (1 : Int32), rv w_CYRILLIC_LOWER, iv (0 : Int32)] [(.ref w_CYRILLIC_LOWER)])) (fun t k => XS.aload X62.here hx rfl (hb hby d1_59) rfl rfl k) ?_
          obtain ⟨T64, h64, X64, e64, E64, A64, st64⟩ := own_grow (R' := own_RC 2 1 1 26) (v := some (.ref h1.size)) (own_callS X62 hx hZ e62 (y := (⟨"java/util/Optional", "of", "(Ljava/lang/Object;)Ljava/util/Optional;"⟩ : MethodName)) hown (hw _ (List.mem_of_getElem? (i := 53) rfl)) (hw _ (List.mem_of_getElem? (i := 54) rfl)) (hw _ (List.mem_of_getElem? (i := 55) rfl)) (hw _ (List.mem_of_getElem? (i := 29) rfl)) (by decide) 0 [(.ref w_CYRILLIC_LOWER)] [] (own_oof l Z a0 hw [] w__VALUES w_CYRILLIC_UPPER w_CYRILLIC_LOWER w_LATIN_UPPER w_LATIN_LOWER w_DIGITS w_SPECIAL w_EMPTY r_ranges_CYRILLIC_UPPER r_ranges_CYRILLIC_LOWER r_ranges_LATIN_UPPER r_ranges_LATIN_LOWER r_ranges_DIGITS r_ranges_SPECIAL k__VALUES k_ranges_CYRILLIC_UPPER k_ranges_CYRILLIC_LOWER k_ranges_LATIN_UPPER k_ranges_LATIN_LOWER k_ranges_DIGITS k_ranges_SPECIAL h1 (own_F_ext F0 EX1_h0) w_CYRILLIC_LOWER) (by decide) (by decide) (by decide) (by decide) (g := (mkF m 61 #[iv z, rv b1, iv (6 : Int32), iv (1 : Int32), rv w_CYRILLIC_LOWER, iv (0 : Int32)] [(.ref w_CYRILLIC_LOWER)])) rfl (by rw [hml]; rfl) (lenOf pd_4 rfl) rfl (by show 2 * 0 + _ ≤ _; exact Nat.le_of_eq rfl) (hb hby d1_61))
          have EX64_h0 : Ext h0 h64 := own_extE EX1_h0 E64
          have EX64_h1 : Ext h1 h64 := E64
          refine own_pre (T' := T64) (f' := (mkF m 64 #[iv z, rv b1, iv (6 : Int32), iv (1 : Int32), rv w_CYRILLIC_LOWER, iv (0 : Int32)] [(.ref h1.size)])) (fun t k => st64 t k) ?_
          exact own_retR X64 hx hlk hret (hb hby d1_64) rfl rfl rfl (by rw [e64]; exact ⟨_, rfl, EX64_h0, rfl, A64.1, (by rw [← hcl]; simp [own_cls, osk0_0, osk0_2, ofsk1_0] : Value.ref w_CYRILLIC_LOWER = x) ▸ A64.2⟩) (by decide) (by decide)
    refine own_pre (T' := T3) (f' := (mkF m 34 #[iv z, rv b1, iv (6 : Int32), iv (0 : Int32), rv w_CYRILLIC_UPPER, iv (2 : Int32)] [(.int z)])) (fun t k => XS.iloadN X3.here hx rfl (hb hby d1_33) rfl k) ?_
    refine own_pre (T' := T3) (f' := (mkF m 36 #[iv z, rv b1, iv (6 : Int32), iv (0 : Int32), rv w_CYRILLIC_UPPER, iv (2 : Int32)] [(.ref w_CYRILLIC_UPPER), (.int z)])) (fun t k => XS.aload X3.here hx rfl (hb hby d1_34) rfl rfl k) ?_
    obtain ⟨T65, X65, e65, st65⟩ := getF X3 hx hZ hown (host := "") (Or.inl (hw _ (List.mem_of_getElem? (i := 25) rfl))) Via.refl e3 (F_ranges_CYRILLIC_UPPER.ext EX1_h0) (g := (mkF m 36 #[iv z, rv b1, iv (6 : Int32), iv (0 : Int32), rv w_CYRILLIC_UPPER, iv (2 : Int32)] [(.ref w_CYRILLIC_UPPER), (.int z)])) rfl rfl (hb hby d1_36)
    refine own_pre (T' := T65) (f' := (mkF m 39 #[iv z, rv b1, iv (6 : Int32), iv (0 : Int32), rv w_CYRILLIC_UPPER, iv (2 : Int32)] [(.ref r_ranges_CYRILLIC_UPPER), (.int z)])) (fun t k => st65 t k) ?_
    refine own_pre (T' := T65) (f' := (mkF m 41 #[iv z, rv b1, iv (6 : Int32), iv (0 : Int32), rv w_CYRILLIC_UPPER, iv (2 : Int32)] [(.int (2 : Int32)), (.ref r_ranges_CYRILLIC_UPPER), (.int z)])) (fun t k => XS.iload X65.here hx rfl (hb hby d1_39) rfl k) ?_
    refine own_pre (T' := T65) (f' := (mkF m 42 #[iv z, rv b1, iv (6 : Int32), iv (0 : Int32), rv w_CYRILLIC_UPPER, iv (2 : Int32)] [(.int (1025 : Int32)), (.int z)])) (fun t k => own_ldI X65 hx hZ e65 (V_ranges_CYRILLIC_UPPER.ext EX1_h0) (by decide) rfl (g := (mkF m 41 #[iv z, rv b1, iv (6 : Int32), iv (0 : Int32), rv w_CYRILLIC_UPPER, iv (2 : Int32)] [(.int (2 : Int32)), (.ref r_ranges_CYRILLIC_UPPER), (.int z)])) rfl rfl (hb hby d1_41) t k) ?_
    by_cases hc66 : z < (1025 : Int32)
    · refine own_pre (T' := T65) (f' := (mkF m 65 #[iv z, rv b1, iv (6 : Int32), iv (0 : Int32), rv w_CYRILLIC_UPPER, iv (2 : Int32)] [])) (fun t k => XS.icmpYes X65.here hx rfl (pc0 := 42) (pc' := 65) rfl (hb hby d1_42) rfl (tlt hc66).1 (by decide) (by decide) k) ?_
      exact sk0_2 T65 X65 e65 (own_oL hc66)
    · refine own_pre (T' := T65) (f' := (mkF m 45 #[iv z, rv b1, iv (6 : Int32), iv (0 : Int32), rv w_CYRILLIC_UPPER, iv (2 : Int32)] [])) (fun t k => XS.icmpNo X65.here hx rfl (hb hby d1_42) rfl (flt hc66).1 k) ?_
      refine own_pre (T' := T65) (f' := (mkF m 46 #[iv z, rv b1, iv (6 : Int32), iv (0 : Int32), rv w_CYRILLIC_UPPER, iv (2 : Int32)] [(.int z)])) (fun t k => XS.iloadN X65.here hx rfl (hb hby d1_45) rfl k) ?_
      refine own_pre (T' := T65) (f' := (mkF m 48 #[iv z, rv b1, iv (6 : Int32), iv (0 : Int32), rv w_CYRILLIC_UPPER, iv (2 : Int32)] [(.ref w_CYRILLIC_UPPER), (.int z)])) (fun t k => XS.aload X65.here hx rfl (hb hby d1_46) rfl rfl k) ?_
      obtain ⟨T67, X67, e67, st67⟩ := getF X65 hx hZ hown (host := "") (Or.inl (hw _ (List.mem_of_getElem? (i := 25) rfl))) Via.refl e65 (F_ranges_CYRILLIC_UPPER.ext EX1_h0) (g := (mkF m 48 #[iv z, rv b1, iv (6 : Int32), iv (0 : Int32), rv w_CYRILLIC_UPPER, iv (2 : Int32)] [(.ref w_CYRILLIC_UPPER), (.int z)])) rfl rfl (hb hby d1_48)
      refine own_pre (T' := T67) (f' := (mkF m 51 #[iv z, rv b1, iv (6 : Int32), iv (0 : Int32), rv w_CYRILLIC_UPPER, iv (2 : Int32)] [(.ref r_ranges_CYRILLIC_UPPER), (.int z)])) (fun t k => st67 t k) ?_
      refine own_pre (T' := T67) (f' := (mkF m 53 #[iv z, rv b1, iv (6 : Int32), iv (0 : Int32), rv w_CYRILLIC_UPPER, iv (2 : Int32)] [(.int (2 : Int32)), (.ref r_ranges_CYRILLIC_UPPER), (.int z)])) (fun t k => XS.iload X67.here hx rfl (hb hby d1_51) rfl k) ?_
      refine own_pre (T' := T67) (f' := (mkF m 54 #[iv z, rv b1, iv (6 : Int32), iv (0 : Int32), rv w_CYRILLIC_UPPER, iv (2 : Int32)] [(.int (1 : Int32)), (.int (2 : Int32)), (.ref r_ranges_CYRILLIC_UPPER), (.int z)])) (fun t k => XS.iconst X67.here hx rfl (hb hby d1_53) k) ?_
      refine own_pre (T' := T67) (f' := (mkF m 55 #[iv z, rv b1, iv (6 : Int32), iv (0 : Int32), rv w_CYRILLIC_UPPER, iv (2 : Int32)] [(.int ((2 : Int32) + (1 : Int32))), (.ref r_ranges_CYRILLIC_UPPER), (.int z)])) (fun t k => XS.iadd X67.here hx rfl (hb hby d1_54) rfl k) ?_
      rw [show ((2 : Int32) + (1 : Int32)) = (3 : Int32) from by decide]
      refine own_pre (T' := T67) (f' := (mkF m 56 #[iv z, rv b1, iv (6 : Int32), iv (0 : Int32), rv w_CYRILLIC_UPPER, iv (2 : Int32)] [(.int (1025 : Int32)), (.int z)])) (fun t k => own_ldI X67 hx hZ e67 (V_ranges_CYRILLIC_UPPER.ext EX1_h0) (by decide) rfl (g := (mkF m 55 #[iv z, rv b1, iv (6 : Int32), iv (0 : Int32), rv w_CYRILLIC_UPPER, iv (2 : Int32)] [(.int (3 : Int32)), (.ref r_ranges_CYRILLIC_UPPER), (.int z)])) rfl rfl (hb hby d1_55) t k) ?_
      by_cases hc68 : (1025 : Int32) < z
      · refine own_pre (T' := T67) (f' := (mkF m 65 #[iv z, rv b1, iv (6 : Int32), iv (0 : Int32), rv w_CYRILLIC_UPPER, iv (2 : Int32)] [])) (fun t k => XS.icmpYes X67.here hx rfl (pc0 := 56) (pc' := 65) rfl (hb hby d1_56) rfl (tlt hc68).2.2.1 (by decide) (by decide) k) ?_
        exact sk0_2 T67 X67 e67 (own_oH hc68)
      · refine own_pre (T' := T67) (f' := (mkF m 59 #[iv z, rv b1, iv (6 : Int32), iv (0 : Int32), rv w_CYRILLIC_UPPER, iv (2 : Int32)] [])) (fun t k => XS.icmpNo X67.here hx rfl (hb hby d1_56) rfl (flt hc68).2.2.1 k) ?_
        have ofsk0_2 := own_oF hc66 hc68
        refine own_pre (T' := T67) (f' := (mkF m 61 #[iv z, rv b1, iv (6 : Int32), iv (0 : Int32), rv w_CYRILLIC_UPPER, iv (2 : Int32)] [(.ref w_CYRILLIC_UPPER)])) (fun t k => XS.aload X67.here hx rfl (hb hby d1_59) rfl rfl k) ?_
        obtain ⟨T69, h69, X69, e69, E69, A69, st69⟩ := own_grow (R' := own_RC 2 1 1 26) (v := some (.ref h1.size)) (own_callS X67 hx hZ e67 (y := (⟨"java/util/Optional", "of", "(Ljava/lang/Object;)Ljava/util/Optional;"⟩ : MethodName)) hown (hw _ (List.mem_of_getElem? (i := 53) rfl)) (hw _ (List.mem_of_getElem? (i := 54) rfl)) (hw _ (List.mem_of_getElem? (i := 55) rfl)) (hw _ (List.mem_of_getElem? (i := 29) rfl)) (by decide) 0 [(.ref w_CYRILLIC_UPPER)] [] (own_oof l Z a0 hw [] w__VALUES w_CYRILLIC_UPPER w_CYRILLIC_LOWER w_LATIN_UPPER w_LATIN_LOWER w_DIGITS w_SPECIAL w_EMPTY r_ranges_CYRILLIC_UPPER r_ranges_CYRILLIC_LOWER r_ranges_LATIN_UPPER r_ranges_LATIN_LOWER r_ranges_DIGITS r_ranges_SPECIAL k__VALUES k_ranges_CYRILLIC_UPPER k_ranges_CYRILLIC_LOWER k_ranges_LATIN_UPPER k_ranges_LATIN_LOWER k_ranges_DIGITS k_ranges_SPECIAL h1 (own_F_ext F0 EX1_h0) w_CYRILLIC_UPPER) (by decide) (by decide) (by decide) (by decide) (g := (mkF m 61 #[iv z, rv b1, iv (6 : Int32), iv (0 : Int32), rv w_CYRILLIC_UPPER, iv (2 : Int32)] [(.ref w_CYRILLIC_UPPER)])) rfl (by rw [hml]; rfl) (lenOf pd_4 rfl) rfl (by show 2 * 0 + _ ≤ _; exact Nat.le_of_eq rfl) (hb hby d1_61))
        have EX69_h0 : Ext h0 h69 := own_extE EX1_h0 E69
        have EX69_h1 : Ext h1 h69 := E69
        refine own_pre (T' := T69) (f' := (mkF m 64 #[iv z, rv b1, iv (6 : Int32), iv (0 : Int32), rv w_CYRILLIC_UPPER, iv (2 : Int32)] [(.ref h1.size)])) (fun t k => st69 t k) ?_
        exact own_retR X69 hx hlk hret (hb hby d1_64) rfl rfl rfl (by rw [e69]; exact ⟨_, rfl, EX69_h0, rfl, A69.1, (by rw [← hcl]; simp [own_cls, osk0_0, ofsk0_2] : Value.ref w_CYRILLIC_UPPER = x) ▸ A69.2⟩) (by decide) (by decide)
  refine own_pre (T' := T2) (f' := (mkF m 34 #[iv z, rv b1, iv (6 : Int32), iv (0 : Int32), rv w_CYRILLIC_UPPER, iv (0 : Int32)] [(.int z)])) (fun t k => XS.iloadN X2.here hx rfl (hb hby d1_33) rfl k) ?_
  refine own_pre (T' := T2) (f' := (mkF m 36 #[iv z, rv b1, iv (6 : Int32), iv (0 : Int32), rv w_CYRILLIC_UPPER, iv (0 : Int32)] [(.ref w_CYRILLIC_UPPER), (.int z)])) (fun t k => XS.aload X2.here hx rfl (hb hby d1_34) rfl rfl k) ?_
  obtain ⟨T70, X70, e70, st70⟩ := getF X2 hx hZ hown (host := "") (Or.inl (hw _ (List.mem_of_getElem? (i := 25) rfl))) Via.refl e2 (F_ranges_CYRILLIC_UPPER.ext EX1_h0) (g := (mkF m 36 #[iv z, rv b1, iv (6 : Int32), iv (0 : Int32), rv w_CYRILLIC_UPPER, iv (0 : Int32)] [(.ref w_CYRILLIC_UPPER), (.int z)])) rfl rfl (hb hby d1_36)
  refine own_pre (T' := T70) (f' := (mkF m 39 #[iv z, rv b1, iv (6 : Int32), iv (0 : Int32), rv w_CYRILLIC_UPPER, iv (0 : Int32)] [(.ref r_ranges_CYRILLIC_UPPER), (.int z)])) (fun t k => st70 t k) ?_
  refine own_pre (T' := T70) (f' := (mkF m 41 #[iv z, rv b1, iv (6 : Int32), iv (0 : Int32), rv w_CYRILLIC_UPPER, iv (0 : Int32)] [(.int (0 : Int32)), (.ref r_ranges_CYRILLIC_UPPER), (.int z)])) (fun t k => XS.iload X70.here hx rfl (hb hby d1_39) rfl k) ?_
  refine own_pre (T' := T70) (f' := (mkF m 42 #[iv z, rv b1, iv (6 : Int32), iv (0 : Int32), rv w_CYRILLIC_UPPER, iv (0 : Int32)] [(.int (1040 : Int32)), (.int z)])) (fun t k => own_ldI X70 hx hZ e70 (V_ranges_CYRILLIC_UPPER.ext EX1_h0) (by decide) rfl (g := (mkF m 41 #[iv z, rv b1, iv (6 : Int32), iv (0 : Int32), rv w_CYRILLIC_UPPER, iv (0 : Int32)] [(.int (0 : Int32)), (.ref r_ranges_CYRILLIC_UPPER), (.int z)])) rfl rfl (hb hby d1_41) t k) ?_
  by_cases hc71 : z < (1040 : Int32)
  · refine own_pre (T' := T70) (f' := (mkF m 65 #[iv z, rv b1, iv (6 : Int32), iv (0 : Int32), rv w_CYRILLIC_UPPER, iv (0 : Int32)] [])) (fun t k => XS.icmpYes X70.here hx rfl (pc0 := 42) (pc' := 65) rfl (hb hby d1_42) rfl (tlt hc71).1 (by decide) (by decide) k) ?_
    exact sk0_0 T70 X70 e70 (own_oL hc71)
  · refine own_pre (T' := T70) (f' := (mkF m 45 #[iv z, rv b1, iv (6 : Int32), iv (0 : Int32), rv w_CYRILLIC_UPPER, iv (0 : Int32)] [])) (fun t k => XS.icmpNo X70.here hx rfl (hb hby d1_42) rfl (flt hc71).1 k) ?_
    refine own_pre (T' := T70) (f' := (mkF m 46 #[iv z, rv b1, iv (6 : Int32), iv (0 : Int32), rv w_CYRILLIC_UPPER, iv (0 : Int32)] [(.int z)])) (fun t k => XS.iloadN X70.here hx rfl (hb hby d1_45) rfl k) ?_
    refine own_pre (T' := T70) (f' := (mkF m 48 #[iv z, rv b1, iv (6 : Int32), iv (0 : Int32), rv w_CYRILLIC_UPPER, iv (0 : Int32)] [(.ref w_CYRILLIC_UPPER), (.int z)])) (fun t k => XS.aload X70.here hx rfl (hb hby d1_46) rfl rfl k) ?_
    obtain ⟨T72, X72, e72, st72⟩ := getF X70 hx hZ hown (host := "") (Or.inl (hw _ (List.mem_of_getElem? (i := 25) rfl))) Via.refl e70 (F_ranges_CYRILLIC_UPPER.ext EX1_h0) (g := (mkF m 48 #[iv z, rv b1, iv (6 : Int32), iv (0 : Int32), rv w_CYRILLIC_UPPER, iv (0 : Int32)] [(.ref w_CYRILLIC_UPPER), (.int z)])) rfl rfl (hb hby d1_48)
    refine own_pre (T' := T72) (f' := (mkF m 51 #[iv z, rv b1, iv (6 : Int32), iv (0 : Int32), rv w_CYRILLIC_UPPER, iv (0 : Int32)] [(.ref r_ranges_CYRILLIC_UPPER), (.int z)])) (fun t k => st72 t k) ?_
    refine own_pre (T' := T72) (f' := (mkF m 53 #[iv z, rv b1, iv (6 : Int32), iv (0 : Int32), rv w_CYRILLIC_UPPER, iv (0 : Int32)] [(.int (0 : Int32)), (.ref r_ranges_CYRILLIC_UPPER), (.int z)])) (fun t k => XS.iload X72.here hx rfl (hb hby d1_51) rfl k) ?_
    refine own_pre (T' := T72) (f' := (mkF m 54 #[iv z, rv b1, iv (6 : Int32), iv (0 : Int32), rv w_CYRILLIC_UPPER, iv (0 : Int32)] [(.int (1 : Int32)), (.int (0 : Int32)), (.ref r_ranges_CYRILLIC_UPPER), (.int z)])) (fun t k => XS.iconst X72.here hx rfl (hb hby d1_53) k) ?_
    refine own_pre (T' := T72) (f' := (mkF m 55 #[iv z, rv b1, iv (6 : Int32), iv (0 : Int32), rv w_CYRILLIC_UPPER, iv (0 : Int32)] [(.int ((0 : Int32) + (1 : Int32))), (.ref r_ranges_CYRILLIC_UPPER), (.int z)])) (fun t k => XS.iadd X72.here hx rfl (hb hby d1_54) rfl k) ?_
    rw [show ((0 : Int32) + (1 : Int32)) = (1 : Int32) from by decide]
    refine own_pre (T' := T72) (f' := (mkF m 56 #[iv z, rv b1, iv (6 : Int32), iv (0 : Int32), rv w_CYRILLIC_UPPER, iv (0 : Int32)] [(.int (1071 : Int32)), (.int z)])) (fun t k => own_ldI X72 hx hZ e72 (V_ranges_CYRILLIC_UPPER.ext EX1_h0) (by decide) rfl (g := (mkF m 55 #[iv z, rv b1, iv (6 : Int32), iv (0 : Int32), rv w_CYRILLIC_UPPER, iv (0 : Int32)] [(.int (1 : Int32)), (.ref r_ranges_CYRILLIC_UPPER), (.int z)])) rfl rfl (hb hby d1_55) t k) ?_
    by_cases hc73 : (1071 : Int32) < z
    · refine own_pre (T' := T72) (f' := (mkF m 65 #[iv z, rv b1, iv (6 : Int32), iv (0 : Int32), rv w_CYRILLIC_UPPER, iv (0 : Int32)] [])) (fun t k => XS.icmpYes X72.here hx rfl (pc0 := 56) (pc' := 65) rfl (hb hby d1_56) rfl (tlt hc73).2.2.1 (by decide) (by decide) k) ?_
      exact sk0_0 T72 X72 e72 (own_oH hc73)
    · refine own_pre (T' := T72) (f' := (mkF m 59 #[iv z, rv b1, iv (6 : Int32), iv (0 : Int32), rv w_CYRILLIC_UPPER, iv (0 : Int32)] [])) (fun t k => XS.icmpNo X72.here hx rfl (hb hby d1_56) rfl (flt hc73).2.2.1 k) ?_
      have ofsk0_0 := own_oF hc71 hc73
      refine own_pre (T' := T72) (f' := (mkF m 61 #[iv z, rv b1, iv (6 : Int32), iv (0 : Int32), rv w_CYRILLIC_UPPER, iv (0 : Int32)] [(.ref w_CYRILLIC_UPPER)])) (fun t k => XS.aload X72.here hx rfl (hb hby d1_59) rfl rfl k) ?_
      obtain ⟨T74, h74, X74, e74, E74, A74, st74⟩ := own_grow (R' := own_RC 2 1 1 26) (v := some (.ref h1.size)) (own_callS X72 hx hZ e72 (y := (⟨"java/util/Optional", "of", "(Ljava/lang/Object;)Ljava/util/Optional;"⟩ : MethodName)) hown (hw _ (List.mem_of_getElem? (i := 53) rfl)) (hw _ (List.mem_of_getElem? (i := 54) rfl)) (hw _ (List.mem_of_getElem? (i := 55) rfl)) (hw _ (List.mem_of_getElem? (i := 29) rfl)) (by decide) 0 [(.ref w_CYRILLIC_UPPER)] [] (own_oof l Z a0 hw [] w__VALUES w_CYRILLIC_UPPER w_CYRILLIC_LOWER w_LATIN_UPPER w_LATIN_LOWER w_DIGITS w_SPECIAL w_EMPTY r_ranges_CYRILLIC_UPPER r_ranges_CYRILLIC_LOWER r_ranges_LATIN_UPPER r_ranges_LATIN_LOWER r_ranges_DIGITS r_ranges_SPECIAL k__VALUES k_ranges_CYRILLIC_UPPER k_ranges_CYRILLIC_LOWER k_ranges_LATIN_UPPER k_ranges_LATIN_LOWER k_ranges_DIGITS k_ranges_SPECIAL h1 (own_F_ext F0 EX1_h0) w_CYRILLIC_UPPER) (by decide) (by decide) (by decide) (by decide) (g := (mkF m 61 #[iv z, rv b1, iv (6 : Int32), iv (0 : Int32), rv w_CYRILLIC_UPPER, iv (0 : Int32)] [(.ref w_CYRILLIC_UPPER)])) rfl (by rw [hml]; rfl) (lenOf pd_4 rfl) rfl (by show 2 * 0 + _ ≤ _; exact Nat.le_of_eq rfl) (hb hby d1_61))
      have EX74_h0 : Ext h0 h74 := own_extE EX1_h0 E74
      have EX74_h1 : Ext h1 h74 := E74
      refine own_pre (T' := T74) (f' := (mkF m 64 #[iv z, rv b1, iv (6 : Int32), iv (0 : Int32), rv w_CYRILLIC_UPPER, iv (0 : Int32)] [(.ref h1.size)])) (fun t k => st74 t k) ?_
      exact own_retR X74 hx hlk hret (hb hby d1_64) rfl rfl rfl (by rw [e74]; exact ⟨_, rfl, EX74_h0, rfl, A74.1, (by rw [← hcl]; simp [own_cls, ofsk0_0] : Value.ref w_CYRILLIC_UPPER = x) ▸ A74.2⟩) (by decide) (by decide)
theorem d6_0 : decode method_4_code 0 = .ok (.iload_n 0, 1) := by decide +kernel
theorem d6_1 : decode method_4_code 1 = .ok (.bipush 65, 2) := by decide +kernel
theorem d6_3 : decode method_4_code 3 = .ok (.if_icmp .lt 13, 3) := by decide +kernel
theorem d6_6 : decode method_4_code 6 = .ok (.iload_n 0, 1) := by decide +kernel
theorem d6_7 : decode method_4_code 7 = .ok (.bipush 90, 2) := by decide +kernel
theorem d6_9 : decode method_4_code 9 = .ok (.if_icmp .gt 7, 3) := by decide +kernel
theorem d6_12 : decode method_4_code 12 = .ok (.iconst 1, 1) := by decide +kernel
theorem d6_13 : decode method_4_code 13 = .ok (.goto 4, 3) := by decide +kernel
theorem d6_16 : decode method_4_code 16 = .ok (.iconst 0, 1) := by decide +kernel
theorem d6_17 : decode method_4_code 17 = .ok (.ireturn, 1) := by decide +kernel
set_option maxRecDepth 65536 in
set_option maxHeartbeats 40000000 in
theorem own_isUpper (l : Launch) (Z : State) (a0 : Array Value) (hw : ∀ d ∈ tables_1, d.before a0 Z = true) (ws : List Jvm.Cond) (w__VALUES w_CYRILLIC_UPPER w_CYRILLIC_LOWER w_LATIN_UPPER w_LATIN_LOWER w_DIGITS w_SPECIAL w_EMPTY r_ranges_CYRILLIC_UPPER r_ranges_CYRILLIC_LOWER r_ranges_LATIN_UPPER r_ranges_LATIN_LOWER r_ranges_DIGITS r_ranges_SPECIAL : Addr) (k__VALUES k_ranges_CYRILLIC_UPPER k_ranges_CYRILLIC_LOWER k_ranges_LATIN_UPPER k_ranges_LATIN_LOWER k_ranges_DIGITS k_ranges_SPECIAL : ClassId) (h0 : Heap) (F : own_F Z h0 w__VALUES w_CYRILLIC_UPPER w_CYRILLIC_LOWER w_LATIN_UPPER w_LATIN_LOWER w_DIGITS w_SPECIAL w_EMPTY r_ranges_CYRILLIC_UPPER r_ranges_CYRILLIC_LOWER r_ranges_LATIN_UPPER r_ranges_LATIN_LOWER r_ranges_DIGITS r_ranges_SPECIAL k__VALUES k_ranges_CYRILLIC_UPPER k_ranges_CYRILLIC_LOWER k_ranges_LATIN_UPPER k_ranges_LATIN_LOWER k_ranges_DIGITS k_ranges_SPECIAL) (z : Int32) :
    own_C l (⟨"com/example/kormilo/kormilo/CharacterClassOfPinLaw", "isUpper", "(I)Z"⟩ : MethodName) method_4_code 1 (some .boolean) ws (own_R 0 0) #[(.int z)] Z h0 (own_Q0 (some (.int (own_b z (65 : Int32) (90 : Int32)))) h0) := by
  have F0 := F
  obtain ⟨S__VALUES, E__VALUES, S_CYRILLIC_UPPER, E_CYRILLIC_UPPER, S_CYRILLIC_LOWER, E_CYRILLIC_LOWER, S_LATIN_UPPER, E_LATIN_UPPER, S_LATIN_LOWER, E_LATIN_LOWER, S_DIGITS, E_DIGITS, S_SPECIAL, E_SPECIAL, S_EMPTY, E_EMPTY, F_ranges_CYRILLIC_UPPER, F_ranges_CYRILLIC_LOWER, F_ranges_LATIN_UPPER, F_ranges_LATIN_LOWER, F_ranges_DIGITS, F_ranges_SPECIAL, F_value_EMPTY, V__VALUES, V_ranges_CYRILLIC_UPPER, V_ranges_CYRILLIC_LOWER, V_ranges_LATIN_UPPER, V_ranges_LATIN_LOWER, V_ranges_DIGITS, V_ranges_SPECIAL⟩ := F
  refine own_enter (LS := #[iv z]) (plainFor_of_name (by first | (simp [plainName, overriddenIn, x]; done) | decide +kernel)) (fun m => by first | (simp [entryFrame, mkF, argsToLocals, Value.category, maxLocals]; done) | rfl) ?_
  intro p e s m below meth c s₁ hx hby hml hown0 hnm hret hlk hZ X0 e0 hsh
  have hown : s.vm.findClass "com/example/kormilo/kormilo/CharacterClassOfPinLaw" = some m.cls := hown0
  refine own_pre (T' := s₁) (f' := (mkF m 1 #[iv z] [(.int z)])) (fun t k => XS.iloadN X0.here hx rfl (hb hby d6_0) rfl k) ?_
  refine own_pre (T' := s₁) (f' := (mkF m 3 #[iv z] [(.int (65 : Int32)), (.int z)])) (fun t k => XS.bipush X0.here hx rfl (hb hby d6_1) k) ?_
  by_cases hc1 : z < (65 : Int32)
  · refine own_pre (T' := s₁) (f' := (mkF m 16 #[iv z] [])) (fun t k => XS.icmpYes X0.here hx rfl (pc0 := 3) (pc' := 16) rfl (hb hby d6_3) rfl (tlt hc1).1 (by decide) (by decide) k) ?_
    refine own_pre (T' := s₁) (f' := (mkF m 17 #[iv z] [(.int (0 : Int32))])) (fun t k => XS.iconst X0.here hx rfl (hb hby d6_16) k) ?_
    exact own_retZ X0 hx hlk hret (hb hby d6_17) rfl (⟨by simp [own_b, hc1]; rfl, e0, rfl⟩) (by decide) (by decide)
  · refine own_pre (T' := s₁) (f' := (mkF m 6 #[iv z] [])) (fun t k => XS.icmpNo X0.here hx rfl (hb hby d6_3) rfl (flt hc1).1 k) ?_
    refine own_pre (T' := s₁) (f' := (mkF m 7 #[iv z] [(.int z)])) (fun t k => XS.iloadN X0.here hx rfl (hb hby d6_6) rfl k) ?_
    refine own_pre (T' := s₁) (f' := (mkF m 9 #[iv z] [(.int (90 : Int32)), (.int z)])) (fun t k => XS.bipush X0.here hx rfl (hb hby d6_7) k) ?_
    by_cases hc2 : (90 : Int32) < z
    · refine own_pre (T' := s₁) (f' := (mkF m 16 #[iv z] [])) (fun t k => XS.icmpYes X0.here hx rfl (pc0 := 9) (pc' := 16) rfl (hb hby d6_9) rfl (tlt hc2).2.2.1 (by decide) (by decide) k) ?_
      refine own_pre (T' := s₁) (f' := (mkF m 17 #[iv z] [(.int (0 : Int32))])) (fun t k => XS.iconst X0.here hx rfl (hb hby d6_16) k) ?_
      exact own_retZ X0 hx hlk hret (hb hby d6_17) rfl (⟨by simp [own_b, hc1, hc2]; rfl, e0, rfl⟩) (by decide) (by decide)
    · refine own_pre (T' := s₁) (f' := (mkF m 12 #[iv z] [])) (fun t k => XS.icmpNo X0.here hx rfl (hb hby d6_9) rfl (flt hc2).2.2.1 k) ?_
      refine own_pre (T' := s₁) (f' := (mkF m 13 #[iv z] [(.int (1 : Int32))])) (fun t k => XS.iconst X0.here hx rfl (hb hby d6_12) k) ?_
      refine own_pre (T' := s₁) (f' := (mkF m 17 #[iv z] [(.int (1 : Int32))])) (fun t k => XS.goto X0.here hx rfl (pc0 := 13) (pc' := 17) rfl (hb hby d6_13) (by decide) (by decide) k) ?_
      exact own_retZ X0 hx hlk hret (hb hby d6_17) rfl (⟨by simp [own_b, hc1, hc2]; rfl, e0, rfl⟩) (by decide) (by decide)
theorem d7_0 : decode method_5_code 0 = .ok (.iload_n 0, 1) := by decide +kernel
theorem d7_1 : decode method_5_code 1 = .ok (.bipush 97, 2) := by decide +kernel
theorem d7_3 : decode method_5_code 3 = .ok (.if_icmp .lt 13, 3) := by decide +kernel
theorem d7_6 : decode method_5_code 6 = .ok (.iload_n 0, 1) := by decide +kernel
theorem d7_7 : decode method_5_code 7 = .ok (.bipush 122, 2) := by decide +kernel
theorem d7_9 : decode method_5_code 9 = .ok (.if_icmp .gt 7, 3) := by decide +kernel
theorem d7_12 : decode method_5_code 12 = .ok (.iconst 1, 1) := by decide +kernel
theorem d7_13 : decode method_5_code 13 = .ok (.goto 4, 3) := by decide +kernel
theorem d7_16 : decode method_5_code 16 = .ok (.iconst 0, 1) := by decide +kernel
theorem d7_17 : decode method_5_code 17 = .ok (.ireturn, 1) := by decide +kernel
set_option maxRecDepth 65536 in
set_option maxHeartbeats 40000000 in
theorem own_isLower (l : Launch) (Z : State) (a0 : Array Value) (hw : ∀ d ∈ tables_1, d.before a0 Z = true) (ws : List Jvm.Cond) (w__VALUES w_CYRILLIC_UPPER w_CYRILLIC_LOWER w_LATIN_UPPER w_LATIN_LOWER w_DIGITS w_SPECIAL w_EMPTY r_ranges_CYRILLIC_UPPER r_ranges_CYRILLIC_LOWER r_ranges_LATIN_UPPER r_ranges_LATIN_LOWER r_ranges_DIGITS r_ranges_SPECIAL : Addr) (k__VALUES k_ranges_CYRILLIC_UPPER k_ranges_CYRILLIC_LOWER k_ranges_LATIN_UPPER k_ranges_LATIN_LOWER k_ranges_DIGITS k_ranges_SPECIAL : ClassId) (h0 : Heap) (F : own_F Z h0 w__VALUES w_CYRILLIC_UPPER w_CYRILLIC_LOWER w_LATIN_UPPER w_LATIN_LOWER w_DIGITS w_SPECIAL w_EMPTY r_ranges_CYRILLIC_UPPER r_ranges_CYRILLIC_LOWER r_ranges_LATIN_UPPER r_ranges_LATIN_LOWER r_ranges_DIGITS r_ranges_SPECIAL k__VALUES k_ranges_CYRILLIC_UPPER k_ranges_CYRILLIC_LOWER k_ranges_LATIN_UPPER k_ranges_LATIN_LOWER k_ranges_DIGITS k_ranges_SPECIAL) (z : Int32) :
    own_C l (⟨"com/example/kormilo/kormilo/CharacterClassOfPinLaw", "isLower", "(I)Z"⟩ : MethodName) method_5_code 1 (some .boolean) ws (own_R 0 0) #[(.int z)] Z h0 (own_Q0 (some (.int (own_b z (97 : Int32) (122 : Int32)))) h0) := by
  have F0 := F
  obtain ⟨S__VALUES, E__VALUES, S_CYRILLIC_UPPER, E_CYRILLIC_UPPER, S_CYRILLIC_LOWER, E_CYRILLIC_LOWER, S_LATIN_UPPER, E_LATIN_UPPER, S_LATIN_LOWER, E_LATIN_LOWER, S_DIGITS, E_DIGITS, S_SPECIAL, E_SPECIAL, S_EMPTY, E_EMPTY, F_ranges_CYRILLIC_UPPER, F_ranges_CYRILLIC_LOWER, F_ranges_LATIN_UPPER, F_ranges_LATIN_LOWER, F_ranges_DIGITS, F_ranges_SPECIAL, F_value_EMPTY, V__VALUES, V_ranges_CYRILLIC_UPPER, V_ranges_CYRILLIC_LOWER, V_ranges_LATIN_UPPER, V_ranges_LATIN_LOWER, V_ranges_DIGITS, V_ranges_SPECIAL⟩ := F
  refine own_enter (LS := #[iv z]) (plainFor_of_name (by first | (simp [plainName, overriddenIn, x]; done) | decide +kernel)) (fun m => by first | (simp [entryFrame, mkF, argsToLocals, Value.category, maxLocals]; done) | rfl) ?_
  intro p e s m below meth c s₁ hx hby hml hown0 hnm hret hlk hZ X0 e0 hsh
  have hown : s.vm.findClass "com/example/kormilo/kormilo/CharacterClassOfPinLaw" = some m.cls := hown0
  refine own_pre (T' := s₁) (f' := (mkF m 1 #[iv z] [(.int z)])) (fun t k => XS.iloadN X0.here hx rfl (hb hby d7_0) rfl k) ?_
  refine own_pre (T' := s₁) (f' := (mkF m 3 #[iv z] [(.int (97 : Int32)), (.int z)])) (fun t k => XS.bipush X0.here hx rfl (hb hby d7_1) k) ?_
  by_cases hc1 : z < (97 : Int32)
  · refine own_pre (T' := s₁) (f' := (mkF m 16 #[iv z] [])) (fun t k => XS.icmpYes X0.here hx rfl (pc0 := 3) (pc' := 16) rfl (hb hby d7_3) rfl (tlt hc1).1 (by decide) (by decide) k) ?_
    refine own_pre (T' := s₁) (f' := (mkF m 17 #[iv z] [(.int (0 : Int32))])) (fun t k => XS.iconst X0.here hx rfl (hb hby d7_16) k) ?_
    exact own_retZ X0 hx hlk hret (hb hby d7_17) rfl (⟨by simp [own_b, hc1]; rfl, e0, rfl⟩) (by decide) (by decide)
  · refine own_pre (T' := s₁) (f' := (mkF m 6 #[iv z] [])) (fun t k => XS.icmpNo X0.here hx rfl (hb hby d7_3) rfl (flt hc1).1 k) ?_
    refine own_pre (T' := s₁) (f' := (mkF m 7 #[iv z] [(.int z)])) (fun t k => XS.iloadN X0.here hx rfl (hb hby d7_6) rfl k) ?_
    refine own_pre (T' := s₁) (f' := (mkF m 9 #[iv z] [(.int (122 : Int32)), (.int z)])) (fun t k => XS.bipush X0.here hx rfl (hb hby d7_7) k) ?_
    by_cases hc2 : (122 : Int32) < z
    · refine own_pre (T' := s₁) (f' := (mkF m 16 #[iv z] [])) (fun t k => XS.icmpYes X0.here hx rfl (pc0 := 9) (pc' := 16) rfl (hb hby d7_9) rfl (tlt hc2).2.2.1 (by decide) (by decide) k) ?_
      refine own_pre (T' := s₁) (f' := (mkF m 17 #[iv z] [(.int (0 : Int32))])) (fun t k => XS.iconst X0.here hx rfl (hb hby d7_16) k) ?_
      exact own_retZ X0 hx hlk hret (hb hby d7_17) rfl (⟨by simp [own_b, hc1, hc2]; rfl, e0, rfl⟩) (by decide) (by decide)
    · refine own_pre (T' := s₁) (f' := (mkF m 12 #[iv z] [])) (fun t k => XS.icmpNo X0.here hx rfl (hb hby d7_9) rfl (flt hc2).2.2.1 k) ?_
      refine own_pre (T' := s₁) (f' := (mkF m 13 #[iv z] [(.int (1 : Int32))])) (fun t k => XS.iconst X0.here hx rfl (hb hby d7_12) k) ?_
      refine own_pre (T' := s₁) (f' := (mkF m 17 #[iv z] [(.int (1 : Int32))])) (fun t k => XS.goto X0.here hx rfl (pc0 := 13) (pc' := 17) rfl (hb hby d7_13) (by decide) (by decide) k) ?_
      exact own_retZ X0 hx hlk hret (hb hby d7_17) rfl (⟨by simp [own_b, hc1, hc2]; rfl, e0, rfl⟩) (by decide) (by decide)
theorem d8_0 : decode method_3_code 0 = .ok (.iload_n 0, 1) := by decide +kernel
theorem d8_1 : decode method_3_code 1 = .ok (.bipush 48, 2) := by decide +kernel
theorem d8_3 : decode method_3_code 3 = .ok (.if_icmp .lt 13, 3) := by decide +kernel
theorem d8_6 : decode method_3_code 6 = .ok (.iload_n 0, 1) := by decide +kernel
theorem d8_7 : decode method_3_code 7 = .ok (.bipush 57, 2) := by decide +kernel
theorem d8_9 : decode method_3_code 9 = .ok (.if_icmp .gt 7, 3) := by decide +kernel
theorem d8_12 : decode method_3_code 12 = .ok (.iconst 1, 1) := by decide +kernel
theorem d8_13 : decode method_3_code 13 = .ok (.goto 4, 3) := by decide +kernel
theorem d8_16 : decode method_3_code 16 = .ok (.iconst 0, 1) := by decide +kernel
theorem d8_17 : decode method_3_code 17 = .ok (.ireturn, 1) := by decide +kernel
set_option maxRecDepth 65536 in
set_option maxHeartbeats 40000000 in
theorem own_isDigit (l : Launch) (Z : State) (a0 : Array Value) (hw : ∀ d ∈ tables_1, d.before a0 Z = true) (ws : List Jvm.Cond) (w__VALUES w_CYRILLIC_UPPER w_CYRILLIC_LOWER w_LATIN_UPPER w_LATIN_LOWER w_DIGITS w_SPECIAL w_EMPTY r_ranges_CYRILLIC_UPPER r_ranges_CYRILLIC_LOWER r_ranges_LATIN_UPPER r_ranges_LATIN_LOWER r_ranges_DIGITS r_ranges_SPECIAL : Addr) (k__VALUES k_ranges_CYRILLIC_UPPER k_ranges_CYRILLIC_LOWER k_ranges_LATIN_UPPER k_ranges_LATIN_LOWER k_ranges_DIGITS k_ranges_SPECIAL : ClassId) (h0 : Heap) (F : own_F Z h0 w__VALUES w_CYRILLIC_UPPER w_CYRILLIC_LOWER w_LATIN_UPPER w_LATIN_LOWER w_DIGITS w_SPECIAL w_EMPTY r_ranges_CYRILLIC_UPPER r_ranges_CYRILLIC_LOWER r_ranges_LATIN_UPPER r_ranges_LATIN_LOWER r_ranges_DIGITS r_ranges_SPECIAL k__VALUES k_ranges_CYRILLIC_UPPER k_ranges_CYRILLIC_LOWER k_ranges_LATIN_UPPER k_ranges_LATIN_LOWER k_ranges_DIGITS k_ranges_SPECIAL) (z : Int32) :
    own_C l (⟨"com/example/kormilo/kormilo/CharacterClassOfPinLaw", "isDigit", "(I)Z"⟩ : MethodName) method_3_code 1 (some .boolean) ws (own_R 0 0) #[(.int z)] Z h0 (own_Q0 (some (.int (own_b z (48 : Int32) (57 : Int32)))) h0) := by
  have F0 := F
  obtain ⟨S__VALUES, E__VALUES, S_CYRILLIC_UPPER, E_CYRILLIC_UPPER, S_CYRILLIC_LOWER, E_CYRILLIC_LOWER, S_LATIN_UPPER, E_LATIN_UPPER, S_LATIN_LOWER, E_LATIN_LOWER, S_DIGITS, E_DIGITS, S_SPECIAL, E_SPECIAL, S_EMPTY, E_EMPTY, F_ranges_CYRILLIC_UPPER, F_ranges_CYRILLIC_LOWER, F_ranges_LATIN_UPPER, F_ranges_LATIN_LOWER, F_ranges_DIGITS, F_ranges_SPECIAL, F_value_EMPTY, V__VALUES, V_ranges_CYRILLIC_UPPER, V_ranges_CYRILLIC_LOWER, V_ranges_LATIN_UPPER, V_ranges_LATIN_LOWER, V_ranges_DIGITS, V_ranges_SPECIAL⟩ := F
  refine own_enter (LS := #[iv z]) (plainFor_of_name (by first | (simp [plainName, overriddenIn, x]; done) | decide +kernel)) (fun m => by first | (simp [entryFrame, mkF, argsToLocals, Value.category, maxLocals]; done) | rfl) ?_
  intro p e s m below meth c s₁ hx hby hml hown0 hnm hret hlk hZ X0 e0 hsh
  have hown : s.vm.findClass "com/example/kormilo/kormilo/CharacterClassOfPinLaw" = some m.cls := hown0
  refine own_pre (T' := s₁) (f' := (mkF m 1 #[iv z] [(.int z)])) (fun t k => XS.iloadN X0.here hx rfl (hb hby d8_0) rfl k) ?_
  refine own_pre (T' := s₁) (f' := (mkF m 3 #[iv z] [(.int (48 : Int32)), (.int z)])) (fun t k => XS.bipush X0.here hx rfl (hb hby d8_1) k) ?_
  by_cases hc1 : z < (48 : Int32)
  · refine own_pre (T' := s₁) (f' := (mkF m 16 #[iv z] [])) (fun t k => XS.icmpYes X0.here hx rfl (pc0 := 3) (pc' := 16) rfl (hb hby d8_3) rfl (tlt hc1).1 (by decide) (by decide) k) ?_
    refine own_pre (T' := s₁) (f' := (mkF m 17 #[iv z] [(.int (0 : Int32))])) (fun t k => XS.iconst X0.here hx rfl (hb hby d8_16) k) ?_
    exact own_retZ X0 hx hlk hret (hb hby d8_17) rfl (⟨by simp [own_b, hc1]; rfl, e0, rfl⟩) (by decide) (by decide)
  · refine own_pre (T' := s₁) (f' := (mkF m 6 #[iv z] [])) (fun t k => XS.icmpNo X0.here hx rfl (hb hby d8_3) rfl (flt hc1).1 k) ?_
    refine own_pre (T' := s₁) (f' := (mkF m 7 #[iv z] [(.int z)])) (fun t k => XS.iloadN X0.here hx rfl (hb hby d8_6) rfl k) ?_
    refine own_pre (T' := s₁) (f' := (mkF m 9 #[iv z] [(.int (57 : Int32)), (.int z)])) (fun t k => XS.bipush X0.here hx rfl (hb hby d8_7) k) ?_
    by_cases hc2 : (57 : Int32) < z
    · refine own_pre (T' := s₁) (f' := (mkF m 16 #[iv z] [])) (fun t k => XS.icmpYes X0.here hx rfl (pc0 := 9) (pc' := 16) rfl (hb hby d8_9) rfl (tlt hc2).2.2.1 (by decide) (by decide) k) ?_
      refine own_pre (T' := s₁) (f' := (mkF m 17 #[iv z] [(.int (0 : Int32))])) (fun t k => XS.iconst X0.here hx rfl (hb hby d8_16) k) ?_
      exact own_retZ X0 hx hlk hret (hb hby d8_17) rfl (⟨by simp [own_b, hc1, hc2]; rfl, e0, rfl⟩) (by decide) (by decide)
    · refine own_pre (T' := s₁) (f' := (mkF m 12 #[iv z] [])) (fun t k => XS.icmpNo X0.here hx rfl (hb hby d8_9) rfl (flt hc2).2.2.1 k) ?_
      refine own_pre (T' := s₁) (f' := (mkF m 13 #[iv z] [(.int (1 : Int32))])) (fun t k => XS.iconst X0.here hx rfl (hb hby d8_12) k) ?_
      refine own_pre (T' := s₁) (f' := (mkF m 17 #[iv z] [(.int (1 : Int32))])) (fun t k => XS.goto X0.here hx rfl (pc0 := 13) (pc' := 17) rfl (hb hby d8_13) (by decide) (by decide) k) ?_
      exact own_retZ X0 hx hlk hret (hb hby d8_17) rfl (⟨by simp [own_b, hc1, hc2]; rfl, e0, rfl⟩) (by decide) (by decide)
theorem d5_0 : decode method_6_code 0 = .ok (.iload_n 0, 1) := by decide +kernel
theorem d5_1 : decode method_6_code 1 = .ok (.sipush 1025, 3) := by decide +kernel
theorem d5_4 : decode method_6_code 4 = .ok (.if_icmp .eq 17, 3) := by decide +kernel
theorem d5_7 : decode method_6_code 7 = .ok (.iload_n 0, 1) := by decide +kernel
theorem d5_8 : decode method_6_code 8 = .ok (.sipush 1040, 3) := by decide +kernel
theorem d5_11 : decode method_6_code 11 = .ok (.if_icmp .lt 14, 3) := by decide +kernel
theorem d5_14 : decode method_6_code 14 = .ok (.iload_n 0, 1) := by decide +kernel
theorem d5_15 : decode method_6_code 15 = .ok (.sipush 1071, 3) := by decide +kernel
theorem d5_18 : decode method_6_code 18 = .ok (.if_icmp .gt 7, 3) := by decide +kernel
theorem d5_21 : decode method_6_code 21 = .ok (.getstatic 26, 3) := by decide +kernel
theorem d5_24 : decode method_6_code 24 = .ok (.areturn, 1) := by decide +kernel
theorem d5_25 : decode method_6_code 25 = .ok (.iload_n 0, 1) := by decide +kernel
theorem d5_26 : decode method_6_code 26 = .ok (.sipush 1105, 3) := by decide +kernel
theorem d5_29 : decode method_6_code 29 = .ok (.if_icmp .eq 17, 3) := by decide +kernel
theorem d5_32 : decode method_6_code 32 = .ok (.iload_n 0, 1) := by decide +kernel
theorem d5_33 : decode method_6_code 33 = .ok (.sipush 1072, 3) := by decide +kernel
theorem d5_36 : decode method_6_code 36 = .ok (.if_icmp .lt 14, 3) := by decide +kernel
theorem d5_39 : decode method_6_code 39 = .ok (.iload_n 0, 1) := by decide +kernel
theorem d5_40 : decode method_6_code 40 = .ok (.sipush 1103, 3) := by decide +kernel
theorem d5_43 : decode method_6_code 43 = .ok (.if_icmp .gt 7, 3) := by decide +kernel
theorem d5_46 : decode method_6_code 46 = .ok (.getstatic 30, 3) := by decide +kernel
theorem d5_49 : decode method_6_code 49 = .ok (.areturn, 1) := by decide +kernel
theorem d5_50 : decode method_6_code 50 = .ok (.iload_n 0, 1) := by decide +kernel
theorem d5_51 : decode method_6_code 51 = .ok (.invokestatic 33, 3) := by decide +kernel
theorem d5_54 : decode method_6_code 54 = .ok (.ifCond .eq 7, 3) := by decide +kernel
theorem d5_57 : decode method_6_code 57 = .ok (.getstatic 37, 3) := by decide +kernel
theorem d5_60 : decode method_6_code 60 = .ok (.areturn, 1) := by decide +kernel
theorem d5_61 : decode method_6_code 61 = .ok (.iload_n 0, 1) := by decide +kernel
theorem d5_62 : decode method_6_code 62 = .ok (.invokestatic 40, 3) := by decide +kernel
theorem d5_65 : decode method_6_code 65 = .ok (.ifCond .eq 7, 3) := by decide +kernel
theorem d5_68 : decode method_6_code 68 = .ok (.getstatic 43, 3) := by decide +kernel
theorem d5_71 : decode method_6_code 71 = .ok (.areturn, 1) := by decide +kernel
theorem d5_72 : decode method_6_code 72 = .ok (.iload_n 0, 1) := by decide +kernel
theorem d5_73 : decode method_6_code 73 = .ok (.invokestatic 46, 3) := by decide +kernel
theorem d5_76 : decode method_6_code 76 = .ok (.ifCond .eq 7, 3) := by decide +kernel
theorem d5_79 : decode method_6_code 79 = .ok (.getstatic 49, 3) := by decide +kernel
theorem d5_82 : decode method_6_code 82 = .ok (.areturn, 1) := by decide +kernel
theorem d5_83 : decode method_6_code 83 = .ok (.iload_n 0, 1) := by decide +kernel
theorem d5_84 : decode method_6_code 84 = .ok (.bipush 33, 2) := by decide +kernel
theorem d5_86 : decode method_6_code 86 = .ok (.if_icmp .lt 13, 3) := by decide +kernel
theorem d5_89 : decode method_6_code 89 = .ok (.iload_n 0, 1) := by decide +kernel
theorem d5_90 : decode method_6_code 90 = .ok (.bipush 126, 2) := by decide +kernel
theorem d5_92 : decode method_6_code 92 = .ok (.if_icmp .gt 7, 3) := by decide +kernel
theorem d5_95 : decode method_6_code 95 = .ok (.getstatic 52, 3) := by decide +kernel
theorem d5_98 : decode method_6_code 98 = .ok (.areturn, 1) := by decide +kernel
theorem d5_99 : decode method_6_code 99 = .ok (.aconst_null, 1) := by decide +kernel
theorem d5_100 : decode method_6_code 100 = .ok (.areturn, 1) := by decide +kernel
set_option maxRecDepth 65536 in
set_option maxHeartbeats 40000000 in
theorem own_expected (l : Launch) (Z : State) (a0 : Array Value) (hw : ∀ d ∈ tables_1, d.before a0 Z = true) (ws : List Jvm.Cond) (w__VALUES w_CYRILLIC_UPPER w_CYRILLIC_LOWER w_LATIN_UPPER w_LATIN_LOWER w_DIGITS w_SPECIAL w_EMPTY r_ranges_CYRILLIC_UPPER r_ranges_CYRILLIC_LOWER r_ranges_LATIN_UPPER r_ranges_LATIN_LOWER r_ranges_DIGITS r_ranges_SPECIAL : Addr) (k__VALUES k_ranges_CYRILLIC_UPPER k_ranges_CYRILLIC_LOWER k_ranges_LATIN_UPPER k_ranges_LATIN_LOWER k_ranges_DIGITS k_ranges_SPECIAL : ClassId) (h0 : Heap) (F : own_F Z h0 w__VALUES w_CYRILLIC_UPPER w_CYRILLIC_LOWER w_LATIN_UPPER w_LATIN_LOWER w_DIGITS w_SPECIAL w_EMPTY r_ranges_CYRILLIC_UPPER r_ranges_CYRILLIC_LOWER r_ranges_LATIN_UPPER r_ranges_LATIN_LOWER r_ranges_DIGITS r_ranges_SPECIAL k__VALUES k_ranges_CYRILLIC_UPPER k_ranges_CYRILLIC_LOWER k_ranges_LATIN_UPPER k_ranges_LATIN_LOWER k_ranges_DIGITS k_ranges_SPECIAL) (z : Int32) (x : Value) (hex : own_exp z w_CYRILLIC_UPPER w_CYRILLIC_LOWER w_LATIN_UPPER w_LATIN_LOWER w_DIGITS w_SPECIAL = x) :
    own_C l (⟨"com/example/kormilo/kormilo/CharacterClassOfPinLaw", "expected", "(I)Lcom/example/kormilo/kormilo/CharacterClass;"⟩ : MethodName) method_6_code 1 (some (.object "com/example/kormilo/kormilo/CharacterClass")) ws (own_R 1 12) #[(.int z)] Z h0 (own_Q0 (some x) h0) := by
  have F0 := F
  obtain ⟨S__VALUES, E__VALUES, S_CYRILLIC_UPPER, E_CYRILLIC_UPPER, S_CYRILLIC_LOWER, E_CYRILLIC_LOWER, S_LATIN_UPPER, E_LATIN_UPPER, S_LATIN_LOWER, E_LATIN_LOWER, S_DIGITS, E_DIGITS, S_SPECIAL, E_SPECIAL, S_EMPTY, E_EMPTY, F_ranges_CYRILLIC_UPPER, F_ranges_CYRILLIC_LOWER, F_ranges_LATIN_UPPER, F_ranges_LATIN_LOWER, F_ranges_DIGITS, F_ranges_SPECIAL, F_value_EMPTY, V__VALUES, V_ranges_CYRILLIC_UPPER, V_ranges_CYRILLIC_LOWER, V_ranges_LATIN_UPPER, V_ranges_LATIN_LOWER, V_ranges_DIGITS, V_ranges_SPECIAL⟩ := F
  refine own_enter (LS := #[iv z]) (plainFor_of_name (by first | (simp [plainName, overriddenIn, x]; done) | decide +kernel)) (fun m => by first | (simp [entryFrame, mkF, argsToLocals, Value.category, maxLocals]; done) | rfl) ?_
  intro p e s m below meth c s₁ hx hby hml hown0 hnm hret hlk hZ X0 e0 hsh
  have hown : s.vm.findClass "com/example/kormilo/kormilo/CharacterClassOfPinLaw" = some m.cls := hown0
  refine own_pre (T' := s₁) (f' := (mkF m 1 #[iv z] [(.int z)])) (fun t k => XS.iloadN X0.here hx rfl (hb hby d5_0) rfl k) ?_
  refine own_pre (T' := s₁) (f' := (mkF m 4 #[iv z] [(.int (1025 : Int32)), (.int z)])) (fun t k => XS.sipush X0.here hx rfl (hb hby d5_1) k) ?_
  by_cases hc1 : z = (1025 : Int32)
  · refine own_pre (T' := s₁) (f' := (mkF m 21 #[iv z] [])) (fun t k => XS.icmpYes X0.here hx rfl (pc0 := 4) (pc' := 21) rfl (hb hby d5_4) rfl (teq hc1).1 (by decide) (by decide) k) ?_
    obtain ⟨T2, X2, e2, st2⟩ := getS2 X0 hx hZ hown (host := "") (Or.inl (hw _ (List.mem_of_getElem? (i := 76) rfl))) Via.refl e0 S_CYRILLIC_UPPER (g := (mkF m 21 #[iv z] [])) rfl (hb hby d5_21)
    refine own_pre (T' := T2) (f' := (mkF m 24 #[iv z] [(.ref w_CYRILLIC_UPPER)])) (fun t k => st2 t k) ?_
    exact own_retR X2 hx hlk hret (hb hby d5_24) rfl rfl rfl (⟨by rw [← hex]; simp [own_exp, hc1], e2, rfl⟩) (by decide) (by decide)
  · refine own_pre (T' := s₁) (f' := (mkF m 7 #[iv z] [])) (fun t k => XS.icmpNo X0.here hx rfl (hb hby d5_4) rfl (feq hc1).1 k) ?_
    refine own_pre (T' := s₁) (f' := (mkF m 8 #[iv z] [(.int z)])) (fun t k => XS.iloadN X0.here hx rfl (hb hby d5_7) rfl k) ?_
    refine own_pre (T' := s₁) (f' := (mkF m 11 #[iv z] [(.int (1040 : Int32)), (.int z)])) (fun t k => XS.sipush X0.here hx rfl (hb hby d5_8) k) ?_
    by_cases hc3 : z < (1040 : Int32)
    · refine own_pre (T' := s₁) (f' := (mkF m 25 #[iv z] [])) (fun t k => XS.icmpYes X0.here hx rfl (pc0 := 11) (pc' := 25) rfl (hb hby d5_11) rfl (tlt hc3).1 (by decide) (by decide) k) ?_
      refine own_pre (T' := s₁) (f' := (mkF m 26 #[iv z] [(.int z)])) (fun t k => XS.iloadN X0.here hx rfl (hb hby d5_25) rfl k) ?_
      refine own_pre (T' := s₁) (f' := (mkF m 29 #[iv z] [(.int (1105 : Int32)), (.int z)])) (fun t k => XS.sipush X0.here hx rfl (hb hby d5_26) k) ?_
      by_cases hc4 : z = (1105 : Int32)
      · refine own_pre (T' := s₁) (f' := (mkF m 46 #[iv z] [])) (fun t k => XS.icmpYes X0.here hx rfl (pc0 := 29) (pc' := 46) rfl (hb hby d5_29) rfl (teq hc4).1 (by decide) (by decide) k) ?_
        obtain ⟨T5, X5, e5, st5⟩ := getS2 X0 hx hZ hown (host := "") (Or.inl (hw _ (List.mem_of_getElem? (i := 73) rfl))) Via.refl e0 S_CYRILLIC_LOWER (g := (mkF m 46 #[iv z] [])) rfl (hb hby d5_46)
        refine own_pre (T' := T5) (f' := (mkF m 49 #[iv z] [(.ref w_CYRILLIC_LOWER)])) (fun t k => st5 t k) ?_
        exact own_retR X5 hx hlk hret (hb hby d5_49) rfl rfl rfl (⟨by rw [← hex]; simp [own_exp, hc1, hc3, hc4], e5, rfl⟩) (by decide) (by decide)
      · refine own_pre (T' := s₁) (f' := (mkF m 32 #[iv z] [])) (fun t k => XS.icmpNo X0.here hx rfl (hb hby d5_29) rfl (feq hc4).1 k) ?_
        refine own_pre (T' := s₁) (f' := (mkF m 33 #[iv z] [(.int z)])) (fun t k => XS.iloadN X0.here hx rfl (hb hby d5_32) rfl k) ?_
        refine own_pre (T' := s₁) (f' := (mkF m 36 #[iv z] [(.int (1072 : Int32)), (.int z)])) (fun t k => XS.sipush X0.here hx rfl (hb hby d5_33) k) ?_
        by_cases hc6 : z < (1072 : Int32)
        · refine own_pre (T' := s₁) (f' := (mkF m 50 #[iv z] [])) (fun t k => XS.icmpYes X0.here hx rfl (pc0 := 36) (pc' := 50) rfl (hb hby d5_36) rfl (tlt hc6).1 (by decide) (by decide) k) ?_
          refine own_pre (T' := s₁) (f' := (mkF m 51 #[iv z] [(.int z)])) (fun t k => XS.iloadN X0.here hx rfl (hb hby d5_50) rfl k) ?_
          obtain ⟨T7, X7, e7, st7⟩ := own_pure (f := 0) (n := 0) (v := (some (.int (own_b z (65 : Int32) (90 : Int32))))) (own_callS X0 hx hZ e0 (y := (⟨"com/example/kormilo/kormilo/CharacterClassOfPinLaw", "isUpper", "(I)Z"⟩ : MethodName)) hown (hw _ (List.mem_of_getElem? (i := 43) rfl)) (hw _ (List.mem_of_getElem? (i := 44) rfl)) (hw _ (List.mem_of_getElem? (i := 45) rfl)) (hw _ (List.mem_of_getElem? (i := 41) rfl)) (by decide) 0 [(.int z)] [] (own_isUpper l Z a0 hw [] w__VALUES w_CYRILLIC_UPPER w_CYRILLIC_LOWER w_LATIN_UPPER w_LATIN_LOWER w_DIGITS w_SPECIAL w_EMPTY r_ranges_CYRILLIC_UPPER r_ranges_CYRILLIC_LOWER r_ranges_LATIN_UPPER r_ranges_LATIN_LOWER r_ranges_DIGITS r_ranges_SPECIAL k__VALUES k_ranges_CYRILLIC_UPPER k_ranges_CYRILLIC_LOWER k_ranges_LATIN_UPPER k_ranges_LATIN_LOWER k_ranges_DIGITS k_ranges_SPECIAL h0 F0 z) (by decide) (by decide) (by decide) (by decide) (g := (mkF m 51 #[iv z] [(.int z)])) rfl (by rw [hml]; rfl) (lenOf pd_5 rfl) rfl (by show 2 * 0 + _ ≤ _; exact Nat.le_of_eq rfl) (hb hby d5_51))
          refine own_pre (T' := T7) (f' := (mkF m 54 #[iv z] [(.int (own_b z (65 : Int32) (90 : Int32)))])) (fun t k => st7 t k) ?_
          by_cases hc8 : (own_b z (65 : Int32) (90 : Int32)) = (0 : Int32)
          · refine own_pre (T' := T7) (f' := (mkF m 61 #[iv z] [])) (fun t k => XS.ifYes X7.here hx rfl (pc0 := 54) (pc' := 61) rfl (hb hby d5_54) rfl ((if0 _ _).trans (teq hc8).1) (by decide) (by decide) k) ?_
            refine own_pre (T' := T7) (f' := (mkF m 62 #[iv z] [(.int z)])) (fun t k => XS.iloadN X7.here hx rfl (hb hby d5_61) rfl k) ?_
            obtain ⟨T9, X9, e9, st9⟩ := own_pure (f := 0) (n := 0) (v := (some (.int (own_b z (97 : Int32) (122 : Int32))))) (own_callS X7 hx hZ e7 (y := (⟨"com/example/kormilo/kormilo/CharacterClassOfPinLaw", "isLower", "(I)Z"⟩ : MethodName)) hown (hw _ (List.mem_of_getElem? (i := 46) rfl)) (hw _ (List.mem_of_getElem? (i := 47) rfl)) (hw _ (List.mem_of_getElem? (i := 48) rfl)) (hw _ (List.mem_of_getElem? (i := 41) rfl)) (by decide) 0 [(.int z)] [] (own_isLower l Z a0 hw [] w__VALUES w_CYRILLIC_UPPER w_CYRILLIC_LOWER w_LATIN_UPPER w_LATIN_LOWER w_DIGITS w_SPECIAL w_EMPTY r_ranges_CYRILLIC_UPPER r_ranges_CYRILLIC_LOWER r_ranges_LATIN_UPPER r_ranges_LATIN_LOWER r_ranges_DIGITS r_ranges_SPECIAL k__VALUES k_ranges_CYRILLIC_UPPER k_ranges_CYRILLIC_LOWER k_ranges_LATIN_UPPER k_ranges_LATIN_LOWER k_ranges_DIGITS k_ranges_SPECIAL h0 F0 z) (by decide) (by decide) (by decide) (by decide) (g := (mkF m 62 #[iv z] [(.int z)])) rfl (by rw [hml]; rfl) (lenOf pd_5 rfl) rfl (by show 2 * 0 + _ ≤ _; exact Nat.le_of_eq rfl) (hb hby d5_62))
            refine own_pre (T' := T9) (f' := (mkF m 65 #[iv z] [(.int (own_b z (97 : Int32) (122 : Int32)))])) (fun t k => st9 t k) ?_
            by_cases hc10 : (own_b z (97 : Int32) (122 : Int32)) = (0 : Int32)
            · refine own_pre (T' := T9) (f' := (mkF m 72 #[iv z] [])) (fun t k => XS.ifYes X9.here hx rfl (pc0 := 65) (pc' := 72) rfl (hb hby d5_65) rfl ((if0 _ _).trans (teq hc10).1) (by decide) (by decide) k) ?_
              refine own_pre (T' := T9) (f' := (mkF m 73 #[iv z] [(.int z)])) (fun t k => XS.iloadN X9.here hx rfl (hb hby d5_72) rfl k) ?_
              obtain ⟨T11, X11, e11, st11⟩ := own_pure (f := 0) (n := 0) (v := (some (.int (own_b z (48 : Int32) (57 : Int32))))) (own_callS X9 hx hZ e9 (y := (⟨"com/example/kormilo/kormilo/CharacterClassOfPinLaw", "isDigit", "(I)Z"⟩ : MethodName)) hown (hw _ (List.mem_of_getElem? (i := 49) rfl)) (hw _ (List.mem_of_getElem? (i := 50) rfl)) (hw _ (List.mem_of_getElem? (i := 51) rfl)) (hw _ (List.mem_of_getElem? (i := 41) rfl)) (by decide) 0 [(.int z)] [] (own_isDigit l Z a0 hw [] w__VALUES w_CYRILLIC_UPPER w_CYRILLIC_LOWER w_LATIN_UPPER w_LATIN_LOWER w_DIGITS w_SPECIAL w_EMPTY r_ranges_CYRILLIC_UPPER r_ranges_CYRILLIC_LOWER r_ranges_LATIN_UPPER r_ranges_LATIN_LOWER r_ranges_DIGITS r_ranges_SPECIAL k__VALUES k_ranges_CYRILLIC_UPPER k_ranges_CYRILLIC_LOWER k_ranges_LATIN_UPPER k_ranges_LATIN_LOWER k_ranges_DIGITS k_ranges_SPECIAL h0 F0 z) (by decide) (by decide) (by decide) (by decide) (g := (mkF m 73 #[iv z] [(.int z)])) rfl (by rw [hml]; rfl) (lenOf pd_5 rfl) rfl (by show 2 * 0 + _ ≤ _; exact Nat.le_of_eq rfl) (hb hby d5_73))
              refine own_pre (T' := T11) (f' := (mkF m 76 #[iv z] [(.int (own_b z (48 : Int32) (57 : Int32)))])) (fun t k => st11 t k) ?_
              by_cases hc12 : (own_b z (48 : Int32) (57 : Int32)) = (0 : Int32)
              · refine own_pre (T' := T11) (f' := (mkF m 83 #[iv z] [])) (fun t k => XS.ifYes X11.here hx rfl (pc0 := 76) (pc' := 83) rfl (hb hby d5_76) rfl ((if0 _ _).trans (teq hc12).1) (by decide) (by decide) k) ?_
                refine own_pre (T' := T11) (f' := (mkF m 84 #[iv z] [(.int z)])) (fun t k => XS.iloadN X11.here hx rfl (hb hby d5_83) rfl k) ?_
                refine own_pre (T' := T11) (f' := (mkF m 86 #[iv z] [(.int (33 : Int32)), (.int z)])) (fun t k => XS.bipush X11.here hx rfl (hb hby d5_84) k) ?_
                by_cases hc13 : z < (33 : Int32)
                · refine own_pre (T' := T11) (f' := (mkF m 99 #[iv z] [])) (fun t k => XS.icmpYes X11.here hx rfl (pc0 := 86) (pc' := 99) rfl (hb hby d5_86) rfl (tlt hc13).1 (by decide) (by decide) k) ?_
                  refine own_pre (T' := T11) (f' := (mkF m 100 #[iv z] [.null])) (fun t k => XS.aconstNull X11.here hx rfl (hb hby d5_99) k) ?_
                  exact own_retR X11 hx hlk hret (hb hby d5_100) rfl rfl rfl (⟨by rw [← hex]; simp [own_exp, hc1, hc3, hc4, hc6, hc8, hc10, hc12, hc13], e11, rfl⟩) (by decide) (by decide)
                · refine own_pre (T' := T11) (f' := (mkF m 89 #[iv z] [])) (fun t k => XS.icmpNo X11.here hx rfl (hb hby d5_86) rfl (flt hc13).1 k) ?_
                  refine own_pre (T' := T11) (f' := (mkF m 90 #[iv z] [(.int z)])) (fun t k => XS.iloadN X11.here hx rfl (hb hby d5_89) rfl k) ?_
                  refine own_pre (T' := T11) (f' := (mkF m 92 #[iv z] [(.int (126 : Int32)), (.int z)])) (fun t k => XS.bipush X11.here hx rfl (hb hby d5_90) k) ?_
                  by_cases hc14 : (126 : Int32) < z
                  · refine own_pre (T' := T11) (f' := (mkF m 99 #[iv z] [])) (fun t k => XS.icmpYes X11.here hx rfl (pc0 := 92) (pc' := 99) rfl (hb hby d5_92) rfl (tlt hc14).2.2.1 (by decide) (by decide) k) ?_
                    refine own_pre (T' := T11) (f' := (mkF m 100 #[iv z] [.null])) (fun t k => XS.aconstNull X11.here hx rfl (hb hby d5_99) k) ?_
                    exact own_retR X11 hx hlk hret (hb hby d5_100) rfl rfl rfl (⟨by rw [← hex]; simp [own_exp, hc1, hc3, hc4, hc6, hc8, hc10, hc12, hc13, hc14], e11, rfl⟩) (by decide) (by decide)
                  · refine own_pre (T' := T11) (f' := (mkF m 95 #[iv z] [])) (fun t k => XS.icmpNo X11.here hx rfl (hb hby d5_92) rfl (flt hc14).2.2.1 k) ?_
                    obtain ⟨T15, X15, e15, st15⟩ := getS2 X11 hx hZ hown (host := "") (Or.inl (hw _ (List.mem_of_getElem? (i := 72) rfl))) Via.refl e11 S_SPECIAL (g := (mkF m 95 #[iv z] [])) rfl (hb hby d5_95)
                    refine own_pre (T' := T15) (f' := (mkF m 98 #[iv z] [(.ref w_SPECIAL)])) (fun t k => st15 t k) ?_
                    exact own_retR X15 hx hlk hret (hb hby d5_98) rfl rfl rfl (⟨by rw [← hex]; simp [own_exp, hc1, hc3, hc4, hc6, hc8, hc10, hc12, hc13, hc14], e15, rfl⟩) (by decide) (by decide)
              · refine own_pre (T' := T11) (f' := (mkF m 79 #[iv z] [])) (fun t k => XS.ifNo X11.here hx rfl (hb hby d5_76) rfl ((if0 _ _).trans (feq hc12).1) k) ?_
                obtain ⟨T16, X16, e16, st16⟩ := getS2 X11 hx hZ hown (host := "") (Or.inl (hw _ (List.mem_of_getElem? (i := 75) rfl))) Via.refl e11 S_DIGITS (g := (mkF m 79 #[iv z] [])) rfl (hb hby d5_79)
                refine own_pre (T' := T16) (f' := (mkF m 82 #[iv z] [(.ref w_DIGITS)])) (fun t k => st16 t k) ?_
                exact own_retR X16 hx hlk hret (hb hby d5_82) rfl rfl rfl (⟨by rw [← hex]; simp [own_exp, hc1, hc3, hc4, hc6, hc8, hc10, hc12], e16, rfl⟩) (by decide) (by decide)
            · refine own_pre (T' := T9) (f' := (mkF m 68 #[iv z] [])) (fun t k => XS.ifNo X9.here hx rfl (hb hby d5_65) rfl ((if0 _ _).trans (feq hc10).1) k) ?_
              obtain ⟨T17, X17, e17, st17⟩ := getS2 X9 hx hZ hown (host := "") (Or.inl (hw _ (List.mem_of_getElem? (i := 74) rfl))) Via.refl e9 S_LATIN_LOWER (g := (mkF m 68 #[iv z] [])) rfl (hb hby d5_68)
              refine own_pre (T' := T17) (f' := (mkF m 71 #[iv z] [(.ref w_LATIN_LOWER)])) (fun t k => st17 t k) ?_
              exact own_retR X17 hx hlk hret (hb hby d5_71) rfl rfl rfl (⟨by rw [← hex]; simp [own_exp, hc1, hc3, hc4, hc6, hc8, hc10], e17, rfl⟩) (by decide) (by decide)
          · refine own_pre (T' := T7) (f' := (mkF m 57 #[iv z] [])) (fun t k => XS.ifNo X7.here hx rfl (hb hby d5_54) rfl ((if0 _ _).trans (feq hc8).1) k) ?_
            obtain ⟨T18, X18, e18, st18⟩ := getS2 X7 hx hZ hown (host := "") (Or.inl (hw _ (List.mem_of_getElem? (i := 71) rfl))) Via.refl e7 S_LATIN_UPPER (g := (mkF m 57 #[iv z] [])) rfl (hb hby d5_57)
            refine own_pre (T' := T18) (f' := (mkF m 60 #[iv z] [(.ref w_LATIN_UPPER)])) (fun t k => st18 t k) ?_
            exact own_retR X18 hx hlk hret (hb hby d5_60) rfl rfl rfl (⟨by rw [← hex]; simp [own_exp, hc1, hc3, hc4, hc6, hc8], e18, rfl⟩) (by decide) (by decide)
        · refine own_pre (T' := s₁) (f' := (mkF m 39 #[iv z] [])) (fun t k => XS.icmpNo X0.here hx rfl (hb hby d5_36) rfl (flt hc6).1 k) ?_
          refine own_pre (T' := s₁) (f' := (mkF m 40 #[iv z] [(.int z)])) (fun t k => XS.iloadN X0.here hx rfl (hb hby d5_39) rfl k) ?_
          refine own_pre (T' := s₁) (f' := (mkF m 43 #[iv z] [(.int (1103 : Int32)), (.int z)])) (fun t k => XS.sipush X0.here hx rfl (hb hby d5_40) k) ?_
          by_cases hc19 : (1103 : Int32) < z
          · refine own_pre (T' := s₁) (f' := (mkF m 50 #[iv z] [])) (fun t k => XS.icmpYes X0.here hx rfl (pc0 := 43) (pc' := 50) rfl (hb hby d5_43) rfl (tlt hc19).2.2.1 (by decide) (by decide) k) ?_
            refine own_pre (T' := s₁) (f' := (mkF m 51 #[iv z] [(.int z)])) (fun t k => XS.iloadN X0.here hx rfl (hb hby d5_50) rfl k) ?_
            obtain ⟨T20, X20, e20, st20⟩ := own_pure (f := 0) (n := 0) (v := (some (.int (own_b z (65 : Int32) (90 : Int32))))) (own_callS X0 hx hZ e0 (y := (⟨"com/example/kormilo/kormilo/CharacterClassOfPinLaw", "isUpper", "(I)Z"⟩ : MethodName)) hown (hw _ (List.mem_of_getElem? (i := 43) rfl)) (hw _ (List.mem_of_getElem? (i := 44) rfl)) (hw _ (List.mem_of_getElem? (i := 45) rfl)) (hw _ (List.mem_of_getElem? (i := 41) rfl)) (by decide) 0 [(.int z)] [] (own_isUpper l Z a0 hw [] w__VALUES w_CYRILLIC_UPPER w_CYRILLIC_LOWER w_LATIN_UPPER w_LATIN_LOWER w_DIGITS w_SPECIAL w_EMPTY r_ranges_CYRILLIC_UPPER r_ranges_CYRILLIC_LOWER r_ranges_LATIN_UPPER r_ranges_LATIN_LOWER r_ranges_DIGITS r_ranges_SPECIAL k__VALUES k_ranges_CYRILLIC_UPPER k_ranges_CYRILLIC_LOWER k_ranges_LATIN_UPPER k_ranges_LATIN_LOWER k_ranges_DIGITS k_ranges_SPECIAL h0 F0 z) (by decide) (by decide) (by decide) (by decide) (g := (mkF m 51 #[iv z] [(.int z)])) rfl (by rw [hml]; rfl) (lenOf pd_5 rfl) rfl (by show 2 * 0 + _ ≤ _; exact Nat.le_of_eq rfl) (hb hby d5_51))
            refine own_pre (T' := T20) (f' := (mkF m 54 #[iv z] [(.int (own_b z (65 : Int32) (90 : Int32)))])) (fun t k => st20 t k) ?_
            by_cases hc21 : (own_b z (65 : Int32) (90 : Int32)) = (0 : Int32)
            · refine own_pre (T' := T20) (f' := (mkF m 61 #[iv z] [])) (fun t k => XS.ifYes X20.here hx rfl (pc0 := 54) (pc' := 61) rfl (hb hby d5_54) rfl ((if0 _ _).trans (teq hc21).1) (by decide) (by decide) k) ?_
              refine own_pre (T' := T20) (f' := (mkF m 62 #[iv z] [(.int z)])) (fun t k => XS.iloadN X20.here hx rfl (hb hby d5_61) rfl k) ?_
              obtain ⟨T22, X22, e22, st22⟩ := own_pure (f := 0) (n := 0) (v := (some (.int (own_b z (97 : Int32) (122 : Int32))))) (own_callS X20 hx hZ e20 (y := (⟨"com/example/kormilo/kormilo/CharacterClassOfPinLaw", "isLower", "(I)Z"⟩ : MethodName)) hown (hw _ (List.mem_of_getElem? (i := 46) rfl)) (hw _ (List.mem_of_getElem? (i := 47) rfl)) (hw _ (List.mem_of_getElem? (i := 48) rfl)) (hw _ (List.mem_of_getElem? (i := 41) rfl)) (by decide) 0 [(.int z)] [] (own_isLower l Z a0 hw [] w__VALUES w_CYRILLIC_UPPER w_CYRILLIC_LOWER w_LATIN_UPPER w_LATIN_LOWER w_DIGITS w_SPECIAL w_EMPTY r_ranges_CYRILLIC_UPPER r_ranges_CYRILLIC_LOWER r_ranges_LATIN_UPPER r_ranges_LATIN_LOWER r_ranges_DIGITS r_ranges_SPECIAL k__VALUES k_ranges_CYRILLIC_UPPER k_ranges_CYRILLIC_LOWER k_ranges_LATIN_UPPER k_ranges_LATIN_LOWER k_ranges_DIGITS k_ranges_SPECIAL h0 F0 z) (by decide) (by decide) (by decide) (by decide) (g := (mkF m 62 #[iv z] [(.int z)])) rfl (by rw [hml]; rfl) (lenOf pd_5 rfl) rfl (by show 2 * 0 + _ ≤ _; exact Nat.le_of_eq rfl) (hb hby d5_62))
              refine own_pre (T' := T22) (f' := (mkF m 65 #[iv z] [(.int (own_b z (97 : Int32) (122 : Int32)))])) (fun t k => st22 t k) ?_
              by_cases hc23 : (own_b z (97 : Int32) (122 : Int32)) = (0 : Int32)
              · refine own_pre (T' := T22) (f' := (mkF m 72 #[iv z] [])) (fun t k => XS.ifYes X22.here hx rfl (pc0 := 65) (pc' := 72) rfl (hb hby d5_65) rfl ((if0 _ _).trans (teq hc23).1) (by decide) (by decide) k) ?_
                refine own_pre (T' := T22) (f' := (mkF m 73 #[iv z] [(.int z)])) (fun t k => XS.iloadN X22.here hx rfl (hb hby d5_72) rfl k) ?_
                obtain ⟨T24, X24, e24, st24⟩ := own_pure (f := 0) (n := 0) (v := (some (.int (own_b z (48 : Int32) (57 : Int32))))) (own_callS X22 hx hZ e22 (y := (⟨"com/example/kormilo/kormilo/CharacterClassOfPinLaw", "isDigit", "(I)Z"⟩ : MethodName)) hown (hw _ (List.mem_of_getElem? (i := 49) rfl)) (hw _ (List.mem_of_getElem? (i := 50) rfl)) (hw _ (List.mem_of_getElem? (i := 51) rfl)) (hw _ (List.mem_of_getElem? (i := 41) rfl)) (by decide) 0 [(.int z)] [] (own_isDigit l Z a0 hw [] w__VALUES w_CYRILLIC_UPPER w_CYRILLIC_LOWER w_LATIN_UPPER w_LATIN_LOWER w_DIGITS w_SPECIAL w_EMPTY r_ranges_CYRILLIC_UPPER r_ranges_CYRILLIC_LOWER r_ranges_LATIN_UPPER r_ranges_LATIN_LOWER r_ranges_DIGITS r_ranges_SPECIAL k__VALUES k_ranges_CYRILLIC_UPPER k_ranges_CYRILLIC_LOWER k_ranges_LATIN_UPPER k_ranges_LATIN_LOWER k_ranges_DIGITS k_ranges_SPECIAL h0 F0 z) (by decide) (by decide) (by decide) (by decide) (g := (mkF m 73 #[iv z] [(.int z)])) rfl (by rw [hml]; rfl) (lenOf pd_5 rfl) rfl (by show 2 * 0 + _ ≤ _; exact Nat.le_of_eq rfl) (hb hby d5_73))
                refine own_pre (T' := T24) (f' := (mkF m 76 #[iv z] [(.int (own_b z (48 : Int32) (57 : Int32)))])) (fun t k => st24 t k) ?_
                by_cases hc25 : (own_b z (48 : Int32) (57 : Int32)) = (0 : Int32)
                · refine own_pre (T' := T24) (f' := (mkF m 83 #[iv z] [])) (fun t k => XS.ifYes X24.here hx rfl (pc0 := 76) (pc' := 83) rfl (hb hby d5_76) rfl ((if0 _ _).trans (teq hc25).1) (by decide) (by decide) k) ?_
                  refine own_pre (T' := T24) (f' := (mkF m 84 #[iv z] [(.int z)])) (fun t k => XS.iloadN X24.here hx rfl (hb hby d5_83) rfl k) ?_
                  refine own_pre (T' := T24) (f' := (mkF m 86 #[iv z] [(.int (33 : Int32)), (.int z)])) (fun t k => XS.bipush X24.here hx rfl (hb hby d5_84) k) ?_
                  by_cases hc26 : z < (33 : Int32)
                  · refine own_pre (T' := T24) (f' := (mkF m 99 #[iv z] [])) (fun t k => XS.icmpYes X24.here hx rfl (pc0 := 86) (pc' := 99) rfl (hb hby d5_86) rfl (tlt hc26).1 (by decide) (by decide) k) ?_
                    refine own_pre (T' := T24) (f' := (mkF m 100 #[iv z] [.null])) (fun t k => XS.aconstNull X24.here hx rfl (hb hby d5_99) k) ?_
                    exact own_retR X24 hx hlk hret (hb hby d5_100) rfl rfl rfl (⟨by rw [← hex]; simp [own_exp, hc1, hc3, hc4, hc6, hc19, hc21, hc23, hc25, hc26], e24, rfl⟩) (by decide) (by decide)
                  · refine own_pre (T' := T24) (f' := (mkF m 89 #[iv z] [])) (fun t k => XS.icmpNo X24.here hx rfl (hb hby d5_86) rfl (flt hc26).1 k) ?_
                    refine own_pre (T' := T24) (f' := (mkF m 90 #[iv z] [(.int z)])) (fun t k => XS.iloadN X24.here hx rfl (hb hby d5_89) rfl k) ?_
                    refine own_pre (T' := T24) (f' := (mkF m 92 #[iv z] [(.int (126 : Int32)), (.int z)])) (fun t k => XS.bipush X24.here hx rfl (hb hby d5_90) k) ?_
                    by_cases hc27 : (126 : Int32) < z
                    · refine own_pre (T' := T24) (f' := (mkF m 99 #[iv z] [])) (fun t k => XS.icmpYes X24.here hx rfl (pc0 := 92) (pc' := 99) rfl (hb hby d5_92) rfl (tlt hc27).2.2.1 (by decide) (by decide) k) ?_
                      refine own_pre (T' := T24) (f' := (mkF m 100 #[iv z] [.null])) (fun t k => XS.aconstNull X24.here hx rfl (hb hby d5_99) k) ?_
                      exact own_retR X24 hx hlk hret (hb hby d5_100) rfl rfl rfl (⟨by rw [← hex]; simp [own_exp, hc1, hc3, hc4, hc6, hc19, hc21, hc23, hc25, hc26, hc27], e24, rfl⟩) (by decide) (by decide)
                    · refine own_pre (T' := T24) (f' := (mkF m 95 #[iv z] [])) (fun t k => XS.icmpNo X24.here hx rfl (hb hby d5_92) rfl (flt hc27).2.2.1 k) ?_
                      obtain ⟨T28, X28, e28, st28⟩ := getS2 X24 hx hZ hown (host := "") (Or.inl (hw _ (List.mem_of_getElem? (i := 72) rfl))) Via.refl e24 S_SPECIAL (g := (mkF m 95 #[iv z] [])) rfl (hb hby d5_95)
                      refine own_pre (T' := T28) (f' := (mkF m 98 #[iv z] [(.ref w_SPECIAL)])) (fun t k => st28 t k) ?_
                      exact own_retR X28 hx hlk hret (hb hby d5_98) rfl rfl rfl (⟨by rw [← hex]; simp [own_exp, hc1, hc3, hc4, hc6, hc19, hc21, hc23, hc25, hc26, hc27], e28, rfl⟩) (by decide) (by decide)
                · refine own_pre (T' := T24) (f' := (mkF m 79 #[iv z] [])) (fun t k => XS.ifNo X24.here hx rfl (hb hby d5_76) rfl ((if0 _ _).trans (feq hc25).1) k) ?_
                  obtain ⟨T29, X29, e29, st29⟩ := getS2 X24 hx hZ hown (host := "") (Or.inl (hw _ (List.mem_of_getElem? (i := 75) rfl))) Via.refl e24 S_DIGITS (g := (mkF m 79 #[iv z] [])) rfl (hb hby d5_79)
                  refine own_pre (T' := T29) (f' := (mkF m 82 #[iv z] [(.ref w_DIGITS)])) (fun t k => st29 t k) ?_
                  exact own_retR X29 hx hlk hret (hb hby d5_82) rfl rfl rfl (⟨by rw [← hex]; simp [own_exp, hc1, hc3, hc4, hc6, hc19, hc21, hc23, hc25], e29, rfl⟩) (by decide) (by decide)
              · refine own_pre (T' := T22) (f' := (mkF m 68 #[iv z] [])) (fun t k => XS.ifNo X22.here hx rfl (hb hby d5_65) rfl ((if0 _ _).trans (feq hc23).1) k) ?_
                obtain ⟨T30, X30, e30, st30⟩ := getS2 X22 hx hZ hown (host := "") (Or.inl (hw _ (List.mem_of_getElem? (i := 74) rfl))) Via.refl e22 S_LATIN_LOWER (g := (mkF m 68 #[iv z] [])) rfl (hb hby d5_68)
                refine own_pre (T' := T30) (f' := (mkF m 71 #[iv z] [(.ref w_LATIN_LOWER)])) (fun t k => st30 t k) ?_
                exact own_retR X30 hx hlk hret (hb hby d5_71) rfl rfl rfl (⟨by rw [← hex]; simp [own_exp, hc1, hc3, hc4, hc6, hc19, hc21, hc23], e30, rfl⟩) (by decide) (by decide)
            · refine own_pre (T' := T20) (f' := (mkF m 57 #[iv z] [])) (fun t k => XS.ifNo X20.here hx rfl (hb hby d5_54) rfl ((if0 _ _).trans (feq hc21).1) k) ?_
              obtain ⟨T31, X31, e31, st31⟩ := getS2 X20 hx hZ hown (host := "") (Or.inl (hw _ (List.mem_of_getElem? (i := 71) rfl))) Via.refl e20 S_LATIN_UPPER (g := (mkF m 57 #[iv z] [])) rfl (hb hby d5_57)
              refine own_pre (T' := T31) (f' := (mkF m 60 #[iv z] [(.ref w_LATIN_UPPER)])) (fun t k => st31 t k) ?_
              exact own_retR X31 hx hlk hret (hb hby d5_60) rfl rfl rfl (⟨by rw [← hex]; simp [own_exp, hc1, hc3, hc4, hc6, hc19, hc21], e31, rfl⟩) (by decide) (by decide)
          · refine own_pre (T' := s₁) (f' := (mkF m 46 #[iv z] [])) (fun t k => XS.icmpNo X0.here hx rfl (hb hby d5_43) rfl (flt hc19).2.2.1 k) ?_
            obtain ⟨T32, X32, e32, st32⟩ := getS2 X0 hx hZ hown (host := "") (Or.inl (hw _ (List.mem_of_getElem? (i := 73) rfl))) Via.refl e0 S_CYRILLIC_LOWER (g := (mkF m 46 #[iv z] [])) rfl (hb hby d5_46)
            refine own_pre (T' := T32) (f' := (mkF m 49 #[iv z] [(.ref w_CYRILLIC_LOWER)])) (fun t k => st32 t k) ?_
            exact own_retR X32 hx hlk hret (hb hby d5_49) rfl rfl rfl (⟨by rw [← hex]; simp [own_exp, hc1, hc3, hc4, hc6, hc19], e32, rfl⟩) (by decide) (by decide)
    · refine own_pre (T' := s₁) (f' := (mkF m 14 #[iv z] [])) (fun t k => XS.icmpNo X0.here hx rfl (hb hby d5_11) rfl (flt hc3).1 k) ?_
      refine own_pre (T' := s₁) (f' := (mkF m 15 #[iv z] [(.int z)])) (fun t k => XS.iloadN X0.here hx rfl (hb hby d5_14) rfl k) ?_
      refine own_pre (T' := s₁) (f' := (mkF m 18 #[iv z] [(.int (1071 : Int32)), (.int z)])) (fun t k => XS.sipush X0.here hx rfl (hb hby d5_15) k) ?_
      by_cases hc33 : (1071 : Int32) < z
      · refine own_pre (T' := s₁) (f' := (mkF m 25 #[iv z] [])) (fun t k => XS.icmpYes X0.here hx rfl (pc0 := 18) (pc' := 25) rfl (hb hby d5_18) rfl (tlt hc33).2.2.1 (by decide) (by decide) k) ?_
        refine own_pre (T' := s₁) (f' := (mkF m 26 #[iv z] [(.int z)])) (fun t k => XS.iloadN X0.here hx rfl (hb hby d5_25) rfl k) ?_
        refine own_pre (T' := s₁) (f' := (mkF m 29 #[iv z] [(.int (1105 : Int32)), (.int z)])) (fun t k => XS.sipush X0.here hx rfl (hb hby d5_26) k) ?_
        by_cases hc34 : z = (1105 : Int32)
        · refine own_pre (T' := s₁) (f' := (mkF m 46 #[iv z] [])) (fun t k => XS.icmpYes X0.here hx rfl (pc0 := 29) (pc' := 46) rfl (hb hby d5_29) rfl (teq hc34).1 (by decide) (by decide) k) ?_
          obtain ⟨T35, X35, e35, st35⟩ := getS2 X0 hx hZ hown (host := "") (Or.inl (hw _ (List.mem_of_getElem? (i := 73) rfl))) Via.refl e0 S_CYRILLIC_LOWER (g := (mkF m 46 #[iv z] [])) rfl (hb hby d5_46)
          refine own_pre (T' := T35) (f' := (mkF m 49 #[iv z] [(.ref w_CYRILLIC_LOWER)])) (fun t k => st35 t k) ?_
          exact own_retR X35 hx hlk hret (hb hby d5_49) rfl rfl rfl (⟨by rw [← hex]; simp [own_exp, hc1, hc3, hc33, hc34], e35, rfl⟩) (by decide) (by decide)
        · refine own_pre (T' := s₁) (f' := (mkF m 32 #[iv z] [])) (fun t k => XS.icmpNo X0.here hx rfl (hb hby d5_29) rfl (feq hc34).1 k) ?_
          refine own_pre (T' := s₁) (f' := (mkF m 33 #[iv z] [(.int z)])) (fun t k => XS.iloadN X0.here hx rfl (hb hby d5_32) rfl k) ?_
          refine own_pre (T' := s₁) (f' := (mkF m 36 #[iv z] [(.int (1072 : Int32)), (.int z)])) (fun t k => XS.sipush X0.here hx rfl (hb hby d5_33) k) ?_
          by_cases hc36 : z < (1072 : Int32)
          · refine own_pre (T' := s₁) (f' := (mkF m 50 #[iv z] [])) (fun t k => XS.icmpYes X0.here hx rfl (pc0 := 36) (pc' := 50) rfl (hb hby d5_36) rfl (tlt hc36).1 (by decide) (by decide) k) ?_
            refine own_pre (T' := s₁) (f' := (mkF m 51 #[iv z] [(.int z)])) (fun t k => XS.iloadN X0.here hx rfl (hb hby d5_50) rfl k) ?_
            obtain ⟨T37, X37, e37, st37⟩ := own_pure (f := 0) (n := 0) (v := (some (.int (own_b z (65 : Int32) (90 : Int32))))) (own_callS X0 hx hZ e0 (y := (⟨"com/example/kormilo/kormilo/CharacterClassOfPinLaw", "isUpper", "(I)Z"⟩ : MethodName)) hown (hw _ (List.mem_of_getElem? (i := 43) rfl)) (hw _ (List.mem_of_getElem? (i := 44) rfl)) (hw _ (List.mem_of_getElem? (i := 45) rfl)) (hw _ (List.mem_of_getElem? (i := 41) rfl)) (by decide) 0 [(.int z)] [] (own_isUpper l Z a0 hw [] w__VALUES w_CYRILLIC_UPPER w_CYRILLIC_LOWER w_LATIN_UPPER w_LATIN_LOWER w_DIGITS w_SPECIAL w_EMPTY r_ranges_CYRILLIC_UPPER r_ranges_CYRILLIC_LOWER r_ranges_LATIN_UPPER r_ranges_LATIN_LOWER r_ranges_DIGITS r_ranges_SPECIAL k__VALUES k_ranges_CYRILLIC_UPPER k_ranges_CYRILLIC_LOWER k_ranges_LATIN_UPPER k_ranges_LATIN_LOWER k_ranges_DIGITS k_ranges_SPECIAL h0 F0 z) (by decide) (by decide) (by decide) (by decide) (g := (mkF m 51 #[iv z] [(.int z)])) rfl (by rw [hml]; rfl) (lenOf pd_5 rfl) rfl (by show 2 * 0 + _ ≤ _; exact Nat.le_of_eq rfl) (hb hby d5_51))
            refine own_pre (T' := T37) (f' := (mkF m 54 #[iv z] [(.int (own_b z (65 : Int32) (90 : Int32)))])) (fun t k => st37 t k) ?_
            by_cases hc38 : (own_b z (65 : Int32) (90 : Int32)) = (0 : Int32)
            · refine own_pre (T' := T37) (f' := (mkF m 61 #[iv z] [])) (fun t k => XS.ifYes X37.here hx rfl (pc0 := 54) (pc' := 61) rfl (hb hby d5_54) rfl ((if0 _ _).trans (teq hc38).1) (by decide) (by decide) k) ?_
              refine own_pre (T' := T37) (f' := (mkF m 62 #[iv z] [(.int z)])) (fun t k => XS.iloadN X37.here hx rfl (hb hby d5_61) rfl k) ?_
              obtain ⟨T39, X39, e39, st39⟩ := own_pure (f := 0) (n := 0) (v := (some (.int (own_b z (97 : Int32) (122 : Int32))))) (own_callS X37 hx hZ e37 (y := (⟨"com/example/kormilo/kormilo/CharacterClassOfPinLaw", "isLower", "(I)Z"⟩ : MethodName)) hown (hw _ (List.mem_of_getElem? (i := 46) rfl)) (hw _ (List.mem_of_getElem? (i := 47) rfl)) (hw _ (List.mem_of_getElem? (i := 48) rfl)) (hw _ (List.mem_of_getElem? (i := 41) rfl)) (by decide) 0 [(.int z)] [] (own_isLower l Z a0 hw [] w__VALUES w_CYRILLIC_UPPER w_CYRILLIC_LOWER w_LATIN_UPPER w_LATIN_LOWER w_DIGITS w_SPECIAL w_EMPTY r_ranges_CYRILLIC_UPPER r_ranges_CYRILLIC_LOWER r_ranges_LATIN_UPPER r_ranges_LATIN_LOWER r_ranges_DIGITS r_ranges_SPECIAL k__VALUES k_ranges_CYRILLIC_UPPER k_ranges_CYRILLIC_LOWER k_ranges_LATIN_UPPER k_ranges_LATIN_LOWER k_ranges_DIGITS k_ranges_SPECIAL h0 F0 z) (by decide) (by decide) (by decide) (by decide) (g := (mkF m 62 #[iv z] [(.int z)])) rfl (by rw [hml]; rfl) (lenOf pd_5 rfl) rfl (by show 2 * 0 + _ ≤ _; exact Nat.le_of_eq rfl) (hb hby d5_62))
              refine own_pre (T' := T39) (f' := (mkF m 65 #[iv z] [(.int (own_b z (97 : Int32) (122 : Int32)))])) (fun t k => st39 t k) ?_
              by_cases hc40 : (own_b z (97 : Int32) (122 : Int32)) = (0 : Int32)
              · refine own_pre (T' := T39) (f' := (mkF m 72 #[iv z] [])) (fun t k => XS.ifYes X39.here hx rfl (pc0 := 65) (pc' := 72) rfl (hb hby d5_65) rfl ((if0 _ _).trans (teq hc40).1) (by decide) (by decide) k) ?_
                refine own_pre (T' := T39) (f' := (mkF m 73 #[iv z] [(.int z)])) (fun t k => XS.iloadN X39.here hx rfl (hb hby d5_72) rfl k) ?_
                obtain ⟨T41, X41, e41, st41⟩ := own_pure (f := 0) (n := 0) (v := (some (.int (own_b z (48 : Int32) (57 : Int32))))) (own_callS X39 hx hZ e39 (y := (⟨"com/example/kormilo/kormilo/CharacterClassOfPinLaw", "isDigit", "(I)Z"⟩ : MethodName)) hown (hw _ (List.mem_of_getElem? (i := 49) rfl)) (hw _ (List.mem_of_getElem? (i := 50) rfl)) (hw _ (List.mem_of_getElem? (i := 51) rfl)) (hw _ (List.mem_of_getElem? (i := 41) rfl)) (by decide) 0 [(.int z)] [] (own_isDigit l Z a0 hw [] w__VALUES w_CYRILLIC_UPPER w_CYRILLIC_LOWER w_LATIN_UPPER w_LATIN_LOWER w_DIGITS w_SPECIAL w_EMPTY r_ranges_CYRILLIC_UPPER r_ranges_CYRILLIC_LOWER r_ranges_LATIN_UPPER r_ranges_LATIN_LOWER r_ranges_DIGITS r_ranges_SPECIAL k__VALUES k_ranges_CYRILLIC_UPPER k_ranges_CYRILLIC_LOWER k_ranges_LATIN_UPPER k_ranges_LATIN_LOWER k_ranges_DIGITS k_ranges_SPECIAL h0 F0 z) (by decide) (by decide) (by decide) (by decide) (g := (mkF m 73 #[iv z] [(.int z)])) rfl (by rw [hml]; rfl) (lenOf pd_5 rfl) rfl (by show 2 * 0 + _ ≤ _; exact Nat.le_of_eq rfl) (hb hby d5_73))
                refine own_pre (T' := T41) (f' := (mkF m 76 #[iv z] [(.int (own_b z (48 : Int32) (57 : Int32)))])) (fun t k => st41 t k) ?_
                by_cases hc42 : (own_b z (48 : Int32) (57 : Int32)) = (0 : Int32)
                · refine own_pre (T' := T41) (f' := (mkF m 83 #[iv z] [])) (fun t k => XS.ifYes X41.here hx rfl (pc0 := 76) (pc' := 83) rfl (hb hby d5_76) rfl ((if0 _ _).trans (teq hc42).1) (by decide) (by decide) k) ?_
                  refine own_pre (T' := T41) (f' := (mkF m 84 #[iv z] [(.int z)])) (fun t k => XS.iloadN X41.here hx rfl (hb hby d5_83) rfl k) ?_
                  refine own_pre (T' := T41) (f' := (mkF m 86 #[iv z] [(.int (33 : Int32)), (.int z)])) (fun t k => XS.bipush X41.here hx rfl (hb hby d5_84) k) ?_
                  by_cases hc43 : z < (33 : Int32)
                  · refine own_pre (T' := T41) (f' := (mkF m 99 #[iv z] [])) (fun t k => XS.icmpYes X41.here hx rfl (pc0 := 86) (pc' := 99) rfl (hb hby d5_86) rfl (tlt hc43).1 (by decide) (by decide) k) ?_
                    refine own_pre (T' := T41) (f' := (mkF m 100 #[iv z] [.null])) (fun t k => XS.aconstNull X41.here hx rfl (hb hby d5_99) k) ?_
                    exact own_retR X41 hx hlk hret (hb hby d5_100) rfl rfl rfl (⟨by rw [← hex]; simp [own_exp, hc1, hc3, hc33, hc34, hc36, hc38, hc40, hc42, hc43], e41, rfl⟩) (by decide) (by decide)
                  · refine own_pre (T' := T41) (f' := (mkF m 89 #[iv z] [])) (fun t k => XS.icmpNo X41.here hx rfl (hb hby d5_86) rfl (flt hc43).1 k) ?_
                    refine own_pre (T' := T41) (f' := (mkF m 90 #[iv z] [(.int z)])) (fun t k => XS.iloadN X41.here hx rfl (hb hby d5_89) rfl k) ?_
                    refine own_pre (T' := T41) (f' := (mkF m 92 #[iv z] [(.int (126 : Int32)), (.int z)])) (fun t k => XS.bipush X41.here hx rfl (hb hby d5_90) k) ?_
                    by_cases hc44 : (126 : Int32) < z
                    · refine own_pre (T' := T41) (f' := (mkF m 99 #[iv z] [])) (fun t k => XS.icmpYes X41.here hx rfl (pc0 := 92) (pc' := 99) rfl (hb hby d5_92) rfl (tlt hc44).2.2.1 (by decide) (by decide) k) ?_
                      refine own_pre (T' := T41) (f' := (mkF m 100 #[iv z] [.null])) (fun t k => XS.aconstNull X41.here hx rfl (hb hby d5_99) k) ?_
                      exact own_retR X41 hx hlk hret (hb hby d5_100) rfl rfl rfl (⟨by rw [← hex]; simp [own_exp, hc1, hc3, hc33, hc34, hc36, hc38, hc40, hc42, hc43, hc44], e41, rfl⟩) (by decide) (by decide)
                    · refine own_pre (T' := T41) (f' := (mkF m 95 #[iv z] [])) (fun t k => XS.icmpNo X41.here hx rfl (hb hby d5_92) rfl (flt hc44).2.2.1 k) ?_
                      obtain ⟨T45, X45, e45, st45⟩ := getS2 X41 hx hZ hown (host := "") (Or.inl (hw _ (List.mem_of_getElem? (i := 72) rfl))) Via.refl e41 S_SPECIAL (g := (mkF m 95 #[iv z] [])) rfl (hb hby d5_95)
                      refine own_pre (T' := T45) (f' := (mkF m 98 #[iv z] [(.ref w_SPECIAL)])) (fun t k => st45 t k) ?_
                      exact own_retR X45 hx hlk hret (hb hby d5_98) rfl rfl rfl (⟨by rw [← hex]; simp [own_exp, hc1, hc3, hc33, hc34, hc36, hc38, hc40, hc42, hc43, hc44], e45, rfl⟩) (by decide) (by decide)
                · refine own_pre (T' := T41) (f' := (mkF m 79 #[iv z] [])) (fun t k => XS.ifNo X41.here hx rfl (hb hby d5_76) rfl ((if0 _ _).trans (feq hc42).1) k) ?_
                  obtain ⟨T46, X46, e46, st46⟩ := getS2 X41 hx hZ hown (host := "") (Or.inl (hw _ (List.mem_of_getElem? (i := 75) rfl))) Via.refl e41 S_DIGITS (g := (mkF m 79 #[iv z] [])) rfl (hb hby d5_79)
                  refine own_pre (T' := T46) (f' := (mkF m 82 #[iv z] [(.ref w_DIGITS)])) (fun t k => st46 t k) ?_
                  exact own_retR X46 hx hlk hret (hb hby d5_82) rfl rfl rfl (⟨by rw [← hex]; simp [own_exp, hc1, hc3, hc33, hc34, hc36, hc38, hc40, hc42], e46, rfl⟩) (by decide) (by decide)
              · refine own_pre (T' := T39) (f' := (mkF m 68 #[iv z] [])) (fun t k => XS.ifNo X39.here hx rfl (hb hby d5_65) rfl ((if0 _ _).trans (feq hc40).1) k) ?_
                obtain ⟨T47, X47, e47, st47⟩ := getS2 X39 hx hZ hown (host := "") (Or.inl (hw _ (List.mem_of_getElem? (i := 74) rfl))) Via.refl e39 S_LATIN_LOWER (g := (mkF m 68 #[iv z] [])) rfl (hb hby d5_68)
                refine own_pre (T' := T47) (f' := (mkF m 71 #[iv z] [(.ref w_LATIN_LOWER)])) (fun t k => st47 t k) ?_
                exact own_retR X47 hx hlk hret (hb hby d5_71) rfl rfl rfl (⟨by rw [← hex]; simp [own_exp, hc1, hc3, hc33, hc34, hc36, hc38, hc40], e47, rfl⟩) (by decide) (by decide)
            · refine own_pre (T' := T37) (f' := (mkF m 57 #[iv z] [])) (fun t k => XS.ifNo X37.here hx rfl (hb hby d5_54) rfl ((if0 _ _).trans (feq hc38).1) k) ?_
              obtain ⟨T48, X48, e48, st48⟩ := getS2 X37 hx hZ hown (host := "") (Or.inl (hw _ (List.mem_of_getElem? (i := 71) rfl))) Via.refl e37 S_LATIN_UPPER (g := (mkF m 57 #[iv z] [])) rfl (hb hby d5_57)
              refine own_pre (T' := T48) (f' := (mkF m 60 #[iv z] [(.ref w_LATIN_UPPER)])) (fun t k => st48 t k) ?_
              exact own_retR X48 hx hlk hret (hb hby d5_60) rfl rfl rfl (⟨by rw [← hex]; simp [own_exp, hc1, hc3, hc33, hc34, hc36, hc38], e48, rfl⟩) (by decide) (by decide)
          · refine own_pre (T' := s₁) (f' := (mkF m 39 #[iv z] [])) (fun t k => XS.icmpNo X0.here hx rfl (hb hby d5_36) rfl (flt hc36).1 k) ?_
            refine own_pre (T' := s₁) (f' := (mkF m 40 #[iv z] [(.int z)])) (fun t k => XS.iloadN X0.here hx rfl (hb hby d5_39) rfl k) ?_
            refine own_pre (T' := s₁) (f' := (mkF m 43 #[iv z] [(.int (1103 : Int32)), (.int z)])) (fun t k => XS.sipush X0.here hx rfl (hb hby d5_40) k) ?_
            by_cases hc49 : (1103 : Int32) < z
            · refine own_pre (T' := s₁) (f' := (mkF m 50 #[iv z] [])) (fun t k => XS.icmpYes X0.here hx rfl (pc0 := 43) (pc' := 50) rfl (hb hby d5_43) rfl (tlt hc49).2.2.1 (by decide) (by decide) k) ?_
              refine own_pre (T' := s₁) (f' := (mkF m 51 #[iv z] [(.int z)])) (fun t k => XS.iloadN X0.here hx rfl (hb hby d5_50) rfl k) ?_
              obtain ⟨T50, X50, e50, st50⟩ := own_pure (f := 0) (n := 0) (v := (some (.int (own_b z (65 : Int32) (90 : Int32))))) (own_callS X0 hx hZ e0 (y := (⟨"com/example/kormilo/kormilo/CharacterClassOfPinLaw", "isUpper", "(I)Z"⟩ : MethodName)) hown (hw _ (List.mem_of_getElem? (i := 43) rfl)) (hw _ (List.mem_of_getElem? (i := 44) rfl)) (hw _ (List.mem_of_getElem? (i := 45) rfl)) (hw _ (List.mem_of_getElem? (i := 41) rfl)) (by decide) 0 [(.int z)] [] (own_isUpper l Z a0 hw [] w__VALUES w_CYRILLIC_UPPER w_CYRILLIC_LOWER w_LATIN_UPPER w_LATIN_LOWER w_DIGITS w_SPECIAL w_EMPTY r_ranges_CYRILLIC_UPPER r_ranges_CYRILLIC_LOWER r_ranges_LATIN_UPPER r_ranges_LATIN_LOWER r_ranges_DIGITS r_ranges_SPECIAL k__VALUES k_ranges_CYRILLIC_UPPER k_ranges_CYRILLIC_LOWER k_ranges_LATIN_UPPER k_ranges_LATIN_LOWER k_ranges_DIGITS k_ranges_SPECIAL h0 F0 z) (by decide) (by decide) (by decide) (by decide) (g := (mkF m 51 #[iv z] [(.int z)])) rfl (by rw [hml]; rfl) (lenOf pd_5 rfl) rfl (by show 2 * 0 + _ ≤ _; exact Nat.le_of_eq rfl) (hb hby d5_51))
              refine own_pre (T' := T50) (f' := (mkF m 54 #[iv z] [(.int (own_b z (65 : Int32) (90 : Int32)))])) (fun t k => st50 t k) ?_
              by_cases hc51 : (own_b z (65 : Int32) (90 : Int32)) = (0 : Int32)
              · refine own_pre (T' := T50) (f' := (mkF m 61 #[iv z] [])) (fun t k => XS.ifYes X50.here hx rfl (pc0 := 54) (pc' := 61) rfl (hb hby d5_54) rfl ((if0 _ _).trans (teq hc51).1) (by decide) (by decide) k) ?_
                refine own_pre (T' := T50) (f' := (mkF m 62 #[iv z] [(.int z)])) (fun t k => XS.iloadN X50.here hx rfl (hb hby d5_61) rfl k) ?_
                obtain ⟨T52, X52, e52, st52⟩ := own_pure (f := 0) (n := 0) (v := (some (.int (own_b z (97 : Int32) (122 : Int32))))) (own_callS X50 hx hZ e50 (y := (⟨"com/example/kormilo/kormilo/CharacterClassOfPinLaw", "isLower", "(I)Z"⟩ : MethodName)) hown (hw _ (List.mem_of_getElem? (i := 46) rfl)) (hw _ (List.mem_of_getElem? (i := 47) rfl)) (hw _ (List.mem_of_getElem? (i := 48) rfl)) (hw _ (List.mem_of_getElem? (i := 41) rfl)) (by decide) 0 [(.int z)] [] (own_isLower l Z a0 hw [] w__VALUES w_CYRILLIC_UPPER w_CYRILLIC_LOWER w_LATIN_UPPER w_LATIN_LOWER w_DIGITS w_SPECIAL w_EMPTY r_ranges_CYRILLIC_UPPER r_ranges_CYRILLIC_LOWER r_ranges_LATIN_UPPER r_ranges_LATIN_LOWER r_ranges_DIGITS r_ranges_SPECIAL k__VALUES k_ranges_CYRILLIC_UPPER k_ranges_CYRILLIC_LOWER k_ranges_LATIN_UPPER k_ranges_LATIN_LOWER k_ranges_DIGITS k_ranges_SPECIAL h0 F0 z) (by decide) (by decide) (by decide) (by decide) (g := (mkF m 62 #[iv z] [(.int z)])) rfl (by rw [hml]; rfl) (lenOf pd_5 rfl) rfl (by show 2 * 0 + _ ≤ _; exact Nat.le_of_eq rfl) (hb hby d5_62))
                refine own_pre (T' := T52) (f' := (mkF m 65 #[iv z] [(.int (own_b z (97 : Int32) (122 : Int32)))])) (fun t k => st52 t k) ?_
                by_cases hc53 : (own_b z (97 : Int32) (122 : Int32)) = (0 : Int32)
                · refine own_pre (T' := T52) (f' := (mkF m 72 #[iv z] [])) (fun t k => XS.ifYes X52.here hx rfl (pc0 := 65) (pc' := 72) rfl (hb hby d5_65) rfl ((if0 _ _).trans (teq hc53).1) (by decide) (by decide) k) ?_
                  refine own_pre (T' := T52) (f' := (mkF m 73 #[iv z] [(.int z)])) (fun t k => XS.iloadN X52.here hx rfl (hb hby d5_72) rfl k) ?_
                  obtain ⟨T54, X54, e54, st54⟩ := own_pure (f := 0) (n := 0) (v := (some (.int (own_b z (48 : Int32) (57 : Int32))))) (own_callS X52 hx hZ e52 (y := (⟨"com/example/kormilo/kormilo/CharacterClassOfPinLaw", "isDigit", "(I)Z"⟩ : MethodName)) hown (hw _ (List.mem_of_getElem? (i := 49) rfl)) (hw _ (List.mem_of_getElem? (i := 50) rfl)) (hw _ (List.mem_of_getElem? (i := 51) rfl)) (hw _ (List.mem_of_getElem? (i := 41) rfl)) (by decide) 0 [(.int z)] [] (own_isDigit l Z a0 hw [] w__VALUES w_CYRILLIC_UPPER w_CYRILLIC_LOWER w_LATIN_UPPER w_LATIN_LOWER w_DIGITS w_SPECIAL w_EMPTY r_ranges_CYRILLIC_UPPER r_ranges_CYRILLIC_LOWER r_ranges_LATIN_UPPER r_ranges_LATIN_LOWER r_ranges_DIGITS r_ranges_SPECIAL k__VALUES k_ranges_CYRILLIC_UPPER k_ranges_CYRILLIC_LOWER k_ranges_LATIN_UPPER k_ranges_LATIN_LOWER k_ranges_DIGITS k_ranges_SPECIAL h0 F0 z) (by decide) (by decide) (by decide) (by decide) (g := (mkF m 73 #[iv z] [(.int z)])) rfl (by rw [hml]; rfl) (lenOf pd_5 rfl) rfl (by show 2 * 0 + _ ≤ _; exact Nat.le_of_eq rfl) (hb hby d5_73))
                  refine own_pre (T' := T54) (f' := (mkF m 76 #[iv z] [(.int (own_b z (48 : Int32) (57 : Int32)))])) (fun t k => st54 t k) ?_
                  by_cases hc55 : (own_b z (48 : Int32) (57 : Int32)) = (0 : Int32)
                  · refine own_pre (T' := T54) (f' := (mkF m 83 #[iv z] [])) (fun t k => XS.ifYes X54.here hx rfl (pc0 := 76) (pc' := 83) rfl (hb hby d5_76) rfl ((if0 _ _).trans (teq hc55).1) (by decide) (by decide) k) ?_
                    refine own_pre (T' := T54) (f' := (mkF m 84 #[iv z] [(.int z)])) (fun t k => XS.iloadN X54.here hx rfl (hb hby d5_83) rfl k) ?_
                    refine own_pre (T' := T54) (f' := (mkF m 86 #[iv z] [(.int (33 : Int32)), (.int z)])) (fun t k => XS.bipush X54.here hx rfl (hb hby d5_84) k) ?_
                    by_cases hc56 : z < (33 : Int32)
                    · refine own_pre (T' := T54) (f' := (mkF m 99 #[iv z] [])) (fun t k => XS.icmpYes X54.here hx rfl (pc0 := 86) (pc' := 99) rfl (hb hby d5_86) rfl (tlt hc56).1 (by decide) (by decide) k) ?_
                      refine own_pre (T' := T54) (f' := (mkF m 100 #[iv z] [.null])) (fun t k => XS.aconstNull X54.here hx rfl (hb hby d5_99) k) ?_
                      exact own_retR X54 hx hlk hret (hb hby d5_100) rfl rfl rfl (⟨by rw [← hex]; simp [own_exp, hc1, hc3, hc33, hc34, hc36, hc49, hc51, hc53, hc55, hc56], e54, rfl⟩) (by decide) (by decide)
                    · refine own_pre (T' := T54) (f' := (mkF m 89 #[iv z] [])) (fun t k => XS.icmpNo X54.here hx rfl (hb hby d5_86) rfl (flt hc56).1 k) ?_
                      refine own_pre (T' := T54) (f' := (mkF m 90 #[iv z] [(.int z)])) (fun t k => XS.iloadN X54.here hx rfl (hb hby d5_89) rfl k) ?_
                      refine own_pre (T' := T54) (f' := (mkF m 92 #[iv z] [(.int (126 : Int32)), (.int z)])) (fun t k => XS.bipush X54.here hx rfl (hb hby d5_90) k) ?_
                      by_cases hc57 : (126 : Int32) < z
                      · refine own_pre (T' := T54) (f' := (mkF m 99 #[iv z] [])) (fun t k => XS.icmpYes X54.here hx rfl (pc0 := 92) (pc' := 99) rfl (hb hby d5_92) rfl (tlt hc57).2.2.1 (by decide) (by decide) k) ?_
                        refine own_pre (T' := T54) (f' := (mkF m 100 #[iv z] [.null])) (fun t k => XS.aconstNull X54.here hx rfl (hb hby d5_99) k) ?_
                        exact own_retR X54 hx hlk hret (hb hby d5_100) rfl rfl rfl (⟨by rw [← hex]; simp [own_exp, hc1, hc3, hc33, hc34, hc36, hc49, hc51, hc53, hc55, hc56, hc57], e54, rfl⟩) (by decide) (by decide)
                      · refine own_pre (T' := T54) (f' := (mkF m 95 #[iv z] [])) (fun t k => XS.icmpNo X54.here hx rfl (hb hby d5_92) rfl (flt hc57).2.2.1 k) ?_
                        obtain ⟨T58, X58, e58, st58⟩ := getS2 X54 hx hZ hown (host := "") (Or.inl (hw _ (List.mem_of_getElem? (i := 72) rfl))) Via.refl e54 S_SPECIAL (g := (mkF m 95 #[iv z] [])) rfl (hb hby d5_95)
                        refine own_pre (T' := T58) (f' := (mkF m 98 #[iv z] [(.ref w_SPECIAL)])) (fun t k => st58 t k) ?_
                        exact own_retR X58 hx hlk hret (hb hby d5_98) rfl rfl rfl (⟨by rw [← hex]; simp [own_exp, hc1, hc3, hc33, hc34, hc36, hc49, hc51, hc53, hc55, hc56, hc57], e58, rfl⟩) (by decide) (by decide)
                  · refine own_pre (T' := T54) (f' := (mkF m 79 #[iv z] [])) (fun t k => XS.ifNo X54.here hx rfl (hb hby d5_76) rfl ((if0 _ _).trans (feq hc55).1) k) ?_
                    obtain ⟨T59, X59, e59, st59⟩ := getS2 X54 hx hZ hown (host := "") (Or.inl (hw _ (List.mem_of_getElem? (i := 75) rfl))) Via.refl e54 S_DIGITS (g := (mkF m 79 #[iv z] [])) rfl (hb hby d5_79)
                    refine own_pre (T' := T59) (f' := (mkF m 82 #[iv z] [(.ref w_DIGITS)])) (fun t k => st59 t k) ?_
                    exact own_retR X59 hx hlk hret (hb hby d5_82) rfl rfl rfl (⟨by rw [← hex]; simp [own_exp, hc1, hc3, hc33, hc34, hc36, hc49, hc51, hc53, hc55], e59, rfl⟩) (by decide) (by decide)
                · refine own_pre (T' := T52) (f' := (mkF m 68 #[iv z] [])) (fun t k => XS.ifNo X52.here hx rfl (hb hby d5_65) rfl ((if0 _ _).trans (feq hc53).1) k) ?_
                  obtain ⟨T60, X60, e60, st60⟩ := getS2 X52 hx hZ hown (host := "") (Or.inl (hw _ (List.mem_of_getElem? (i := 74) rfl))) Via.refl e52 S_LATIN_LOWER (g := (mkF m 68 #[iv z] [])) rfl (hb hby d5_68)
                  refine own_pre (T' := T60) (f' := (mkF m 71 #[iv z] [(.ref w_LATIN_LOWER)])) (fun t k => st60 t k) ?_
                  exact own_retR X60 hx hlk hret (hb hby d5_71) rfl rfl rfl (⟨by rw [← hex]; simp [own_exp, hc1, hc3, hc33, hc34, hc36, hc49, hc51, hc53], e60, rfl⟩) (by decide) (by decide)
              · refine own_pre (T' := T50) (f' := (mkF m 57 #[iv z] [])) (fun t k => XS.ifNo X50.here hx rfl (hb hby d5_54) rfl ((if0 _ _).trans (feq hc51).1) k) ?_
                obtain ⟨T61, X61, e61, st61⟩ := getS2 X50 hx hZ hown (host := "") (Or.inl (hw _ (List.mem_of_getElem? (i := 71) rfl))) Via.refl e50 S_LATIN_UPPER (g := (mkF m 57 #[iv z] [])) rfl (hb hby d5_57)
                refine own_pre (T' := T61) (f' := (mkF m 60 #[iv z] [(.ref w_LATIN_UPPER)])) (fun t k => st61 t k) ?_
                exact own_retR X61 hx hlk hret (hb hby d5_60) rfl rfl rfl (⟨by rw [← hex]; simp [own_exp, hc1, hc3, hc33, hc34, hc36, hc49, hc51], e61, rfl⟩) (by decide) (by decide)
            · refine own_pre (T' := s₁) (f' := (mkF m 46 #[iv z] [])) (fun t k => XS.icmpNo X0.here hx rfl (hb hby d5_43) rfl (flt hc49).2.2.1 k) ?_
              obtain ⟨T62, X62, e62, st62⟩ := getS2 X0 hx hZ hown (host := "") (Or.inl (hw _ (List.mem_of_getElem? (i := 73) rfl))) Via.refl e0 S_CYRILLIC_LOWER (g := (mkF m 46 #[iv z] [])) rfl (hb hby d5_46)
              refine own_pre (T' := T62) (f' := (mkF m 49 #[iv z] [(.ref w_CYRILLIC_LOWER)])) (fun t k => st62 t k) ?_
              exact own_retR X62 hx hlk hret (hb hby d5_49) rfl rfl rfl (⟨by rw [← hex]; simp [own_exp, hc1, hc3, hc33, hc34, hc36, hc49], e62, rfl⟩) (by decide) (by decide)
      · refine own_pre (T' := s₁) (f' := (mkF m 21 #[iv z] [])) (fun t k => XS.icmpNo X0.here hx rfl (hb hby d5_18) rfl (flt hc33).2.2.1 k) ?_
        obtain ⟨T63, X63, e63, st63⟩ := getS2 X0 hx hZ hown (host := "") (Or.inl (hw _ (List.mem_of_getElem? (i := 76) rfl))) Via.refl e0 S_CYRILLIC_UPPER (g := (mkF m 21 #[iv z] [])) rfl (hb hby d5_21)
        refine own_pre (T' := T63) (f' := (mkF m 24 #[iv z] [(.ref w_CYRILLIC_UPPER)])) (fun t k => st63 t k) ?_
        exact own_retR X63 hx hlk hret (hb hby d5_24) rfl rfl rfl (⟨by rw [← hex]; simp [own_exp, hc1, hc3, hc33], e63, rfl⟩) (by decide) (by decide)
set_option maxRecDepth 65536 in
set_option maxHeartbeats 40000000 in
theorem own_law (l : Launch) (Z : State) (a0 : Array Value) (hw : ∀ d ∈ tables_1, d.before a0 Z = true) (ws : List Jvm.Cond) (w__VALUES w_CYRILLIC_UPPER w_CYRILLIC_LOWER w_LATIN_UPPER w_LATIN_LOWER w_DIGITS w_SPECIAL w_EMPTY r_ranges_CYRILLIC_UPPER r_ranges_CYRILLIC_LOWER r_ranges_LATIN_UPPER r_ranges_LATIN_LOWER r_ranges_DIGITS r_ranges_SPECIAL : Addr) (k__VALUES k_ranges_CYRILLIC_UPPER k_ranges_CYRILLIC_LOWER k_ranges_LATIN_UPPER k_ranges_LATIN_LOWER k_ranges_DIGITS k_ranges_SPECIAL : ClassId) (h0 : Heap) (F : own_F Z h0 w__VALUES w_CYRILLIC_UPPER w_CYRILLIC_LOWER w_LATIN_UPPER w_LATIN_LOWER w_DIGITS w_SPECIAL w_EMPTY r_ranges_CYRILLIC_UPPER r_ranges_CYRILLIC_LOWER r_ranges_LATIN_UPPER r_ranges_LATIN_LOWER r_ranges_DIGITS r_ranges_SPECIAL k__VALUES k_ranges_CYRILLIC_UPPER k_ranges_CYRILLIC_LOWER k_ranges_LATIN_UPPER k_ranges_LATIN_LOWER k_ranges_DIGITS k_ranges_SPECIAL) (p1 p2 : Int32) :
    own_C l x code maxLocals ret ws room_1 #[(.int p1), (.int p2)] Z h0 (fun v _ L => v = some (.int (1 : Int32)) ∧ Fr h0.size L) := by
  have F0 := F
  obtain ⟨S__VALUES, E__VALUES, S_CYRILLIC_UPPER, E_CYRILLIC_UPPER, S_CYRILLIC_LOWER, E_CYRILLIC_LOWER, S_LATIN_UPPER, E_LATIN_UPPER, S_LATIN_LOWER, E_LATIN_LOWER, S_DIGITS, E_DIGITS, S_SPECIAL, E_SPECIAL, S_EMPTY, E_EMPTY, F_ranges_CYRILLIC_UPPER, F_ranges_CYRILLIC_LOWER, F_ranges_LATIN_UPPER, F_ranges_LATIN_LOWER, F_ranges_DIGITS, F_ranges_SPECIAL, F_value_EMPTY, V__VALUES, V_ranges_CYRILLIC_UPPER, V_ranges_CYRILLIC_LOWER, V_ranges_LATIN_UPPER, V_ranges_LATIN_LOWER, V_ranges_DIGITS, V_ranges_SPECIAL⟩ := F
  refine own_enter (LS := #[iv p1, iv p2, .unset, .unset, .unset]) (plainFor_of_name (by first | (simp [plainName, overriddenIn, x]; done) | decide +kernel)) (fun m => by first | (simp [entryFrame, mkF, argsToLocals, Value.category, maxLocals]; done) | rfl) ?_
  intro p e s m below meth c s₁ hx hby hml hown0 hnm hret hlk hZ X0 e0 hsh
  have hown : s.vm.findClass "com/example/kormilo/kormilo/CharacterClassOfPinLaw" = some m.cls := hown0
  have jn : ∀ (z sel : Int32) (Tjn : State), Stand p l e room_1 s m #[(.int p1), (.int p2)] below meth c Tjn [] 0 0 → Tjn.heap = h0 → own_G p.tables e below Tjn (mkF m 50 #[iv p1, iv p2, iv sel, iv z, .unset] []) (own_P room_1 s (fun v _ L => v = some (.int (1 : Int32)) ∧ Fr h0.size L)) := by
    intro z sel Tjn Xjn ejn 
    obtain ⟨x, hcl, hex, hx7⟩ := own_same z w_CYRILLIC_UPPER w_CYRILLIC_LOWER w_LATIN_UPPER w_LATIN_LOWER w_DIGITS w_SPECIAL
    rcases hx7 with rfl | rfl | rfl | rfl | rfl | rfl | rfl
    · refine own_pre (T' := Tjn) (f' := (mkF m 51 #[iv p1, iv p2, iv sel, iv z, .unset] [(.int z)])) (fun t k => XS.iloadN Xjn.here hx rfl (hb hby at_50) rfl k) ?_
      obtain ⟨T1, L1, v1, X1, ⟨r1, rfl, E1, rfl, Y1, G1⟩, st1⟩ := own_callS Xjn hx hZ ejn (y := (⟨"com/example/kormilo/kormilo/CharacterClass", "of", "(I)Ljava/util/Optional;"⟩ : MethodName)) hown (hw _ (List.mem_of_getElem? (i := 0) rfl)) (hw _ (List.mem_of_getElem? (i := 1) rfl)) (hw _ (List.mem_of_getElem? (i := 3) rfl)) (hw _ (List.mem_of_getElem? (i := 2) rfl)) (by decide) 0 [(.int z)] [] (own_of l Z a0 hw [] w__VALUES w_CYRILLIC_UPPER w_CYRILLIC_LOWER w_LATIN_UPPER w_LATIN_LOWER w_DIGITS w_SPECIAL w_EMPTY r_ranges_CYRILLIC_UPPER r_ranges_CYRILLIC_LOWER r_ranges_LATIN_UPPER r_ranges_LATIN_LOWER r_ranges_DIGITS r_ranges_SPECIAL k__VALUES k_ranges_CYRILLIC_UPPER k_ranges_CYRILLIC_LOWER k_ranges_LATIN_UPPER k_ranges_LATIN_LOWER k_ranges_DIGITS k_ranges_SPECIAL h0 F0 z _ hcl) (by decide) (by decide) (by decide) (by decide) (g := (mkF m 51 #[iv p1, iv p2, iv sel, iv z, .unset] [(.int z)])) rfl (by rw [hml]; rfl) (lenOf pd_6 rfl) rfl (by show 2 * 0 + _ ≤ _; exact Nat.le_of_eq rfl) (hb hby at_51)
      rw [List.append_nil] at X1
      obtain ⟨h1, e1⟩ : ∃ y, T1.heap = y := ⟨_, rfl⟩
      rw [e1] at E1 Y1 G1
      have EX1_h0 : Ext h0 h1 := E1
      refine own_pre (T' := T1) (f' := (mkF m 54 #[iv p1, iv p2, iv sel, iv z, .unset] [(.ref r1)])) (fun t k => st1 t k) ?_
      refine own_pre (T' := T1) (f' := (mkF m 55 #[iv p1, iv p2, iv sel, iv z, .unset] [.null, (.ref r1)])) (fun t k => XS.aconstNull X1.here hx rfl (hb hby at_54) k) ?_
      obtain ⟨T2, X2, e2, st2⟩ := own_pure (f := 0) (n := 0) (v := (some .null)) (own_callV X1 hx hZ e1 (y := (⟨"java/util/Optional", "orElse", "(Ljava/lang/Object;)Ljava/lang/Object;"⟩ : MethodName)) hown (hw _ (List.mem_of_getElem? (i := 32) rfl)) (hw _ (List.mem_of_getElem? (i := 33) rfl)) (hw _ (List.mem_of_getElem? (i := 35) rfl)) (hw _ (List.mem_of_getElem? (i := 34) rfl)) (hw _ (List.mem_of_getElem? (i := 36) rfl)) (hw _ (List.mem_of_getElem? (i := 29) rfl)) (by decide) 0 [.null] [] (own_orN l Z a0 hw [] w__VALUES w_CYRILLIC_UPPER w_CYRILLIC_LOWER w_LATIN_UPPER w_LATIN_LOWER w_DIGITS w_SPECIAL w_EMPTY r_ranges_CYRILLIC_UPPER r_ranges_CYRILLIC_LOWER r_ranges_LATIN_UPPER r_ranges_LATIN_LOWER r_ranges_DIGITS r_ranges_SPECIAL k__VALUES k_ranges_CYRILLIC_UPPER k_ranges_CYRILLIC_LOWER k_ranges_LATIN_UPPER k_ranges_LATIN_LOWER k_ranges_DIGITS k_ranges_SPECIAL h1 (own_F_ext F0 EX1_h0) r1 G1) (by decide) (by decide) (by decide) (by decide) Y1 (g := (mkF m 55 #[iv p1, iv p2, iv sel, iv z, .unset] [.null, (.ref r1)])) rfl (by rw [hml]; rfl) (lenOf pd_0 rfl) rfl (by show 2 * 0 + _ ≤ _; exact Nat.le_of_eq rfl) (hb hby at_55))
      refine own_pre (T' := T2) (f' := (mkF m 58 #[iv p1, iv p2, iv sel, iv z, .unset] [.null])) (fun t k => st2 t k) ?_
      refine own_pre (T' := T2) (f' := (mkF m 61 #[iv p1, iv p2, iv sel, iv z, .unset] [.null])) (fun t k => X2.checkcastNull hx (g := (mkF m 58 #[iv p1, iv p2, iv sel, iv z, .unset] [.null])) rfl rfl (hb hby at_58) t k) ?_
      refine own_pre (T' := T2) (f' := (mkF m 63 #[iv p1, iv p2, iv sel, iv z, .val .null] [])) (fun t k => XS.astore X2.here hx rfl (hb hby at_61) rfl rfl (l' := #[iv p1, iv p2, iv sel, iv z, .val .null]) rfl k) ?_
      refine own_pre (T' := T2) (f' := (mkF m 65 #[iv p1, iv p2, iv sel, iv z, .val .null] [.null])) (fun t k => XS.aload X2.here hx rfl (hb hby at_63) rfl rfl k) ?_
      refine own_pre (T' := T2) (f' := (mkF m 66 #[iv p1, iv p2, iv sel, iv z, .val .null] [(.int z), .null])) (fun t k => XS.iloadN X2.here hx rfl (hb hby at_65) rfl k) ?_
      obtain ⟨T4, X4, e4, st4⟩ := own_pure (f := 1) (n := 12) (v := (some .null)) (own_callS X2 hx hZ e2 (y := (⟨"com/example/kormilo/kormilo/CharacterClassOfPinLaw", "expected", "(I)Lcom/example/kormilo/kormilo/CharacterClass;"⟩ : MethodName)) hown (hw _ (List.mem_of_getElem? (i := 39) rfl)) (hw _ (List.mem_of_getElem? (i := 40) rfl)) (hw _ (List.mem_of_getElem? (i := 42) rfl)) (hw _ (List.mem_of_getElem? (i := 41) rfl)) (by decide) 1 [(.int z)] [.null] (own_expected l Z a0 hw [] w__VALUES w_CYRILLIC_UPPER w_CYRILLIC_LOWER w_LATIN_UPPER w_LATIN_LOWER w_DIGITS w_SPECIAL w_EMPTY r_ranges_CYRILLIC_UPPER r_ranges_CYRILLIC_LOWER r_ranges_LATIN_UPPER r_ranges_LATIN_LOWER r_ranges_DIGITS r_ranges_SPECIAL k__VALUES k_ranges_CYRILLIC_UPPER k_ranges_CYRILLIC_LOWER k_ranges_LATIN_UPPER k_ranges_LATIN_LOWER k_ranges_DIGITS k_ranges_SPECIAL h1 (own_F_ext F0 EX1_h0) z _ hex) (by decide) (by decide) (by decide) (by decide) (g := (mkF m 66 #[iv p1, iv p2, iv sel, iv z, .val .null] [(.int z), .null])) rfl (by rw [hml]; rfl) (lenOf pd_7 rfl) rfl (by show 2 * 0 + _ ≤ _; exact Nat.le_of_eq rfl) (hb hby at_66))
      refine own_pre (T' := T4) (f' := (mkF m 69 #[iv p1, iv p2, iv sel, iv z, .val .null] [.null, .null])) (fun t k => st4 t k) ?_
      refine own_pre (T' := T4) (f' := (mkF m 72 #[iv p1, iv p2, iv sel, iv z, .val .null] [])) (fun t k => Jvm.RoadKit.acmp (g := (mkF m 69 #[iv p1, iv p2, iv sel, iv z, .val .null] [.null, .null])) X4 hx rfl rfl rfl (pc0 := 69) (pc' := 72) (same := true) rfl (hb hby at_69) rfl (decide_eq_true rfl) (by decide) (by decide) k) ?_
      refine own_pre (T' := T4) (f' := (mkF m 73 #[iv p1, iv p2, iv sel, iv z, .val .null] [(.int (1 : Int32))])) (fun t k => XS.iconst X4.here hx rfl (hb hby at_72) k) ?_
      refine own_pre (T' := T4) (f' := (mkF m 77 #[iv p1, iv p2, iv sel, iv z, .val .null] [(.int (1 : Int32))])) (fun t k => XS.goto X4.here hx rfl (pc0 := 73) (pc' := 77) rfl (hb hby at_73) (by decide) (by decide) k) ?_
      exact own_retZ X4 hx hlk hret (hb hby at_77) rfl (⟨rfl, Fr.nil _⟩) (by decide) (by decide)
    · refine own_pre (T' := Tjn) (f' := (mkF m 51 #[iv p1, iv p2, iv sel, iv z, .unset] [(.int z)])) (fun t k => XS.iloadN Xjn.here hx rfl (hb hby at_50) rfl k) ?_
      obtain ⟨T5, L5, v5, X5, ⟨r5, rfl, E5, rfl, Y5, G5⟩, st5⟩ := own_callS Xjn hx hZ ejn (y := (⟨"com/example/kormilo/kormilo/CharacterClass", "of", "(I)Ljava/util/Optional;"⟩ : MethodName)) hown (hw _ (List.mem_of_getElem? (i := 0) rfl)) (hw _ (List.mem_of_getElem? (i := 1) rfl)) (hw _ (List.mem_of_getElem? (i := 3) rfl)) (hw _ (List.mem_of_getElem? (i := 2) rfl)) (by decide) 0 [(.int z)] [] (own_of l Z a0 hw [] w__VALUES w_CYRILLIC_UPPER w_CYRILLIC_LOWER w_LATIN_UPPER w_LATIN_LOWER w_DIGITS w_SPECIAL w_EMPTY r_ranges_CYRILLIC_UPPER r_ranges_CYRILLIC_LOWER r_ranges_LATIN_UPPER r_ranges_LATIN_LOWER r_ranges_DIGITS r_ranges_SPECIAL k__VALUES k_ranges_CYRILLIC_UPPER k_ranges_CYRILLIC_LOWER k_ranges_LATIN_UPPER k_ranges_LATIN_LOWER k_ranges_DIGITS k_ranges_SPECIAL h0 F0 z _ hcl) (by decide) (by decide) (by decide) (by decide) (g := (mkF m 51 #[iv p1, iv p2, iv sel, iv z, .unset] [(.int z)])) rfl (by rw [hml]; rfl) (lenOf pd_6 rfl) rfl (by show 2 * 0 + _ ≤ _; exact Nat.le_of_eq rfl) (hb hby at_51)
      rw [List.append_nil] at X5
      obtain ⟨h5, e5⟩ : ∃ y, T5.heap = y := ⟨_, rfl⟩
      rw [e5] at E5 Y5 G5
      have EX5_h0 : Ext h0 h5 := E5
      refine own_pre (T' := T5) (f' := (mkF m 54 #[iv p1, iv p2, iv sel, iv z, .unset] [(.ref r5)])) (fun t k => st5 t k) ?_
      refine own_pre (T' := T5) (f' := (mkF m 55 #[iv p1, iv p2, iv sel, iv z, .unset] [.null, (.ref r5)])) (fun t k => XS.aconstNull X5.here hx rfl (hb hby at_54) k) ?_
      obtain ⟨T6, X6, e6, st6⟩ := own_pure (f := 0) (n := 0) (v := (some (.ref w_CYRILLIC_UPPER))) (own_callV X5 hx hZ e5 (y := (⟨"java/util/Optional", "orElse", "(Ljava/lang/Object;)Ljava/lang/Object;"⟩ : MethodName)) hown (hw _ (List.mem_of_getElem? (i := 32) rfl)) (hw _ (List.mem_of_getElem? (i := 33) rfl)) (hw _ (List.mem_of_getElem? (i := 35) rfl)) (hw _ (List.mem_of_getElem? (i := 34) rfl)) (hw _ (List.mem_of_getElem? (i := 36) rfl)) (hw _ (List.mem_of_getElem? (i := 29) rfl)) (by decide) 0 [.null] [] (own_orR l Z a0 hw [] w__VALUES w_CYRILLIC_UPPER w_CYRILLIC_LOWER w_LATIN_UPPER w_LATIN_LOWER w_DIGITS w_SPECIAL w_EMPTY r_ranges_CYRILLIC_UPPER r_ranges_CYRILLIC_LOWER r_ranges_LATIN_UPPER r_ranges_LATIN_LOWER r_ranges_DIGITS r_ranges_SPECIAL k__VALUES k_ranges_CYRILLIC_UPPER k_ranges_CYRILLIC_LOWER k_ranges_LATIN_UPPER k_ranges_LATIN_LOWER k_ranges_DIGITS k_ranges_SPECIAL h5 (own_F_ext F0 EX5_h0) r5 w_CYRILLIC_UPPER G5) (by decide) (by decide) (by decide) (by decide) Y5 (g := (mkF m 55 #[iv p1, iv p2, iv sel, iv z, .unset] [.null, (.ref r5)])) rfl (by rw [hml]; rfl) (lenOf pd_0 rfl) rfl (by show 2 * 0 + _ ≤ _; exact Nat.le_of_eq rfl) (hb hby at_55))
      refine own_pre (T' := T6) (f' := (mkF m 58 #[iv p1, iv p2, iv sel, iv z, .unset] [(.ref w_CYRILLIC_UPPER)])) (fun t k => st6 t k) ?_
      obtain ⟨T7, X7, e7, st7⟩ := castY X6 hx hZ hown (hw _ (List.mem_of_getElem? (i := 69) rfl)) e6 (Ins.self (E_CYRILLIC_UPPER.ext EX5_h0)) (g := (mkF m 58 #[iv p1, iv p2, iv sel, iv z, .unset] [(.ref w_CYRILLIC_UPPER)])) rfl rfl (hb hby at_58)
      refine own_pre (T' := T7) (f' := (mkF m 61 #[iv p1, iv p2, iv sel, iv z, .unset] [(.ref w_CYRILLIC_UPPER)])) (fun t k => st7 t k) ?_
      refine own_pre (T' := T7) (f' := (mkF m 63 #[iv p1, iv p2, iv sel, iv z, rv w_CYRILLIC_UPPER] [])) (fun t k => XS.astore X7.here hx rfl (hb hby at_61) rfl rfl (l' := #[iv p1, iv p2, iv sel, iv z, rv w_CYRILLIC_UPPER]) rfl k) ?_
      refine own_pre (T' := T7) (f' := (mkF m 65 #[iv p1, iv p2, iv sel, iv z, rv w_CYRILLIC_UPPER] [(.ref w_CYRILLIC_UPPER)])) (fun t k => XS.aload X7.here hx rfl (hb hby at_63) rfl rfl k) ?_
      refine own_pre (T' := T7) (f' := (mkF m 66 #[iv p1, iv p2, iv sel, iv z, rv w_CYRILLIC_UPPER] [(.int z), (.ref w_CYRILLIC_UPPER)])) (fun t k => XS.iloadN X7.here hx rfl (hb hby at_65) rfl k) ?_
      obtain ⟨T8, X8, e8, st8⟩ := own_pure (f := 1) (n := 12) (v := (some (.ref w_CYRILLIC_UPPER))) (own_callS X7 hx hZ e7 (y := (⟨"com/example/kormilo/kormilo/CharacterClassOfPinLaw", "expected", "(I)Lcom/example/kormilo/kormilo/CharacterClass;"⟩ : MethodName)) hown (hw _ (List.mem_of_getElem? (i := 39) rfl)) (hw _ (List.mem_of_getElem? (i := 40) rfl)) (hw _ (List.mem_of_getElem? (i := 42) rfl)) (hw _ (List.mem_of_getElem? (i := 41) rfl)) (by decide) 1 [(.int z)] [(.ref w_CYRILLIC_UPPER)] (own_expected l Z a0 hw [] w__VALUES w_CYRILLIC_UPPER w_CYRILLIC_LOWER w_LATIN_UPPER w_LATIN_LOWER w_DIGITS w_SPECIAL w_EMPTY r_ranges_CYRILLIC_UPPER r_ranges_CYRILLIC_LOWER r_ranges_LATIN_UPPER r_ranges_LATIN_LOWER r_ranges_DIGITS r_ranges_SPECIAL k__VALUES k_ranges_CYRILLIC_UPPER k_ranges_CYRILLIC_LOWER k_ranges_LATIN_UPPER k_ranges_LATIN_LOWER k_ranges_DIGITS k_ranges_SPECIAL h5 (own_F_ext F0 EX5_h0) z _ hex) (by decide) (by decide) (by decide) (by decide) (g := (mkF m 66 #[iv p1, iv p2, iv sel, iv z, rv w_CYRILLIC_UPPER] [(.int z), (.ref w_CYRILLIC_UPPER)])) rfl (by rw [hml]; rfl) (lenOf pd_7 rfl) rfl (by show 2 * 0 + _ ≤ _; exact Nat.le_of_eq rfl) (hb hby at_66))
      refine own_pre (T' := T8) (f' := (mkF m 69 #[iv p1, iv p2, iv sel, iv z, rv w_CYRILLIC_UPPER] [(.ref w_CYRILLIC_UPPER), (.ref w_CYRILLIC_UPPER)])) (fun t k => st8 t k) ?_
      refine own_pre (T' := T8) (f' := (mkF m 72 #[iv p1, iv p2, iv sel, iv z, rv w_CYRILLIC_UPPER] [])) (fun t k => Jvm.RoadKit.acmp (g := (mkF m 69 #[iv p1, iv p2, iv sel, iv z, rv w_CYRILLIC_UPPER] [(.ref w_CYRILLIC_UPPER), (.ref w_CYRILLIC_UPPER)])) X8 hx rfl rfl rfl (pc0 := 69) (pc' := 72) (same := true) rfl (hb hby at_69) rfl (decide_eq_true rfl) (by decide) (by decide) k) ?_
      refine own_pre (T' := T8) (f' := (mkF m 73 #[iv p1, iv p2, iv sel, iv z, rv w_CYRILLIC_UPPER] [(.int (1 : Int32))])) (fun t k => XS.iconst X8.here hx rfl (hb hby at_72) k) ?_
      refine own_pre (T' := T8) (f' := (mkF m 77 #[iv p1, iv p2, iv sel, iv z, rv w_CYRILLIC_UPPER] [(.int (1 : Int32))])) (fun t k => XS.goto X8.here hx rfl (pc0 := 73) (pc' := 77) rfl (hb hby at_73) (by decide) (by decide) k) ?_
      exact own_retZ X8 hx hlk hret (hb hby at_77) rfl (⟨rfl, Fr.nil _⟩) (by decide) (by decide)
    · refine own_pre (T' := Tjn) (f' := (mkF m 51 #[iv p1, iv p2, iv sel, iv z, .unset] [(.int z)])) (fun t k => XS.iloadN Xjn.here hx rfl (hb hby at_50) rfl k) ?_
      obtain ⟨T9, L9, v9, X9, ⟨r9, rfl, E9, rfl, Y9, G9⟩, st9⟩ := own_callS Xjn hx hZ ejn (y := (⟨"com/example/kormilo/kormilo/CharacterClass", "of", "(I)Ljava/util/Optional;"⟩ : MethodName)) hown (hw _ (List.mem_of_getElem? (i := 0) rfl)) (hw _ (List.mem_of_getElem? (i := 1) rfl)) (hw _ (List.mem_of_getElem? (i := 3) rfl)) (hw _ (List.mem_of_getElem? (i := 2) rfl)) (by decide) 0 [(.int z)] [] (own_of l Z a0 hw [] w__VALUES w_CYRILLIC_UPPER w_CYRILLIC_LOWER w_LATIN_UPPER w_LATIN_LOWER w_DIGITS w_SPECIAL w_EMPTY r_ranges_CYRILLIC_UPPER r_ranges_CYRILLIC_LOWER r_ranges_LATIN_UPPER r_ranges_LATIN_LOWER r_ranges_DIGITS r_ranges_SPECIAL k__VALUES k_ranges_CYRILLIC_UPPER k_ranges_CYRILLIC_LOWER k_ranges_LATIN_UPPER k_ranges_LATIN_LOWER k_ranges_DIGITS k_ranges_SPECIAL h0 F0 z _ hcl) (by decide) (by decide) (by decide) (by decide) (g := (mkF m 51 #[iv p1, iv p2, iv sel, iv z, .unset] [(.int z)])) rfl (by rw [hml]; rfl) (lenOf pd_6 rfl) rfl (by show 2 * 0 + _ ≤ _; exact Nat.le_of_eq rfl) (hb hby at_51)
      rw [List.append_nil] at X9
      obtain ⟨h9, e9⟩ : ∃ y, T9.heap = y := ⟨_, rfl⟩
      rw [e9] at E9 Y9 G9
      have EX9_h0 : Ext h0 h9 := E9
      refine own_pre (T' := T9) (f' := (mkF m 54 #[iv p1, iv p2, iv sel, iv z, .unset] [(.ref r9)])) (fun t k => st9 t k) ?_
      refine own_pre (T' := T9) (f' := (mkF m 55 #[iv p1, iv p2, iv sel, iv z, .unset] [.null, (.ref r9)])) (fun t k => XS.aconstNull X9.here hx rfl (hb hby at_54) k) ?_
      obtain ⟨T10, X10, e10, st10⟩ := own_pure (f := 0) (n := 0) (v := (some (.ref w_CYRILLIC_LOWER))) (own_callV X9 hx hZ e9 (y := (⟨"java/util/Optional", "orElse", "(Ljava/lang/Object;)Ljava/lang/Object;"⟩ : MethodName)) hown (hw _ (List.mem_of_getElem? (i := 32) rfl)) (hw _ (List.mem_of_getElem? (i := 33) rfl)) (hw _ (List.mem_of_getElem? (i := 35) rfl)) (hw _ (List.mem_of_getElem? (i := 34) rfl)) (hw _ (List.mem_of_getElem? (i := 36) rfl)) (hw _ (List.mem_of_getElem? (i := 29) rfl)) (by decide) 0 [.null] [] (own_orR l Z a0 hw [] w__VALUES w_CYRILLIC_UPPER w_CYRILLIC_LOWER w_LATIN_UPPER w_LATIN_LOWER w_DIGITS w_SPECIAL w_EMPTY r_ranges_CYRILLIC_UPPER r_ranges_CYRILLIC_LOWER r_ranges_LATIN_UPPER r_ranges_LATIN_LOWER r_ranges_DIGITS r_ranges_SPECIAL k__VALUES k_ranges_CYRILLIC_UPPER k_ranges_CYRILLIC_LOWER k_ranges_LATIN_UPPER k_ranges_LATIN_LOWER k_ranges_DIGITS k_ranges_SPECIAL h9 (own_F_ext F0 EX9_h0) r9 w_CYRILLIC_LOWER G9) (by decide) (by decide) (by decide) (by decide) Y9 (g := (mkF m 55 #[iv p1, iv p2, iv sel, iv z, .unset] [.null, (.ref r9)])) rfl (by rw [hml]; rfl) (lenOf pd_0 rfl) rfl (by show 2 * 0 + _ ≤ _; exact Nat.le_of_eq rfl) (hb hby at_55))
      refine own_pre (T' := T10) (f' := (mkF m 58 #[iv p1, iv p2, iv sel, iv z, .unset] [(.ref w_CYRILLIC_LOWER)])) (fun t k => st10 t k) ?_
      obtain ⟨T11, X11, e11, st11⟩ := castY X10 hx hZ hown (hw _ (List.mem_of_getElem? (i := 69) rfl)) e10 (Ins.self (E_CYRILLIC_LOWER.ext EX9_h0)) (g := (mkF m 58 #[iv p1, iv p2, iv sel, iv z, .unset] [(.ref w_CYRILLIC_LOWER)])) rfl rfl (hb hby at_58)
      refine own_pre (T' := T11) (f' := (mkF m 61 #[iv p1, iv p2, iv sel, iv z, .unset] [(.ref w_CYRILLIC_LOWER)])) (fun t k => st11 t k) ?_
      refine own_pre (T' := T11) (f' := (mkF m 63 #[iv p1, iv p2, iv sel, iv z, rv w_CYRILLIC_LOWER] [])) (fun t k => XS.astore X11.here hx rfl (hb hby at_61) rfl rfl (l' := #[iv p1, iv p2, iv sel, iv z, rv w_CYRILLIC_LOWER]) rfl k) ?_
      refine own_pre (T' := T11) (f' := (mkF m 65 #[iv p1, iv p2, iv sel, iv z, rv w_CYRILLIC_LOWER] [(.ref w_CYRILLIC_LOWER)])) (fun t k => XS.aload X11.here hx rfl (hb hby at_63) rfl rfl k) ?_
      refine own_pre (T' := T11) (f' := (mkF m 66 #[iv p1, iv p2, iv sel, iv z, rv w_CYRILLIC_LOWER] [(.int z), (.ref w_CYRILLIC_LOWER)])) (fun t k => XS.iloadN X11.here hx rfl (hb hby at_65) rfl k) ?_
      obtain ⟨T12, X12, e12, st12⟩ := own_pure (f := 1) (n := 12) (v := (some (.ref w_CYRILLIC_LOWER))) (own_callS X11 hx hZ e11 (y := (⟨"com/example/kormilo/kormilo/CharacterClassOfPinLaw", "expected", "(I)Lcom/example/kormilo/kormilo/CharacterClass;"⟩ : MethodName)) hown (hw _ (List.mem_of_getElem? (i := 39) rfl)) (hw _ (List.mem_of_getElem? (i := 40) rfl)) (hw _ (List.mem_of_getElem? (i := 42) rfl)) (hw _ (List.mem_of_getElem? (i := 41) rfl)) (by decide) 1 [(.int z)] [(.ref w_CYRILLIC_LOWER)] (own_expected l Z a0 hw [] w__VALUES w_CYRILLIC_UPPER w_CYRILLIC_LOWER w_LATIN_UPPER w_LATIN_LOWER w_DIGITS w_SPECIAL w_EMPTY r_ranges_CYRILLIC_UPPER r_ranges_CYRILLIC_LOWER r_ranges_LATIN_UPPER r_ranges_LATIN_LOWER r_ranges_DIGITS r_ranges_SPECIAL k__VALUES k_ranges_CYRILLIC_UPPER k_ranges_CYRILLIC_LOWER k_ranges_LATIN_UPPER k_ranges_LATIN_LOWER k_ranges_DIGITS k_ranges_SPECIAL h9 (own_F_ext F0 EX9_h0) z _ hex) (by decide) (by decide) (by decide) (by decide) (g := (mkF m 66 #[iv p1, iv p2, iv sel, iv z, rv w_CYRILLIC_LOWER] [(.int z), (.ref w_CYRILLIC_LOWER)])) rfl (by rw [hml]; rfl) (lenOf pd_7 rfl) rfl (by show 2 * 0 + _ ≤ _; exact Nat.le_of_eq rfl) (hb hby at_66))
      refine own_pre (T' := T12) (f' := (mkF m 69 #[iv p1, iv p2, iv sel, iv z, rv w_CYRILLIC_LOWER] [(.ref w_CYRILLIC_LOWER), (.ref w_CYRILLIC_LOWER)])) (fun t k => st12 t k) ?_
      refine own_pre (T' := T12) (f' := (mkF m 72 #[iv p1, iv p2, iv sel, iv z, rv w_CYRILLIC_LOWER] [])) (fun t k => Jvm.RoadKit.acmp (g := (mkF m 69 #[iv p1, iv p2, iv sel, iv z, rv w_CYRILLIC_LOWER] [(.ref w_CYRILLIC_LOWER), (.ref w_CYRILLIC_LOWER)])) X12 hx rfl rfl rfl (pc0 := 69) (pc' := 72) (same := true) rfl (hb hby at_69) rfl (decide_eq_true rfl) (by decide) (by decide) k) ?_
      refine own_pre (T' := T12) (f' := (mkF m 73 #[iv p1, iv p2, iv sel, iv z, rv w_CYRILLIC_LOWER] [(.int (1 : Int32))])) (fun t k => XS.iconst X12.here hx rfl (hb hby at_72) k) ?_
      refine own_pre (T' := T12) (f' := (mkF m 77 #[iv p1, iv p2, iv sel, iv z, rv w_CYRILLIC_LOWER] [(.int (1 : Int32))])) (fun t k => XS.goto X12.here hx rfl (pc0 := 73) (pc' := 77) rfl (hb hby at_73) (by decide) (by decide) k) ?_
      exact own_retZ X12 hx hlk hret (hb hby at_77) rfl (⟨rfl, Fr.nil _⟩) (by decide) (by decide)
    · refine own_pre (T' := Tjn) (f' := (mkF m 51 #[iv p1, iv p2, iv sel, iv z, .unset] [(.int z)])) (fun t k => XS.iloadN Xjn.here hx rfl (hb hby at_50) rfl k) ?_
      obtain ⟨T13, L13, v13, X13, ⟨r13, rfl, E13, rfl, Y13, G13⟩, st13⟩ := own_callS Xjn hx hZ ejn (y := (⟨"com/example/kormilo/kormilo/CharacterClass", "of", "(I)Ljava/util/Optional;"⟩ : MethodName)) hown (hw _ (List.mem_of_getElem? (i := 0) rfl)) (hw _ (List.mem_of_getElem? (i := 1) rfl)) (hw _ (List.mem_of_getElem? (i := 3) rfl)) (hw _ (List.mem_of_getElem? (i := 2) rfl)) (by decide) 0 [(.int z)] [] (own_of l Z a0 hw [] w__VALUES w_CYRILLIC_UPPER w_CYRILLIC_LOWER w_LATIN_UPPER w_LATIN_LOWER w_DIGITS w_SPECIAL w_EMPTY r_ranges_CYRILLIC_UPPER r_ranges_CYRILLIC_LOWER r_ranges_LATIN_UPPER r_ranges_LATIN_LOWER r_ranges_DIGITS r_ranges_SPECIAL k__VALUES k_ranges_CYRILLIC_UPPER k_ranges_CYRILLIC_LOWER k_ranges_LATIN_UPPER k_ranges_LATIN_LOWER k_ranges_DIGITS k_ranges_SPECIAL h0 F0 z _ hcl) (by decide) (by decide) (by decide) (by decide) (g := (mkF m 51 #[iv p1, iv p2, iv sel, iv z, .unset] [(.int z)])) rfl (by rw [hml]; rfl) (lenOf pd_6 rfl) rfl (by show 2 * 0 + _ ≤ _; exact Nat.le_of_eq rfl) (hb hby at_51)
      rw [List.append_nil] at X13
      obtain ⟨h13, e13⟩ : ∃ y, T13.heap = y := ⟨_, rfl⟩
      rw [e13] at E13 Y13 G13
      have EX13_h0 : Ext h0 h13 := E13
      refine own_pre (T' := T13) (f' := (mkF m 54 #[iv p1, iv p2, iv sel, iv z, .unset] [(.ref r13)])) (fun t k => st13 t k) ?_
      refine own_pre (T' := T13) (f' := (mkF m 55 #[iv p1, iv p2, iv sel, iv z, .unset] [.null, (.ref r13)])) (fun t k => XS.aconstNull X13.here hx rfl (hb hby at_54) k) ?_
      obtain ⟨T14, X14, e14, st14⟩ := own_pure (f := 0) (n := 0) (v := (some (.ref w_LATIN_UPPER))) (own_callV X13 hx hZ e13 (y := (⟨"java/util/Optional", "orElse", "(Ljava/lang/Object;)Ljava/lang/Object;"⟩ : MethodName)) hown (hw _ (List.mem_of_getElem? (i := 32) rfl)) (hw _ (List.mem_of_getElem? (i := 33) rfl)) (hw _ (List.mem_of_getElem? (i := 35) rfl)) (hw _ (List.mem_of_getElem? (i := 34) rfl)) (hw _ (List.mem_of_getElem? (i := 36) rfl)) (hw _ (List.mem_of_getElem? (i := 29) rfl)) (by decide) 0 [.null] [] (own_orR l Z a0 hw [] w__VALUES w_CYRILLIC_UPPER w_CYRILLIC_LOWER w_LATIN_UPPER w_LATIN_LOWER w_DIGITS w_SPECIAL w_EMPTY r_ranges_CYRILLIC_UPPER r_ranges_CYRILLIC_LOWER r_ranges_LATIN_UPPER r_ranges_LATIN_LOWER r_ranges_DIGITS r_ranges_SPECIAL k__VALUES k_ranges_CYRILLIC_UPPER k_ranges_CYRILLIC_LOWER k_ranges_LATIN_UPPER k_ranges_LATIN_LOWER k_ranges_DIGITS k_ranges_SPECIAL h13 (own_F_ext F0 EX13_h0) r13 w_LATIN_UPPER G13) (by decide) (by decide) (by decide) (by decide) Y13 (g := (mkF m 55 #[iv p1, iv p2, iv sel, iv z, .unset] [.null, (.ref r13)])) rfl (by rw [hml]; rfl) (lenOf pd_0 rfl) rfl (by show 2 * 0 + _ ≤ _; exact Nat.le_of_eq rfl) (hb hby at_55))
      refine own_pre (T' := T14) (f' := (mkF m 58 #[iv p1, iv p2, iv sel, iv z, .unset] [(.ref w_LATIN_UPPER)])) (fun t k => st14 t k) ?_
      obtain ⟨T15, X15, e15, st15⟩ := castY X14 hx hZ hown (hw _ (List.mem_of_getElem? (i := 69) rfl)) e14 (Ins.self (E_LATIN_UPPER.ext EX13_h0)) (g := (mkF m 58 #[iv p1, iv p2, iv sel, iv z, .unset] [(.ref w_LATIN_UPPER)])) rfl rfl (hb hby at_58)
      refine own_pre (T' := T15) (f' := (mkF m 61 #[iv p1, iv p2, iv sel, iv z, .unset] [(.ref w_LATIN_UPPER)])) (fun t k => st15 t k) ?_
      refine own_pre (T' := T15) (f' := (mkF m 63 #[iv p1, iv p2, iv sel, iv z, rv w_LATIN_UPPER] [])) (fun t k => XS.astore X15.here hx rfl (hb hby at_61) rfl rfl (l' := #[iv p1, iv p2, iv sel, iv z, rv w_LATIN_UPPER]) rfl k) ?_
      refine own_pre (T' := T15) (f' := (mkF m 65 #[iv p1, iv p2, iv sel, iv z, rv w_LATIN_UPPER] [(.ref w_LATIN_UPPER)])) (fun t k => XS.aload X15.here hx rfl (hb hby at_63) rfl rfl k) ?_
      refine own_pre (T' := T15) (f' := (mkF m 66 #[iv p1, iv p2, iv sel, iv z, rv w_LATIN_UPPER] [(.int z), (.ref w_LATIN_UPPER)])) (fun t k => XS.iloadN X15.here hx rfl (hb hby at_65) rfl k) ?_
      obtain ⟨T16, X16, e16, st16⟩ := own_pure (f := 1) (n := 12) (v := (some (.ref w_LATIN_UPPER))) (own_callS X15 hx hZ e15 (y := (⟨"com/example/kormilo/kormilo/CharacterClassOfPinLaw", "expected", "(I)Lcom/example/kormilo/kormilo/CharacterClass;"⟩ : MethodName)) hown (hw _ (List.mem_of_getElem? (i := 39) rfl)) (hw _ (List.mem_of_getElem? (i := 40) rfl)) (hw _ (List.mem_of_getElem? (i := 42) rfl)) (hw _ (List.mem_of_getElem? (i := 41) rfl)) (by decide) 1 [(.int z)] [(.ref w_LATIN_UPPER)] (own_expected l Z a0 hw [] w__VALUES w_CYRILLIC_UPPER w_CYRILLIC_LOWER w_LATIN_UPPER w_LATIN_LOWER w_DIGITS w_SPECIAL w_EMPTY r_ranges_CYRILLIC_UPPER r_ranges_CYRILLIC_LOWER r_ranges_LATIN_UPPER r_ranges_LATIN_LOWER r_ranges_DIGITS r_ranges_SPECIAL k__VALUES k_ranges_CYRILLIC_UPPER k_ranges_CYRILLIC_LOWER k_ranges_LATIN_UPPER k_ranges_LATIN_LOWER k_ranges_DIGITS k_ranges_SPECIAL h13 (own_F_ext F0 EX13_h0) z _ hex) (by decide) (by decide) (by decide) (by decide) (g := (mkF m 66 #[iv p1, iv p2, iv sel, iv z, rv w_LATIN_UPPER] [(.int z), (.ref w_LATIN_UPPER)])) rfl (by rw [hml]; rfl) (lenOf pd_7 rfl) rfl (by show 2 * 0 + _ ≤ _; exact Nat.le_of_eq rfl) (hb hby at_66))
      refine own_pre (T' := T16) (f' := (mkF m 69 #[iv p1, iv p2, iv sel, iv z, rv w_LATIN_UPPER] [(.ref w_LATIN_UPPER), (.ref w_LATIN_UPPER)])) (fun t k => st16 t k) ?_
      refine own_pre (T' := T16) (f' := (mkF m 72 #[iv p1, iv p2, iv sel, iv z, rv w_LATIN_UPPER] [])) (fun t k => Jvm.RoadKit.acmp (g := (mkF m 69 #[iv p1, iv p2, iv sel, iv z, rv w_LATIN_UPPER] [(.ref w_LATIN_UPPER), (.ref w_LATIN_UPPER)])) X16 hx rfl rfl rfl (pc0 := 69) (pc' := 72) (same := true) rfl (hb hby at_69) rfl (decide_eq_true rfl) (by decide) (by decide) k) ?_
      refine own_pre (T' := T16) (f' := (mkF m 73 #[iv p1, iv p2, iv sel, iv z, rv w_LATIN_UPPER] [(.int (1 : Int32))])) (fun t k => XS.iconst X16.here hx rfl (hb hby at_72) k) ?_
      refine own_pre (T' := T16) (f' := (mkF m 77 #[iv p1, iv p2, iv sel, iv z, rv w_LATIN_UPPER] [(.int (1 : Int32))])) (fun t k => XS.goto X16.here hx rfl (pc0 := 73) (pc' := 77) rfl (hb hby at_73) (by decide) (by decide) k) ?_
      exact own_retZ X16 hx hlk hret (hb hby at_77) rfl (⟨rfl, Fr.nil _⟩) (by decide) (by decide)
    · refine own_pre (T' := Tjn) (f' := (mkF m 51 #[iv p1, iv p2, iv sel, iv z, .unset] [(.int z)])) (fun t k => XS.iloadN Xjn.here hx rfl (hb hby at_50) rfl k) ?_
      obtain ⟨T17, L17, v17, X17, ⟨r17, rfl, E17, rfl, Y17, G17⟩, st17⟩ := own_callS Xjn hx hZ ejn (y := (⟨"com/example/kormilo/kormilo/CharacterClass", "of", "(I)Ljava/util/Optional;"⟩ : MethodName)) hown (hw _ (List.mem_of_getElem? (i := 0) rfl)) (hw _ (List.mem_of_getElem? (i := 1) rfl)) (hw _ (List.mem_of_getElem? (i := 3) rfl)) (hw _ (List.mem_of_getElem? (i := 2) rfl)) (by decide) 0 [(.int z)] [] (own_of l Z a0 hw [] w__VALUES w_CYRILLIC_UPPER w_CYRILLIC_LOWER w_LATIN_UPPER w_LATIN_LOWER w_DIGITS w_SPECIAL w_EMPTY r_ranges_CYRILLIC_UPPER r_ranges_CYRILLIC_LOWER r_ranges_LATIN_UPPER r_ranges_LATIN_LOWER r_ranges_DIGITS r_ranges_SPECIAL k__VALUES k_ranges_CYRILLIC_UPPER k_ranges_CYRILLIC_LOWER k_ranges_LATIN_UPPER k_ranges_LATIN_LOWER k_ranges_DIGITS k_ranges_SPECIAL h0 F0 z _ hcl) (by decide) (by decide) (by decide) (by decide) (g := (mkF m 51 #[iv p1, iv p2, iv sel, iv z, .unset] [(.int z)])) rfl (by rw [hml]; rfl) (lenOf pd_6 rfl) rfl (by show 2 * 0 + _ ≤ _; exact Nat.le_of_eq rfl) (hb hby at_51)
      rw [List.append_nil] at X17
      obtain ⟨h17, e17⟩ : ∃ y, T17.heap = y := ⟨_, rfl⟩
      rw [e17] at E17 Y17 G17
      have EX17_h0 : Ext h0 h17 := E17
      refine own_pre (T' := T17) (f' := (mkF m 54 #[iv p1, iv p2, iv sel, iv z, .unset] [(.ref r17)])) (fun t k => st17 t k) ?_
      refine own_pre (T' := T17) (f' := (mkF m 55 #[iv p1, iv p2, iv sel, iv z, .unset] [.null, (.ref r17)])) (fun t k => XS.aconstNull X17.here hx rfl (hb hby at_54) k) ?_
      obtain ⟨T18, X18, e18, st18⟩ := own_pure (f := 0) (n := 0) (v := (some (.ref w_LATIN_LOWER))) (own_callV X17 hx hZ e17 (y := (⟨"java/util/Optional", "orElse", "(Ljava/lang/Object;)Ljava/lang/Object;"⟩ : MethodName)) hown (hw _ (List.mem_of_getElem? (i := 32) rfl)) (hw _ (List.mem_of_getElem? (i := 33) rfl)) (hw _ (List.mem_of_getElem? (i := 35) rfl)) (hw _ (List.mem_of_getElem? (i := 34) rfl)) (hw _ (List.mem_of_getElem? (i := 36) rfl)) (hw _ (List.mem_of_getElem? (i := 29) rfl)) (by decide) 0 [.null] [] (own_orR l Z a0 hw [] w__VALUES w_CYRILLIC_UPPER w_CYRILLIC_LOWER w_LATIN_UPPER w_LATIN_LOWER w_DIGITS w_SPECIAL w_EMPTY r_ranges_CYRILLIC_UPPER r_ranges_CYRILLIC_LOWER r_ranges_LATIN_UPPER r_ranges_LATIN_LOWER r_ranges_DIGITS r_ranges_SPECIAL k__VALUES k_ranges_CYRILLIC_UPPER k_ranges_CYRILLIC_LOWER k_ranges_LATIN_UPPER k_ranges_LATIN_LOWER k_ranges_DIGITS k_ranges_SPECIAL h17 (own_F_ext F0 EX17_h0) r17 w_LATIN_LOWER G17) (by decide) (by decide) (by decide) (by decide) Y17 (g := (mkF m 55 #[iv p1, iv p2, iv sel, iv z, .unset] [.null, (.ref r17)])) rfl (by rw [hml]; rfl) (lenOf pd_0 rfl) rfl (by show 2 * 0 + _ ≤ _; exact Nat.le_of_eq rfl) (hb hby at_55))
      refine own_pre (T' := T18) (f' := (mkF m 58 #[iv p1, iv p2, iv sel, iv z, .unset] [(.ref w_LATIN_LOWER)])) (fun t k => st18 t k) ?_
      obtain ⟨T19, X19, e19, st19⟩ := castY X18 hx hZ hown (hw _ (List.mem_of_getElem? (i := 69) rfl)) e18 (Ins.self (E_LATIN_LOWER.ext EX17_h0)) (g := (mkF m 58 #[iv p1, iv p2, iv sel, iv z, .unset] [(.ref w_LATIN_LOWER)])) rfl rfl (hb hby at_58)
      refine own_pre (T' := T19) (f' := (mkF m 61 #[iv p1, iv p2, iv sel, iv z, .unset] [(.ref w_LATIN_LOWER)])) (fun t k => st19 t k) ?_
      refine own_pre (T' := T19) (f' := (mkF m 63 #[iv p1, iv p2, iv sel, iv z, rv w_LATIN_LOWER] [])) (fun t k => XS.astore X19.here hx rfl (hb hby at_61) rfl rfl (l' := #[iv p1, iv p2, iv sel, iv z, rv w_LATIN_LOWER]) rfl k) ?_
      refine own_pre (T' := T19) (f' := (mkF m 65 #[iv p1, iv p2, iv sel, iv z, rv w_LATIN_LOWER] [(.ref w_LATIN_LOWER)])) (fun t k => XS.aload X19.here hx rfl (hb hby at_63) rfl rfl k) ?_
      refine own_pre (T' := T19) (f' := (mkF m 66 #[iv p1, iv p2, iv sel, iv z, rv w_LATIN_LOWER] [(.int z), (.ref w_LATIN_LOWER)])) (fun t k => XS.iloadN X19.here hx rfl (hb hby at_65) rfl k) ?_
      obtain ⟨T20, X20, e20, st20⟩ := own_pure (f := 1) (n := 12) (v := (some (.ref w_LATIN_LOWER))) (own_callS X19 hx hZ e19 (y := (⟨"com/example/kormilo/kormilo/CharacterClassOfPinLaw", "expected", "(I)Lcom/example/kormilo/kormilo/CharacterClass;"⟩ : MethodName)) hown (hw _ (List.mem_of_getElem? (i := 39) rfl)) (hw _ (List.mem_of_getElem? (i := 40) rfl)) (hw _ (List.mem_of_getElem? (i := 42) rfl)) (hw _ (List.mem_of_getElem? (i := 41) rfl)) (by decide) 1 [(.int z)] [(.ref w_LATIN_LOWER)] (own_expected l Z a0 hw [] w__VALUES w_CYRILLIC_UPPER w_CYRILLIC_LOWER w_LATIN_UPPER w_LATIN_LOWER w_DIGITS w_SPECIAL w_EMPTY r_ranges_CYRILLIC_UPPER r_ranges_CYRILLIC_LOWER r_ranges_LATIN_UPPER r_ranges_LATIN_LOWER r_ranges_DIGITS r_ranges_SPECIAL k__VALUES k_ranges_CYRILLIC_UPPER k_ranges_CYRILLIC_LOWER k_ranges_LATIN_UPPER k_ranges_LATIN_LOWER k_ranges_DIGITS k_ranges_SPECIAL h17 (own_F_ext F0 EX17_h0) z _ hex) (by decide) (by decide) (by decide) (by decide) (g := (mkF m 66 #[iv p1, iv p2, iv sel, iv z, rv w_LATIN_LOWER] [(.int z), (.ref w_LATIN_LOWER)])) rfl (by rw [hml]; rfl) (lenOf pd_7 rfl) rfl (by show 2 * 0 + _ ≤ _; exact Nat.le_of_eq rfl) (hb hby at_66))
      refine own_pre (T' := T20) (f' := (mkF m 69 #[iv p1, iv p2, iv sel, iv z, rv w_LATIN_LOWER] [(.ref w_LATIN_LOWER), (.ref w_LATIN_LOWER)])) (fun t k => st20 t k) ?_
      refine own_pre (T' := T20) (f' := (mkF m 72 #[iv p1, iv p2, iv sel, iv z, rv w_LATIN_LOWER] [])) (fun t k => Jvm.RoadKit.acmp (g := (mkF m 69 #[iv p1, iv p2, iv sel, iv z, rv w_LATIN_LOWER] [(.ref w_LATIN_LOWER), (.ref w_LATIN_LOWER)])) X20 hx rfl rfl rfl (pc0 := 69) (pc' := 72) (same := true) rfl (hb hby at_69) rfl (decide_eq_true rfl) (by decide) (by decide) k) ?_
      refine own_pre (T' := T20) (f' := (mkF m 73 #[iv p1, iv p2, iv sel, iv z, rv w_LATIN_LOWER] [(.int (1 : Int32))])) (fun t k => XS.iconst X20.here hx rfl (hb hby at_72) k) ?_
      refine own_pre (T' := T20) (f' := (mkF m 77 #[iv p1, iv p2, iv sel, iv z, rv w_LATIN_LOWER] [(.int (1 : Int32))])) (fun t k => XS.goto X20.here hx rfl (pc0 := 73) (pc' := 77) rfl (hb hby at_73) (by decide) (by decide) k) ?_
      exact own_retZ X20 hx hlk hret (hb hby at_77) rfl (⟨rfl, Fr.nil _⟩) (by decide) (by decide)
    · refine own_pre (T' := Tjn) (f' := (mkF m 51 #[iv p1, iv p2, iv sel, iv z, .unset] [(.int z)])) (fun t k => XS.iloadN Xjn.here hx rfl (hb hby at_50) rfl k) ?_
      obtain ⟨T21, L21, v21, X21, ⟨r21, rfl, E21, rfl, Y21, G21⟩, st21⟩ := own_callS Xjn hx hZ ejn (y := (⟨"com/example/kormilo/kormilo/CharacterClass", "of", "(I)Ljava/util/Optional;"⟩ : MethodName)) hown (hw _ (List.mem_of_getElem? (i := 0) rfl)) (hw _ (List.mem_of_getElem? (i := 1) rfl)) (hw _ (List.mem_of_getElem? (i := 3) rfl)) (hw _ (List.mem_of_getElem? (i := 2) rfl)) (by decide) 0 [(.int z)] [] (own_of l Z a0 hw [] w__VALUES w_CYRILLIC_UPPER w_CYRILLIC_LOWER w_LATIN_UPPER w_LATIN_LOWER w_DIGITS w_SPECIAL w_EMPTY r_ranges_CYRILLIC_UPPER r_ranges_CYRILLIC_LOWER r_ranges_LATIN_UPPER r_ranges_LATIN_LOWER r_ranges_DIGITS r_ranges_SPECIAL k__VALUES k_ranges_CYRILLIC_UPPER k_ranges_CYRILLIC_LOWER k_ranges_LATIN_UPPER k_ranges_LATIN_LOWER k_ranges_DIGITS k_ranges_SPECIAL h0 F0 z _ hcl) (by decide) (by decide) (by decide) (by decide) (g := (mkF m 51 #[iv p1, iv p2, iv sel, iv z, .unset] [(.int z)])) rfl (by rw [hml]; rfl) (lenOf pd_6 rfl) rfl (by show 2 * 0 + _ ≤ _; exact Nat.le_of_eq rfl) (hb hby at_51)
      rw [List.append_nil] at X21
      obtain ⟨h21, e21⟩ : ∃ y, T21.heap = y := ⟨_, rfl⟩
      rw [e21] at E21 Y21 G21
      have EX21_h0 : Ext h0 h21 := E21
      refine own_pre (T' := T21) (f' := (mkF m 54 #[iv p1, iv p2, iv sel, iv z, .unset] [(.ref r21)])) (fun t k => st21 t k) ?_
      refine own_pre (T' := T21) (f' := (mkF m 55 #[iv p1, iv p2, iv sel, iv z, .unset] [.null, (.ref r21)])) (fun t k => XS.aconstNull X21.here hx rfl (hb hby at_54) k) ?_
      obtain ⟨T22, X22, e22, st22⟩ := own_pure (f := 0) (n := 0) (v := (some (.ref w_DIGITS))) (own_callV X21 hx hZ e21 (y := (⟨"java/util/Optional", "orElse", "(Ljava/lang/Object;)Ljava/lang/Object;"⟩ : MethodName)) hown (hw _ (List.mem_of_getElem? (i := 32) rfl)) (hw _ (List.mem_of_getElem? (i := 33) rfl)) (hw _ (List.mem_of_getElem? (i := 35) rfl)) (hw _ (List.mem_of_getElem? (i := 34) rfl)) (hw _ (List.mem_of_getElem? (i := 36) rfl)) (hw _ (List.mem_of_getElem? (i := 29) rfl)) (by decide) 0 [.null] [] (own_orR l Z a0 hw [] w__VALUES w_CYRILLIC_UPPER w_CYRILLIC_LOWER w_LATIN_UPPER w_LATIN_LOWER w_DIGITS w_SPECIAL w_EMPTY r_ranges_CYRILLIC_UPPER r_ranges_CYRILLIC_LOWER r_ranges_LATIN_UPPER r_ranges_LATIN_LOWER r_ranges_DIGITS r_ranges_SPECIAL k__VALUES k_ranges_CYRILLIC_UPPER k_ranges_CYRILLIC_LOWER k_ranges_LATIN_UPPER k_ranges_LATIN_LOWER k_ranges_DIGITS k_ranges_SPECIAL h21 (own_F_ext F0 EX21_h0) r21 w_DIGITS G21) (by decide) (by decide) (by decide) (by decide) Y21 (g := (mkF m 55 #[iv p1, iv p2, iv sel, iv z, .unset] [.null, (.ref r21)])) rfl (by rw [hml]; rfl) (lenOf pd_0 rfl) rfl (by show 2 * 0 + _ ≤ _; exact Nat.le_of_eq rfl) (hb hby at_55))
      refine own_pre (T' := T22) (f' := (mkF m 58 #[iv p1, iv p2, iv sel, iv z, .unset] [(.ref w_DIGITS)])) (fun t k => st22 t k) ?_
      obtain ⟨T23, X23, e23, st23⟩ := castY X22 hx hZ hown (hw _ (List.mem_of_getElem? (i := 69) rfl)) e22 (Ins.self (E_DIGITS.ext EX21_h0)) (g := (mkF m 58 #[iv p1, iv p2, iv sel, iv z, .unset] [(.ref w_DIGITS)])) rfl rfl (hb hby at_58)
      refine own_pre (T' := T23) (f' := (mkF m 61 #[iv p1, iv p2, iv sel, iv z, .unset] [(.ref w_DIGITS)])) (fun t k => st23 t k) ?_
      refine own_pre (T' := T23) (f' := (mkF m 63 #[iv p1, iv p2, iv sel, iv z, rv w_DIGITS] [])) (fun t k => XS.astore X23.here hx rfl (hb hby at_61) rfl rfl (l' := #[iv p1, iv p2, iv sel, iv z, rv w_DIGITS]) rfl k) ?_
      refine own_pre (T' := T23) (f' := (mkF m 65 #[iv p1, iv p2, iv sel, iv z, rv w_DIGITS] [(.ref w_DIGITS)])) (fun t k => XS.aload X23.here hx rfl (hb hby at_63) rfl rfl k) ?_
      refine own_pre (T' := T23) (f' := (mkF m 66 #[iv p1, iv p2, iv sel, iv z, rv w_DIGITS] [(.int z), (.ref w_DIGITS)])) (fun t k => XS.iloadN X23.here hx rfl (hb hby at_65) rfl k) ?_
      obtain ⟨T24, X24, e24, st24⟩ := own_pure (f := 1) (n := 12) (v := (some (.ref w_DIGITS))) (own_callS X23 hx hZ e23 (y := (⟨"com/example/kormilo/kormilo/CharacterClassOfPinLaw", "expected", "(I)Lcom/example/kormilo/kormilo/CharacterClass;"⟩ : MethodName)) hown (hw _ (List.mem_of_getElem? (i := 39) rfl)) (hw _ (List.mem_of_getElem? (i := 40) rfl)) (hw _ (List.mem_of_getElem? (i := 42) rfl)) (hw _ (List.mem_of_getElem? (i := 41) rfl)) (by decide) 1 [(.int z)] [(.ref w_DIGITS)] (own_expected l Z a0 hw [] w__VALUES w_CYRILLIC_UPPER w_CYRILLIC_LOWER w_LATIN_UPPER w_LATIN_LOWER w_DIGITS w_SPECIAL w_EMPTY r_ranges_CYRILLIC_UPPER r_ranges_CYRILLIC_LOWER r_ranges_LATIN_UPPER r_ranges_LATIN_LOWER r_ranges_DIGITS r_ranges_SPECIAL k__VALUES k_ranges_CYRILLIC_UPPER k_ranges_CYRILLIC_LOWER k_ranges_LATIN_UPPER k_ranges_LATIN_LOWER k_ranges_DIGITS k_ranges_SPECIAL h21 (own_F_ext F0 EX21_h0) z _ hex) (by decide) (by decide) (by decide) (by decide) (g := (mkF m 66 #[iv p1, iv p2, iv sel, iv z, rv w_DIGITS] [(.int z), (.ref w_DIGITS)])) rfl (by rw [hml]; rfl) (lenOf pd_7 rfl) rfl (by show 2 * 0 + _ ≤ _; exact Nat.le_of_eq rfl) (hb hby at_66))
      refine own_pre (T' := T24) (f' := (mkF m 69 #[iv p1, iv p2, iv sel, iv z, rv w_DIGITS] [(.ref w_DIGITS), (.ref w_DIGITS)])) (fun t k => st24 t k) ?_
      refine own_pre (T' := T24) (f' := (mkF m 72 #[iv p1, iv p2, iv sel, iv z, rv w_DIGITS] [])) (fun t k => Jvm.RoadKit.acmp (g := (mkF m 69 #[iv p1, iv p2, iv sel, iv z, rv w_DIGITS] [(.ref w_DIGITS), (.ref w_DIGITS)])) X24 hx rfl rfl rfl (pc0 := 69) (pc' := 72) (same := true) rfl (hb hby at_69) rfl (decide_eq_true rfl) (by decide) (by decide) k) ?_
      refine own_pre (T' := T24) (f' := (mkF m 73 #[iv p1, iv p2, iv sel, iv z, rv w_DIGITS] [(.int (1 : Int32))])) (fun t k => XS.iconst X24.here hx rfl (hb hby at_72) k) ?_
      refine own_pre (T' := T24) (f' := (mkF m 77 #[iv p1, iv p2, iv sel, iv z, rv w_DIGITS] [(.int (1 : Int32))])) (fun t k => XS.goto X24.here hx rfl (pc0 := 73) (pc' := 77) rfl (hb hby at_73) (by decide) (by decide) k) ?_
      exact own_retZ X24 hx hlk hret (hb hby at_77) rfl (⟨rfl, Fr.nil _⟩) (by decide) (by decide)
    · refine own_pre (T' := Tjn) (f' := (mkF m 51 #[iv p1, iv p2, iv sel, iv z, .unset] [(.int z)])) (fun t k => XS.iloadN Xjn.here hx rfl (hb hby at_50) rfl k) ?_
      obtain ⟨T25, L25, v25, X25, ⟨r25, rfl, E25, rfl, Y25, G25⟩, st25⟩ := own_callS Xjn hx hZ ejn (y := (⟨"com/example/kormilo/kormilo/CharacterClass", "of", "(I)Ljava/util/Optional;"⟩ : MethodName)) hown (hw _ (List.mem_of_getElem? (i := 0) rfl)) (hw _ (List.mem_of_getElem? (i := 1) rfl)) (hw _ (List.mem_of_getElem? (i := 3) rfl)) (hw _ (List.mem_of_getElem? (i := 2) rfl)) (by decide) 0 [(.int z)] [] (own_of l Z a0 hw [] w__VALUES w_CYRILLIC_UPPER w_CYRILLIC_LOWER w_LATIN_UPPER w_LATIN_LOWER w_DIGITS w_SPECIAL w_EMPTY r_ranges_CYRILLIC_UPPER r_ranges_CYRILLIC_LOWER r_ranges_LATIN_UPPER r_ranges_LATIN_LOWER r_ranges_DIGITS r_ranges_SPECIAL k__VALUES k_ranges_CYRILLIC_UPPER k_ranges_CYRILLIC_LOWER k_ranges_LATIN_UPPER k_ranges_LATIN_LOWER k_ranges_DIGITS k_ranges_SPECIAL h0 F0 z _ hcl) (by decide) (by decide) (by decide) (by decide) (g := (mkF m 51 #[iv p1, iv p2, iv sel, iv z, .unset] [(.int z)])) rfl (by rw [hml]; rfl) (lenOf pd_6 rfl) rfl (by show 2 * 0 + _ ≤ _; exact Nat.le_of_eq rfl) (hb hby at_51)
      rw [List.append_nil] at X25
      obtain ⟨h25, e25⟩ : ∃ y, T25.heap = y := ⟨_, rfl⟩
      rw [e25] at E25 Y25 G25
      have EX25_h0 : Ext h0 h25 := E25
      refine own_pre (T' := T25) (f' := (mkF m 54 #[iv p1, iv p2, iv sel, iv z, .unset] [(.ref r25)])) (fun t k => st25 t k) ?_
      refine own_pre (T' := T25) (f' := (mkF m 55 #[iv p1, iv p2, iv sel, iv z, .unset] [.null, (.ref r25)])) (fun t k => XS.aconstNull X25.here hx rfl (hb hby at_54) k) ?_
      obtain ⟨T26, X26, e26, st26⟩ := own_pure (f := 0) (n := 0) (v := (some (.ref w_SPECIAL))) (own_callV X25 hx hZ e25 (y := (⟨"java/util/Optional", "orElse", "(Ljava/lang/Object;)Ljava/lang/Object;"⟩ : MethodName)) hown (hw _ (List.mem_of_getElem? (i := 32) rfl)) (hw _ (List.mem_of_getElem? (i := 33) rfl)) (hw _ (List.mem_of_getElem? (i := 35) rfl)) (hw _ (List.mem_of_getElem? (i := 34) rfl)) (hw _ (List.mem_of_getElem? (i := 36) rfl)) (hw _ (List.mem_of_getElem? (i := 29) rfl)) (by decide) 0 [.null] [] (own_orR l Z a0 hw [] w__VALUES w_CYRILLIC_UPPER w_CYRILLIC_LOWER w_LATIN_UPPER w_LATIN_LOWER w_DIGITS w_SPECIAL w_EMPTY r_ranges_CYRILLIC_UPPER r_ranges_CYRILLIC_LOWER r_ranges_LATIN_UPPER r_ranges_LATIN_LOWER r_ranges_DIGITS r_ranges_SPECIAL k__VALUES k_ranges_CYRILLIC_UPPER k_ranges_CYRILLIC_LOWER k_ranges_LATIN_UPPER k_ranges_LATIN_LOWER k_ranges_DIGITS k_ranges_SPECIAL h25 (own_F_ext F0 EX25_h0) r25 w_SPECIAL G25) (by decide) (by decide) (by decide) (by decide) Y25 (g := (mkF m 55 #[iv p1, iv p2, iv sel, iv z, .unset] [.null, (.ref r25)])) rfl (by rw [hml]; rfl) (lenOf pd_0 rfl) rfl (by show 2 * 0 + _ ≤ _; exact Nat.le_of_eq rfl) (hb hby at_55))
      refine own_pre (T' := T26) (f' := (mkF m 58 #[iv p1, iv p2, iv sel, iv z, .unset] [(.ref w_SPECIAL)])) (fun t k => st26 t k) ?_
      obtain ⟨T27, X27, e27, st27⟩ := castY X26 hx hZ hown (hw _ (List.mem_of_getElem? (i := 69) rfl)) e26 (Ins.self (E_SPECIAL.ext EX25_h0)) (g := (mkF m 58 #[iv p1, iv p2, iv sel, iv z, .unset] [(.ref w_SPECIAL)])) rfl rfl (hb hby at_58)
      refine own_pre (T' := T27) (f' := (mkF m 61 #[iv p1, iv p2, iv sel, iv z, .unset] [(.ref w_SPECIAL)])) (fun t k => st27 t k) ?_
      refine own_pre (T' := T27) (f' := (mkF m 63 #[iv p1, iv p2, iv sel, iv z, rv w_SPECIAL] [])) (fun t k => XS.astore X27.here hx rfl (hb hby at_61) rfl rfl (l' := #[iv p1, iv p2, iv sel, iv z, rv w_SPECIAL]) rfl k) ?_
      refine own_pre (T' := T27) (f' := (mkF m 65 #[iv p1, iv p2, iv sel, iv z, rv w_SPECIAL] [(.ref w_SPECIAL)])) (fun t k => XS.aload X27.here hx rfl (hb hby at_63) rfl rfl k) ?_
      refine own_pre (T' := T27) (f' := (mkF m 66 #[iv p1, iv p2, iv sel, iv z, rv w_SPECIAL] [(.int z), (.ref w_SPECIAL)])) (fun t k => XS.iloadN X27.here hx rfl (hb hby at_65) rfl k) ?_
      obtain ⟨T28, X28, e28, st28⟩ := own_pure (f := 1) (n := 12) (v := (some (.ref w_SPECIAL))) (own_callS X27 hx hZ e27 (y := (⟨"com/example/kormilo/kormilo/CharacterClassOfPinLaw", "expected", "(I)Lcom/example/kormilo/kormilo/CharacterClass;"⟩ : MethodName)) hown (hw _ (List.mem_of_getElem? (i := 39) rfl)) (hw _ (List.mem_of_getElem? (i := 40) rfl)) (hw _ (List.mem_of_getElem? (i := 42) rfl)) (hw _ (List.mem_of_getElem? (i := 41) rfl)) (by decide) 1 [(.int z)] [(.ref w_SPECIAL)] (own_expected l Z a0 hw [] w__VALUES w_CYRILLIC_UPPER w_CYRILLIC_LOWER w_LATIN_UPPER w_LATIN_LOWER w_DIGITS w_SPECIAL w_EMPTY r_ranges_CYRILLIC_UPPER r_ranges_CYRILLIC_LOWER r_ranges_LATIN_UPPER r_ranges_LATIN_LOWER r_ranges_DIGITS r_ranges_SPECIAL k__VALUES k_ranges_CYRILLIC_UPPER k_ranges_CYRILLIC_LOWER k_ranges_LATIN_UPPER k_ranges_LATIN_LOWER k_ranges_DIGITS k_ranges_SPECIAL h25 (own_F_ext F0 EX25_h0) z _ hex) (by decide) (by decide) (by decide) (by decide) (g := (mkF m 66 #[iv p1, iv p2, iv sel, iv z, rv w_SPECIAL] [(.int z), (.ref w_SPECIAL)])) rfl (by rw [hml]; rfl) (lenOf pd_7 rfl) rfl (by show 2 * 0 + _ ≤ _; exact Nat.le_of_eq rfl) (hb hby at_66))
      refine own_pre (T' := T28) (f' := (mkF m 69 #[iv p1, iv p2, iv sel, iv z, rv w_SPECIAL] [(.ref w_SPECIAL), (.ref w_SPECIAL)])) (fun t k => st28 t k) ?_
      refine own_pre (T' := T28) (f' := (mkF m 72 #[iv p1, iv p2, iv sel, iv z, rv w_SPECIAL] [])) (fun t k => Jvm.RoadKit.acmp (g := (mkF m 69 #[iv p1, iv p2, iv sel, iv z, rv w_SPECIAL] [(.ref w_SPECIAL), (.ref w_SPECIAL)])) X28 hx rfl rfl rfl (pc0 := 69) (pc' := 72) (same := true) rfl (hb hby at_69) rfl (decide_eq_true rfl) (by decide) (by decide) k) ?_
      refine own_pre (T' := T28) (f' := (mkF m 73 #[iv p1, iv p2, iv sel, iv z, rv w_SPECIAL] [(.int (1 : Int32))])) (fun t k => XS.iconst X28.here hx rfl (hb hby at_72) k) ?_
      refine own_pre (T' := T28) (f' := (mkF m 77 #[iv p1, iv p2, iv sel, iv z, rv w_SPECIAL] [(.int (1 : Int32))])) (fun t k => XS.goto X28.here hx rfl (pc0 := 73) (pc' := 77) rfl (hb hby at_73) (by decide) (by decide) k) ?_
      exact own_retZ X28 hx hlk hret (hb hby at_77) rfl (⟨rfl, Fr.nil _⟩) (by decide) (by decide)
  refine own_pre (T' := s₁) (f' := (mkF m 1 #[iv p1, iv p2, .unset, .unset, .unset] [(.int p1)])) (fun t k => XS.iloadN X0.here hx rfl (hb hby at_0) rfl k) ?_
  refine own_pre (T' := s₁) (f' := (mkF m 2 #[iv p1, iv p2, .unset, .unset, .unset] [(.int (3 : Int32)), (.int p1)])) (fun t k => XS.iconst X0.here hx rfl (hb hby at_1) k) ?_
  refine own_pre (T' := s₁) (f' := (mkF m 3 #[iv p1, iv p2, .unset, .unset, .unset] [(.int (p1 &&& (3 : Int32)))])) (fun t k => XS.iand X0.here hx rfl (hb hby at_2) rfl k) ?_
  refine own_pre (T' := s₁) (f' := (mkF m 4 #[iv p1, iv p2, iv (p1 &&& (3 : Int32)), .unset, .unset] [])) (fun t k => XS.istoreN X0.here hx rfl (hb hby at_3) rfl (l' := #[iv p1, iv p2, iv (p1 &&& (3 : Int32)), .unset, .unset]) rfl k) ?_
  refine own_pre (T' := s₁) (f' := (mkF m 5 #[iv p1, iv p2, iv (p1 &&& (3 : Int32)), .unset, .unset] [(.int (p1 &&& (3 : Int32)))])) (fun t k => XS.iloadN X0.here hx rfl (hb hby at_4) rfl k) ?_
  by_cases hc29 : (p1 &&& (3 : Int32)) = (0 : Int32)
  · refine own_pre (T' := s₁) (f' := (mkF m 8 #[iv p1, iv p2, iv (p1 &&& (3 : Int32)), .unset, .unset] [])) (fun t k => XS.ifNo X0.here hx rfl (hb hby at_5) rfl ((if0 _ _).trans (teq hc29).2) k) ?_
    refine own_pre (T' := s₁) (f' := (mkF m 9 #[iv p1, iv p2, iv (p1 &&& (3 : Int32)), .unset, .unset] [(.int p2)])) (fun t k => XS.iloadN X0.here hx rfl (hb hby at_8) rfl k) ?_
    refine own_pre (T' := s₁) (f' := (mkF m 10 #[iv p1, iv p2, iv (p1 &&& (3 : Int32)), iv p2, .unset] [])) (fun t k => XS.istoreN X0.here hx rfl (hb hby at_9) rfl (l' := #[iv p1, iv p2, iv (p1 &&& (3 : Int32)), iv p2, .unset]) rfl k) ?_
    refine own_pre (T' := s₁) (f' := (mkF m 50 #[iv p1, iv p2, iv (p1 &&& (3 : Int32)), iv p2, .unset] [])) (fun t k => XS.goto X0.here hx rfl (pc0 := 10) (pc' := 50) rfl (hb hby at_10) (by decide) (by decide) k) ?_
    exact jn p2 (p1 &&& (3 : Int32)) s₁ X0 e0
  · refine own_pre (T' := s₁) (f' := (mkF m 13 #[iv p1, iv p2, iv (p1 &&& (3 : Int32)), .unset, .unset] [])) (fun t k => XS.ifYes X0.here hx rfl (pc0 := 5) (pc' := 13) rfl (hb hby at_5) rfl ((if0 _ _).trans (feq hc29).2) (by decide) (by decide) k) ?_
    refine own_pre (T' := s₁) (f' := (mkF m 14 #[iv p1, iv p2, iv (p1 &&& (3 : Int32)), .unset, .unset] [(.int (p1 &&& (3 : Int32)))])) (fun t k => XS.iloadN X0.here hx rfl (hb hby at_13) rfl k) ?_
    refine own_pre (T' := s₁) (f' := (mkF m 15 #[iv p1, iv p2, iv (p1 &&& (3 : Int32)), .unset, .unset] [(.int (1 : Int32)), (.int (p1 &&& (3 : Int32)))])) (fun t k => XS.iconst X0.here hx rfl (hb hby at_14) k) ?_
    by_cases hc30 : (p1 &&& (3 : Int32)) = (1 : Int32)
    · refine own_pre (T' := s₁) (f' := (mkF m 18 #[iv p1, iv p2, iv (p1 &&& (3 : Int32)), .unset, .unset] [])) (fun t k => XS.icmpNo X0.here hx rfl (hb hby at_15) rfl (teq hc30).2 k) ?_
      refine own_pre (T' := s₁) (f' := (mkF m 19 #[iv p1, iv p2, iv (p1 &&& (3 : Int32)), .unset, .unset] [(.int p2)])) (fun t k => XS.iloadN X0.here hx rfl (hb hby at_18) rfl k) ?_
      refine own_pre (T' := s₁) (f' := (mkF m 22 #[iv p1, iv p2, iv (p1 &&& (3 : Int32)), .unset, .unset] [(.int (255 : Int32)), (.int p2)])) (fun t k => XS.sipush X0.here hx rfl (hb hby at_19) k) ?_
      refine own_pre (T' := s₁) (f' := (mkF m 23 #[iv p1, iv p2, iv (p1 &&& (3 : Int32)), .unset, .unset] [(.int (p2 &&& (255 : Int32)))])) (fun t k => XS.iand X0.here hx rfl (hb hby at_22) rfl k) ?_
      refine own_pre (T' := s₁) (f' := (mkF m 24 #[iv p1, iv p2, iv (p1 &&& (3 : Int32)), iv (p2 &&& (255 : Int32)), .unset] [])) (fun t k => XS.istoreN X0.here hx rfl (hb hby at_23) rfl (l' := #[iv p1, iv p2, iv (p1 &&& (3 : Int32)), iv (p2 &&& (255 : Int32)), .unset]) rfl k) ?_
      refine own_pre (T' := s₁) (f' := (mkF m 50 #[iv p1, iv p2, iv (p1 &&& (3 : Int32)), iv (p2 &&& (255 : Int32)), .unset] [])) (fun t k => XS.goto X0.here hx rfl (pc0 := 24) (pc' := 50) rfl (hb hby at_24) (by decide) (by decide) k) ?_
      exact jn (p2 &&& (255 : Int32)) (p1 &&& (3 : Int32)) s₁ X0 e0
    · refine own_pre (T' := s₁) (f' := (mkF m 27 #[iv p1, iv p2, iv (p1 &&& (3 : Int32)), .unset, .unset] [])) (fun t k => XS.icmpYes X0.here hx rfl (pc0 := 15) (pc' := 27) rfl (hb hby at_15) rfl (feq hc30).2 (by decide) (by decide) k) ?_
      refine own_pre (T' := s₁) (f' := (mkF m 28 #[iv p1, iv p2, iv (p1 &&& (3 : Int32)), .unset, .unset] [(.int (p1 &&& (3 : Int32)))])) (fun t k => XS.iloadN X0.here hx rfl (hb hby at_27) rfl k) ?_
      refine own_pre (T' := s₁) (f' := (mkF m 29 #[iv p1, iv p2, iv (p1 &&& (3 : Int32)), .unset, .unset] [(.int (2 : Int32)), (.int (p1 &&& (3 : Int32)))])) (fun t k => XS.iconst X0.here hx rfl (hb hby at_28) k) ?_
      by_cases hc31 : (p1 &&& (3 : Int32)) = (2 : Int32)
      · refine own_pre (T' := s₁) (f' := (mkF m 32 #[iv p1, iv p2, iv (p1 &&& (3 : Int32)), .unset, .unset] [])) (fun t k => XS.icmpNo X0.here hx rfl (hb hby at_29) rfl (teq hc31).2 k) ?_
        refine own_pre (T' := s₁) (f' := (mkF m 35 #[iv p1, iv p2, iv (p1 &&& (3 : Int32)), .unset, .unset] [(.int (960 : Int32))])) (fun t k => XS.sipush X0.here hx rfl (hb hby at_32) k) ?_
        refine own_pre (T' := s₁) (f' := (mkF m 36 #[iv p1, iv p2, iv (p1 &&& (3 : Int32)), .unset, .unset] [(.int p2), (.int (960 : Int32))])) (fun t k => XS.iloadN X0.here hx rfl (hb hby at_35) rfl k) ?_
        refine own_pre (T' := s₁) (f' := (mkF m 39 #[iv p1, iv p2, iv (p1 &&& (3 : Int32)), .unset, .unset] [(.int (255 : Int32)), (.int p2), (.int (960 : Int32))])) (fun t k => XS.sipush X0.here hx rfl (hb hby at_36) k) ?_
        refine own_pre (T' := s₁) (f' := (mkF m 40 #[iv p1, iv p2, iv (p1 &&& (3 : Int32)), .unset, .unset] [(.int (p2 &&& (255 : Int32))), (.int (960 : Int32))])) (fun t k => XS.iand X0.here hx rfl (hb hby at_39) rfl k) ?_
        refine own_pre (T' := s₁) (f' := (mkF m 41 #[iv p1, iv p2, iv (p1 &&& (3 : Int32)), .unset, .unset] [(.int ((960 : Int32) + (p2 &&& (255 : Int32))))])) (fun t k => XS.iadd X0.here hx rfl (hb hby at_40) rfl k) ?_
        refine own_pre (T' := s₁) (f' := (mkF m 42 #[iv p1, iv p2, iv (p1 &&& (3 : Int32)), iv ((960 : Int32) + (p2 &&& (255 : Int32))), .unset] [])) (fun t k => XS.istoreN X0.here hx rfl (hb hby at_41) rfl (l' := #[iv p1, iv p2, iv (p1 &&& (3 : Int32)), iv ((960 : Int32) + (p2 &&& (255 : Int32))), .unset]) rfl k) ?_
        refine own_pre (T' := s₁) (f' := (mkF m 50 #[iv p1, iv p2, iv (p1 &&& (3 : Int32)), iv ((960 : Int32) + (p2 &&& (255 : Int32))), .unset] [])) (fun t k => XS.goto X0.here hx rfl (pc0 := 42) (pc' := 50) rfl (hb hby at_42) (by decide) (by decide) k) ?_
        exact jn ((960 : Int32) + (p2 &&& (255 : Int32))) (p1 &&& (3 : Int32)) s₁ X0 e0
      · refine own_pre (T' := s₁) (f' := (mkF m 45 #[iv p1, iv p2, iv (p1 &&& (3 : Int32)), .unset, .unset] [])) (fun t k => XS.icmpYes X0.here hx rfl (pc0 := 29) (pc' := 45) rfl (hb hby at_29) rfl (feq hc31).2 (by decide) (by decide) k) ?_
        refine own_pre (T' := s₁) (f' := (mkF m 46 #[iv p1, iv p2, iv (p1 &&& (3 : Int32)), .unset, .unset] [(.int p2)])) (fun t k => XS.iloadN X0.here hx rfl (hb hby at_45) rfl k) ?_
        refine own_pre (T' := s₁) (f' := (mkF m 48 #[iv p1, iv p2, iv (p1 &&& (3 : Int32)), .unset, .unset] [(.int (65535 : Int32)), (.int p2)])) (fun t k => X0.ldcInt hx hown (mvT hZ (hw _ (List.mem_of_getElem? (i := 52) rfl))) (g := (mkF m 46 #[iv p1, iv p2, iv (p1 &&& (3 : Int32)), .unset, .unset] [(.int p2)])) rfl (hb hby at_46) t k) ?_
        refine own_pre (T' := s₁) (f' := (mkF m 49 #[iv p1, iv p2, iv (p1 &&& (3 : Int32)), .unset, .unset] [(.int (p2 &&& (65535 : Int32)))])) (fun t k => XS.iand X0.here hx rfl (hb hby at_48) rfl k) ?_
        refine own_pre (T' := s₁) (f' := (mkF m 50 #[iv p1, iv p2, iv (p1 &&& (3 : Int32)), iv (p2 &&& (65535 : Int32)), .unset] [])) (fun t k => XS.istoreN X0.here hx rfl (hb hby at_49) rfl (l' := #[iv p1, iv p2, iv (p1 &&& (3 : Int32)), iv (p2 &&& (65535 : Int32)), .unset]) rfl k) ?_
        exact jn (p2 &&& (65535 : Int32)) (p1 &&& (3 : Int32)) s₁ X0 e0
set_option maxRecDepth 65536 in
set_option maxHeartbeats 40000000 in
theorem comes_1 {Post : Tables → Env → Array Value → State → Outcome → State → Prop} (hpost : ∀ tb e args s v u, (limb_1_1.after args s (.returned v) u = true ∧ limb_1_2.after args s (.returned v) u = true ∧ True) → FrameEnd s (.returned v) u (Jvm.fieldLocs frame_1_writes args s ++ Jvm.arrayLocs frame_1_arrays args s ++ Jvm.staticLocs frame_1_statics s) 16 128 → Post tb e args s (.returned v) u) :
    ArmFor flags0 classFile x code maxLocals ret World_1 tables_1 room_1 Calls_1 rest_1 Pre_1 Post := by
  intro l hfl _ _ p e ha hc hk s m args below hf hA hF happ hP
  obtain ⟨hcalls, hrest, hpre⟩ := hP
  obtain ⟨-, -, -, hnamed, -, -, -, hat⟩ := (Spec.applies_iff hf).mp happ
  obtain ⟨hg, hn⟩ := and_e (Cond.before_iff.mp (show (Jvm.Cond.and given_1 narrow_1).before args s = true from hpre))
  obtain ⟨gv0, gr0⟩ := and_e hg
  obtain ⟨gv1, gr1⟩ := and_e gr0
  obtain ⟨w0, w1, rfl⟩ : ∃ w0 w1 : Value, args = #[w0, w1] := by
    have hs : args.size = 2 := by simpa [Cond.value, given_1] using gv0
    obtain ⟨L⟩ := args
    match L, hs with
    | [w0, w1], _ => exact ⟨w0, w1, rfl⟩
  have hw := fun d (hd : d ∈ tables_1) => atoms_spec (ws := Jvm.Cond.code x code maxLocals ret :: tables_1) hat d (List.mem_cons_of_mem _ hd)
  have hfit : Fit s := fun {y c} hc i hi => by
    obtain ⟨ha, rfl⟩ := Array.getElem?_eq_some_iff.mp hc
    have q := List.all_eq_true.mp ((Array.all_eq_true_iff_forall_mem.mp hF) _ (Array.getElem_mem ha)) i (List.mem_range.mpr hi)
    simpa [Array.getElem?_eq_getElem hi] using q
  obtain ⟨i0, ei0⟩ := is_v gv1
  obtain rfl : w0 = (.int i0) := Option.some.inj ei0
  obtain ⟨i1, ei1⟩ := is_v gr1
  obtain rfl : w1 = (.int i1) := Option.some.inj ei1
  obtain ⟨hsets, hown0⟩ := atoms_of _ (rest_1_c_eq ▸ (show rest_1_c.before _ s = true from hrest))
  obtain ⟨nw0, nr0⟩ := and_e hn
  obtain ⟨nw1, nr1⟩ := and_e nr0
  obtain ⟨nw2, nr2⟩ := and_e nr1
  obtain ⟨nw3, nr3⟩ := and_e nr2
  obtain ⟨nw4, nr4⟩ := and_e nr3
  obtain ⟨nw5, nr5⟩ := and_e nr4
  obtain ⟨nw6, nr6⟩ := and_e nr5
  obtain ⟨nw7, nr7⟩ := and_e nr6
  obtain ⟨nw8, nr8⟩ := and_e nr7
  obtain ⟨nw9, nr9⟩ := and_e nr8
  obtain ⟨nw10, nr10⟩ := and_e nr9
  obtain ⟨nw11, nr11⟩ := and_e nr10
  obtain ⟨nw12, nr12⟩ := and_e nr11
  obtain ⟨nw13, nr13⟩ := and_e nr12
  obtain ⟨nw14, nr14⟩ := and_e nr13
  obtain ⟨nw15, nr15⟩ := and_e nr14
  obtain ⟨nw16, nr16⟩ := and_e nr15
  obtain ⟨nw17, nr17⟩ := and_e nr16
  obtain ⟨nw18, nr18⟩ := and_e nr17
  obtain ⟨nw19, nr19⟩ := and_e nr18
  obtain ⟨nw20, nr20⟩ := and_e nr19
  obtain ⟨nw21, nr21⟩ := and_e nr20
  obtain ⟨nw22, nr22⟩ := and_e nr21
  obtain ⟨nw23, nr23⟩ := and_e nr22
  obtain ⟨nw24, nr24⟩ := and_e nr23
  obtain ⟨nw25, nr25⟩ := and_e nr24
  obtain ⟨nw26, nr26⟩ := and_e nr25
  obtain ⟨nw27, nr27⟩ := and_e nr26
  obtain ⟨nw28, nr28⟩ := and_e nr27
  obtain ⟨nw29, nr29⟩ := and_e nr28
  obtain ⟨nw30, nr30⟩ := and_e nr29
  obtain ⟨nw31, nr31⟩ := and_e nr30
  obtain ⟨nw32, nr32⟩ := and_e nr31
  obtain ⟨nw33, nr33⟩ := and_e nr32
  obtain ⟨nw34, nr34⟩ := and_e nr33
  obtain ⟨nw35, nr35⟩ := and_e nr34
  obtain ⟨nw36, nr36⟩ := and_e nr35
  obtain ⟨nw37, nr37⟩ := and_e nr36
  obtain ⟨nw38, nr38⟩ := and_e nr37
  obtain ⟨nw39, nr39⟩ := and_e nr38
  obtain ⟨nw40, nr40⟩ := and_e nr39
  obtain ⟨nw41, nr41⟩ := and_e nr40
  obtain ⟨nw42, nr42⟩ := and_e nr41
  obtain ⟨nw43, nr43⟩ := and_e nr42
  obtain ⟨nw44, nr44⟩ := and_e nr43
  obtain ⟨nw45, nr45⟩ := and_e nr44
  obtain ⟨nw46, nr46⟩ := and_e nr45
  obtain ⟨nw47, nr47⟩ := and_e nr46
  have sw2 := Cond.before_iff.mp (hsets _ (List.mem_of_getElem? (i := 2) rfl))
  have sw3 := Cond.before_iff.mp (hsets _ (List.mem_of_getElem? (i := 3) rfl))
  obtain ⟨w__VALUES, ev__VALUES⟩ := exa_v nw1
  obtain ⟨w_CYRILLIC_UPPER, ev_CYRILLIC_UPPER⟩ := exa_v nw3
  obtain ⟨w_CYRILLIC_LOWER, ev_CYRILLIC_LOWER⟩ := exa_v nw5
  obtain ⟨w_LATIN_UPPER, ev_LATIN_UPPER⟩ := exa_v nw7
  obtain ⟨w_LATIN_LOWER, ev_LATIN_LOWER⟩ := exa_v nw9
  obtain ⟨w_DIGITS, ev_DIGITS⟩ := exa_v nw11
  obtain ⟨w_SPECIAL, ev_SPECIAL⟩ := exa_v nw13
  obtain ⟨w_EMPTY, ev_EMPTY⟩ := exa_v sw2
  obtain ⟨cl__VALUES, A__VALUES⟩ := Arr.start ev__VALUES nw0
  obtain ⟨r_ranges_CYRILLIC_UPPER, er_ranges_CYRILLIC_UPPER⟩ := arr_v nw15
  obtain ⟨cl_ranges_CYRILLIC_UPPER, A_ranges_CYRILLIC_UPPER⟩ := Arr.start er_ranges_CYRILLIC_UPPER nw15
  obtain ⟨r_ranges_CYRILLIC_LOWER, er_ranges_CYRILLIC_LOWER⟩ := arr_v nw19
  obtain ⟨cl_ranges_CYRILLIC_LOWER, A_ranges_CYRILLIC_LOWER⟩ := Arr.start er_ranges_CYRILLIC_LOWER nw19
  obtain ⟨r_ranges_LATIN_UPPER, er_ranges_LATIN_UPPER⟩ := arr_v nw23
  obtain ⟨cl_ranges_LATIN_UPPER, A_ranges_LATIN_UPPER⟩ := Arr.start er_ranges_LATIN_UPPER nw23
  obtain ⟨r_ranges_LATIN_LOWER, er_ranges_LATIN_LOWER⟩ := arr_v nw26
  obtain ⟨cl_ranges_LATIN_LOWER, A_ranges_LATIN_LOWER⟩ := Arr.start er_ranges_LATIN_LOWER nw26
  obtain ⟨r_ranges_DIGITS, er_ranges_DIGITS⟩ := arr_v nw29
  obtain ⟨cl_ranges_DIGITS, A_ranges_DIGITS⟩ := Arr.start er_ranges_DIGITS nw29
  obtain ⟨r_ranges_SPECIAL, er_ranges_SPECIAL⟩ := arr_v nw32
  obtain ⟨cl_ranges_SPECIAL, A_ranges_SPECIAL⟩ := Arr.start er_ranges_SPECIAL nw32
  have L__VALUES := own_arrlen A__VALUES ev__VALUES (own_eqI nw2)
  have L_ranges_CYRILLIC_UPPER := own_arrlen A_ranges_CYRILLIC_UPPER er_ranges_CYRILLIC_UPPER (own_eqI nw16)
  have L_ranges_CYRILLIC_LOWER := own_arrlen A_ranges_CYRILLIC_LOWER er_ranges_CYRILLIC_LOWER (own_eqI nw20)
  have L_ranges_LATIN_UPPER := own_arrlen A_ranges_LATIN_UPPER er_ranges_LATIN_UPPER (own_eqI nw24)
  have L_ranges_LATIN_LOWER := own_arrlen A_ranges_LATIN_LOWER er_ranges_LATIN_LOWER (own_eqI nw27)
  have L_ranges_DIGITS := own_arrlen A_ranges_DIGITS er_ranges_DIGITS (own_eqI nw30)
  have L_ranges_SPECIAL := own_arrlen A_ranges_SPECIAL er_ranges_SPECIAL (own_eqI nw33)
  have F : own_F s s.heap w__VALUES w_CYRILLIC_UPPER w_CYRILLIC_LOWER w_LATIN_UPPER w_LATIN_LOWER w_DIGITS w_SPECIAL w_EMPTY r_ranges_CYRILLIC_UPPER r_ranges_CYRILLIC_LOWER r_ranges_LATIN_UPPER r_ranges_LATIN_LOWER r_ranges_DIGITS r_ranges_SPECIAL (cl__VALUES.cls) (cl_ranges_CYRILLIC_UPPER.cls) (cl_ranges_CYRILLIC_LOWER.cls) (cl_ranges_LATIN_UPPER.cls) (cl_ranges_LATIN_LOWER.cls) (cl_ranges_DIGITS.cls) (cl_ranges_SPECIAL.cls) := ⟨Sta.start ev__VALUES (Or.inr ⟨(hw _ (List.mem_of_getElem? (i := 2) rfl)), (hw _ (List.mem_of_getElem? (i := 8) rfl))⟩), Exa.start ev__VALUES nw1, Sta.start ev_CYRILLIC_UPPER (Or.inr ⟨(hw _ (List.mem_of_getElem? (i := 2) rfl)), (hw _ (List.mem_of_getElem? (i := 16) rfl))⟩), Exa.start ev_CYRILLIC_UPPER nw3, Sta.start ev_CYRILLIC_LOWER (Or.inr ⟨(hw _ (List.mem_of_getElem? (i := 2) rfl)), (hw _ (List.mem_of_getElem? (i := 17) rfl))⟩), Exa.start ev_CYRILLIC_LOWER nw5, Sta.start ev_LATIN_UPPER (Or.inr ⟨(hw _ (List.mem_of_getElem? (i := 2) rfl)), (hw _ (List.mem_of_getElem? (i := 18) rfl))⟩), Exa.start ev_LATIN_UPPER nw7, Sta.start ev_LATIN_LOWER (Or.inr ⟨(hw _ (List.mem_of_getElem? (i := 2) rfl)), (hw _ (List.mem_of_getElem? (i := 19) rfl))⟩), Exa.start ev_LATIN_LOWER nw9, Sta.start ev_DIGITS (Or.inr ⟨(hw _ (List.mem_of_getElem? (i := 2) rfl)), (hw _ (List.mem_of_getElem? (i := 20) rfl))⟩), Exa.start ev_DIGITS nw11, Sta.start ev_SPECIAL (Or.inr ⟨(hw _ (List.mem_of_getElem? (i := 2) rfl)), (hw _ (List.mem_of_getElem? (i := 21) rfl))⟩), Exa.start ev_SPECIAL nw13, Sta.start ev_EMPTY (Or.inl (hsets _ (List.mem_of_getElem? (i := 1) rfl))), Exa.start ev_EMPTY sw2, Fld.start ((fld_at ev_CYRILLIC_UPPER).symm.trans er_ranges_CYRILLIC_UPPER), Fld.start ((fld_at ev_CYRILLIC_LOWER).symm.trans er_ranges_CYRILLIC_LOWER), Fld.start ((fld_at ev_LATIN_UPPER).symm.trans er_ranges_LATIN_UPPER), Fld.start ((fld_at ev_LATIN_LOWER).symm.trans er_ranges_LATIN_LOWER), Fld.start ((fld_at ev_DIGITS).symm.trans er_ranges_DIGITS), Fld.start ((fld_at ev_SPECIAL).symm.trans er_ranges_SPECIAL), Fld.start ((fld_at ev_EMPTY).symm.trans (null_v sw3)), Arv.start hfit A__VALUES L__VALUES.1 L__VALUES.2 (by decide) rfl ⟨(elem_in (own_eqR nw4 ev_CYRILLIC_UPPER) ev__VALUES (Term.int_eval _) A__VALUES.1).2, (elem_in (own_eqR nw6 ev_CYRILLIC_LOWER) ev__VALUES (Term.int_eval _) A__VALUES.1).2, (elem_in (own_eqR nw8 ev_LATIN_UPPER) ev__VALUES (Term.int_eval _) A__VALUES.1).2, (elem_in (own_eqR nw10 ev_LATIN_LOWER) ev__VALUES (Term.int_eval _) A__VALUES.1).2, (elem_in (own_eqR nw12 ev_DIGITS) ev__VALUES (Term.int_eval _) A__VALUES.1).2, (elem_in (own_eqR nw14 ev_SPECIAL) ev__VALUES (Term.int_eval _) A__VALUES.1).2, trivial⟩, Arv.start hfit A_ranges_CYRILLIC_UPPER L_ranges_CYRILLIC_UPPER.1 L_ranges_CYRILLIC_UPPER.2 (by decide) rfl ⟨(elem_in (own_eqI nw17) er_ranges_CYRILLIC_UPPER (Term.int_eval _) A_ranges_CYRILLIC_UPPER.1).2, (elem_in (own_eqI nw37) er_ranges_CYRILLIC_UPPER (Term.int_eval _) A_ranges_CYRILLIC_UPPER.1).2, (elem_in (own_eqI nw18) er_ranges_CYRILLIC_UPPER (Term.int_eval _) A_ranges_CYRILLIC_UPPER.1).2, (elem_in (own_eqI nw38) er_ranges_CYRILLIC_UPPER (Term.int_eval _) A_ranges_CYRILLIC_UPPER.1).2, trivial⟩, Arv.start hfit A_ranges_CYRILLIC_LOWER L_ranges_CYRILLIC_LOWER.1 L_ranges_CYRILLIC_LOWER.2 (by decide) rfl ⟨(elem_in (own_eqI nw21) er_ranges_CYRILLIC_LOWER (Term.int_eval _) A_ranges_CYRILLIC_LOWER.1).2, (elem_in (own_eqI nw39) er_ranges_CYRILLIC_LOWER (Term.int_eval _) A_ranges_CYRILLIC_LOWER.1).2, (elem_in (own_eqI nw22) er_ranges_CYRILLIC_LOWER (Term.int_eval _) A_ranges_CYRILLIC_LOWER.1).2, (elem_in (own_eqI nw40) er_ranges_CYRILLIC_LOWER (Term.int_eval _) A_ranges_CYRILLIC_LOWER.1).2, trivial⟩, Arv.start hfit A_ranges_LATIN_UPPER L_ranges_LATIN_UPPER.1 L_ranges_LATIN_UPPER.2 (by decide) rfl ⟨(elem_in (own_eqI nw25) er_ranges_LATIN_UPPER (Term.int_eval _) A_ranges_LATIN_UPPER.1).2, (elem_in (own_eqI nw34) er_ranges_LATIN_UPPER (Term.int_eval _) A_ranges_LATIN_UPPER.1).2, trivial⟩, Arv.start hfit A_ranges_LATIN_LOWER L_ranges_LATIN_LOWER.1 L_ranges_LATIN_LOWER.2 (by decide) rfl ⟨(elem_in (own_eqI nw28) er_ranges_LATIN_LOWER (Term.int_eval _) A_ranges_LATIN_LOWER.1).2, (elem_in (own_eqI nw35) er_ranges_LATIN_LOWER (Term.int_eval _) A_ranges_LATIN_LOWER.1).2, trivial⟩, Arv.start hfit A_ranges_DIGITS L_ranges_DIGITS.1 L_ranges_DIGITS.2 (by decide) rfl ⟨(elem_in (own_eqI nw31) er_ranges_DIGITS (Term.int_eval _) A_ranges_DIGITS.1).2, (elem_in (own_eqI nw36) er_ranges_DIGITS (Term.int_eval _) A_ranges_DIGITS.1).2, trivial⟩, Arv.start hfit A_ranges_SPECIAL L_ranges_SPECIAL.1 L_ranges_SPECIAL.2 (by decide) rfl ⟨(elem_in (own_eqI nw41) er_ranges_SPECIAL (Term.int_eval _) A_ranges_SPECIAL.1).2, (elem_in (own_eqI nw42) er_ranges_SPECIAL (Term.int_eval _) A_ranges_SPECIAL.1).2, (elem_in (own_eqI nw43) er_ranges_SPECIAL (Term.int_eval _) A_ranges_SPECIAL.1).2, (elem_in (own_eqI nw44) er_ranges_SPECIAL (Term.int_eval _) A_ranges_SPECIAL.1).2, (elem_in (own_eqI nw45) er_ranges_SPECIAL (Term.int_eval _) A_ranges_SPECIAL.1).2, (elem_in (own_eqI nw46) er_ranges_SPECIAL (Term.int_eval _) A_ranges_SPECIAL.1).2, (elem_in (own_eqI nw47) er_ranges_SPECIAL (Term.int_eval _) A_ranges_SPECIAL.1).2, (elem_in (own_eqI nr47) er_ranges_SPECIAL (Term.int_eval _) A_ranges_SPECIAL.1).2, trivial⟩⟩
  obtain ⟨n, o, h1, h2, h3, _, L, rfl, ⟨rfl, N⟩, hq⟩ := own_law l s _ hw tables_1 w__VALUES w_CYRILLIC_UPPER w_CYRILLIC_LOWER w_LATIN_UPPER w_LATIN_LOWER w_DIGITS w_SPECIAL w_EMPTY r_ranges_CYRILLIC_UPPER r_ranges_CYRILLIC_LOWER r_ranges_LATIN_UPPER r_ranges_LATIN_LOWER r_ranges_DIGITS r_ranges_SPECIAL (cl__VALUES.cls) (cl_ranges_CYRILLIC_UPPER.cls) (cl_ranges_CYRILLIC_LOWER.cls) (cl_ranges_LATIN_UPPER.cls) (cl_ranges_LATIN_LOWER.cls) (cl_ranges_DIGITS.cls) (cl_ranges_SPECIAL.cls) s.heap F i0 i1  p e ha hc hk s m _ below hf ((Spec.applies_iff_loose hf).mp happ).1 ⟨rfl, State.Warmed39.refl s, rfl⟩ trivial
  refine ⟨n, _, h1, h2, h3, hpost _ _ _ _ _ _ ⟨Cond.after_iff.mpr rfl, Cond.after_iff.mpr (eq_i res_at (Term.int_eval (1)) rfl), trivial⟩ ⟨hq.1, hq.2.1, (hq.2.2.sift fun y hy => Or.inr (N y hy)).mono (by decide) (by decide)⟩⟩
theorem main_1_1 : Claimed_1_1 := comes_1 fun _ _ _ _ _ _ h hF => ⟨h.1, hF⟩
theorem main_1_2 : Claimed_1_2 := comes_1 fun _ _ _ _ _ _ h hF => ⟨h.2.1, hF⟩
end Jvm.Pilot.@@N@@
namespace Jvm.Pilot.@@N@@
open Jvm Jvm.ClassFile Sem Op Lib Jvm.Free Jvm.Stand Jvm.Pilot.@@N@@.Jvm.D
/-! MADE BY PROGRAM (witnessworld.py) out of the Statement's table words and the real class files: 15 classes; the members and pool entries that the words name. The judged class is class 1, her method 1. -/
namespace start1
open Jvm.ClassFile
def u (s : String) : CpInfo := .utf8 (stringToUtf16 s)
/-- a pool by its gaps: so many unusable entries, then the entry; so many at the end -/
def gap : Nat → List CpInfo → List CpInfo
  | 0, r => r
  | n + 1, r => .unusable :: gap n r
def poolList (es : List (Nat × CpInfo)) (last : Nat) : List CpInfo := es.foldr (fun e r => gap e.1 (e.2 :: r)) (gap last [])
def pool (es : List (Nat × CpInfo)) (last : Nat) : Array CpInfo := ⟨poolList es last⟩
def fileOf (pool : Array CpInfo) (this : Nat) (attrs : Array Attribute := #[]) (ms : Array MethodInfo := #[]) (fl : Nat := 33) (sup : Nat := 0) (ifs : Array Nat := #[]) (fds : Array FieldInfo := #[]) : ClassFile where
  minorVersion := 0
  majorVersion := 65
  constantPool := pool
  accessFlags := fl
  thisClass := this
  superClass := sup
  interfaces := ifs
  fields := fds
  methods := ms
  attributes := attrs
def plain (name : String) (sup : Option ClassId) : Class where
  name := name
  kind := .ordinary
  loader := none
  accessFlags := 33
  super := sup
  interfaces := #[]
  cf := none
  fields := #[]
  methods := #[]
  instanceTypes := #[]
  staticTypes := #[]
  resolved := #[]
  callSites := []
  init := .initialized
  statics := none
  mirror := none

def pool0 : Array CpInfo := pool [(5, u "<init>"), (0, u "()V"), (1, .class_ 10), (1, u "java/lang/Object"), (85, u "clone"), (0, u "()Ljava/lang/Object;")] 26

def k0c0 : Code := { maxStack := 0, maxLocals := 1, code := object_method_1_code, exceptionTable := #[], attributes := #[] }
def k0m0 : Method := { name := "<init>", desc := "()V", sig := { parameters := [], returnType := none }, accessFlags := 1, code := some k0c0 }
def k0m1 : Method := { name := "clone", desc := "()Ljava/lang/Object;", sig := { parameters := [], returnType := some (.object "java/lang/Object") }, accessFlags := 260, code := none }
/-- java/lang/Object -/
def k0 : Class := { plain "java/lang/Object" none with
  accessFlags := 33
  interfaces := #[]
  cf := some (fileOf pool0 8 #[] #[{ accessFlags := 1, nameIndex := 5, descriptorIndex := 6, attributes := #[] }, { accessFlags := 260, nameIndex := 96, descriptorIndex := 97, attributes := #[] }] 33 0 #[] #[])
  fields := #[]
  methods := #[k0m0, k0m1]
  instanceTypes := #[]
  staticTypes := #[]
  resolved := Array.replicate 124 none
  statics := none }

def pool1 : Array CpInfo := pool [(2, .class_ 4), (1, u "java/lang/Object"), (0, u "<init>"), (0, u "()V"), (0, .integer 65535), (0, .methodref 9 10), (0, .class_ 11), (0, .nameAndType 12 13), (0, u "com/example/kormilo/kormilo/CharacterClass"), (0, u "of"), (0, u "(I)Ljava/util/Optional;"), (0, .methodref 15 16), (0, .class_ 17), (0, .nameAndType 18 19), (0, u "java/util/Optional"), (0, u "orElse"), (0, u "(Ljava/lang/Object;)Ljava/lang/Object;"), (0, .methodref 21 22), (0, .class_ 23), (0, .nameAndType 24 25), (0, u "com/example/kormilo/kormilo/CharacterClassOfPinLaw"), (0, u "expected"), (0, u "(I)Lcom/example/kormilo/kormilo/CharacterClass;"), (0, .fieldref 9 27), (0, .nameAndType 28 29), (0, u "CYRILLIC_UPPER"), (0, u "Lcom/example/kormilo/kormilo/CharacterClass;"), (0, .fieldref 9 31), (0, .nameAndType 32 29), (0, u "CYRILLIC_LOWER"), (0, .methodref 21 34), (0, .nameAndType 35 36), (0, u "isUpper"), (0, u "(I)Z"), (0, .fieldref 9 38), (0, .nameAndType 39 29), (0, u "LATIN_UPPER"), (0, .methodref 21 41), (0, .nameAndType 42 36), (0, u "isLower"), (0, .fieldref 9 44), (0, .nameAndType 45 29), (0, u "LATIN_LOWER"), (0, .methodref 21 47), (0, .nameAndType 48 36), (0, u "isDigit"), (0, .fieldref 9 50), (0, .nameAndType 51 29), (0, u "DIGITS"), (0, .fieldref 9 53), (0, .nameAndType 54 29), (0, u "SPECIAL"), (2, u "law"), (0, u "(II)Z")] 3

def k1m0 : Method := { name := "<init>", desc := "()V", sig := { parameters := [], returnType := none }, accessFlags := 1, code := none }
def k1c1 : Code := { maxStack := 3, maxLocals := 5, code := code, exceptionTable := #[], attributes := #[] }
def k1m1 : Method := { name := "law", desc := "(II)Z", sig := { parameters := [.int, .int], returnType := some .boolean }, accessFlags := 9, code := some k1c1 }
def k1c2 : Code := { maxStack := 2, maxLocals := 1, code := method_3_code, exceptionTable := #[], attributes := #[] }
def k1m2 : Method := { name := "isDigit", desc := "(I)Z", sig := { parameters := [.int], returnType := some .boolean }, accessFlags := 10, code := some k1c2 }
def k1c3 : Code := { maxStack := 2, maxLocals := 1, code := method_4_code, exceptionTable := #[], attributes := #[] }
def k1m3 : Method := { name := "isUpper", desc := "(I)Z", sig := { parameters := [.int], returnType := some .boolean }, accessFlags := 10, code := some k1c3 }
def k1c4 : Code := { maxStack := 2, maxLocals := 1, code := method_5_code, exceptionTable := #[], attributes := #[] }
def k1m4 : Method := { name := "isLower", desc := "(I)Z", sig := { parameters := [.int], returnType := some .boolean }, accessFlags := 10, code := some k1c4 }
def k1c5 : Code := { maxStack := 2, maxLocals := 1, code := method_6_code, exceptionTable := #[], attributes := #[] }
def k1m5 : Method := { name := "expected", desc := "(I)Lcom/example/kormilo/kormilo/CharacterClass;", sig := { parameters := [.int], returnType := some (.object "com/example/kormilo/kormilo/CharacterClass") }, accessFlags := 10, code := some k1c5 }
/-- com/example/kormilo/kormilo/CharacterClassOfPinLaw -/
def k1 : Class := { plain "com/example/kormilo/kormilo/CharacterClassOfPinLaw" (some 0) with
  accessFlags := 49
  interfaces := #[]
  cf := some (fileOf pool1 21 #[] #[{ accessFlags := 1, nameIndex := 5, descriptorIndex := 6, attributes := #[] }, { accessFlags := 9, nameIndex := 57, descriptorIndex := 58, attributes := #[] }, { accessFlags := 10, nameIndex := 48, descriptorIndex := 36, attributes := #[] }, { accessFlags := 10, nameIndex := 35, descriptorIndex := 36, attributes := #[] }, { accessFlags := 10, nameIndex := 42, descriptorIndex := 36, attributes := #[] }, { accessFlags := 10, nameIndex := 24, descriptorIndex := 25, attributes := #[] }] 49 2 #[] #[])
  fields := #[]
  methods := #[k1m0, k1m1, k1m2, k1m3, k1m4, k1m5]
  instanceTypes := #[]
  staticTypes := #[]
  resolved := Array.replicate 62 none
  statics := none }

def pool2 : Array CpInfo := pool [(1, .class_ 2), (0, u "java/lang/constant/Constable"), (0, .class_ 4), (0, u "java/lang/Object")] 6

/-- java/lang/constant/Constable -/
def k2 : Class := { plain "java/lang/constant/Constable" (some 0) with
  accessFlags := 1537
  interfaces := #[]
  cf := some (fileOf pool2 1 #[] #[] 1537 3 #[] #[])
  fields := #[]
  methods := #[]
  instanceTypes := #[]
  staticTypes := #[]
  resolved := Array.replicate 11 none
  statics := none }

def pool3 : Array CpInfo := pool [(1, .class_ 2), (0, u "java/lang/Comparable"), (0, .class_ 4), (0, u "java/lang/Object")] 7

/-- java/lang/Comparable -/
def k3 : Class := { plain "java/lang/Comparable" (some 0) with
  accessFlags := 1537
  interfaces := #[]
  cf := some (fileOf pool3 1 #[] #[] 1537 3 #[] #[])
  fields := #[]
  methods := #[]
  instanceTypes := #[]
  staticTypes := #[]
  resolved := Array.replicate 12 none
  statics := none }

def pool4 : Array CpInfo := pool [(1, .class_ 2), (0, u "java/io/Serializable"), (0, .class_ 4), (0, u "java/lang/Object")] 2

/-- java/io/Serializable -/
def k4 : Class := { plain "java/io/Serializable" (some 0) with
  accessFlags := 1537
  interfaces := #[]
  cf := some (fileOf pool4 1 #[] #[] 1537 3 #[] #[])
  fields := #[]
  methods := #[]
  instanceTypes := #[]
  staticTypes := #[]
  resolved := Array.replicate 7 none
  statics := none }

def pool5 : Array CpInfo := pool [(2, .class_ 4), (1, u "java/lang/Enum"), (0, u "name"), (0, u "Ljava/lang/String;"), (2, u "ordinal"), (0, u "I"), (1, .class_ 14), (1, u "java/lang/Object"), (4, u "hash"), (86, .class_ 108), (1, u "java/lang/Enum$EnumDesc"), (2, .class_ 112), (0, u "java/lang/constant/Constable"), (0, .class_ 114), (0, u "java/lang/Comparable"), (0, .class_ 116), (0, u "java/io/Serializable")] 87

/-- java/lang/Enum -/
def k5 : Class := { plain "java/lang/Enum" (some 0) with
  accessFlags := 1057
  interfaces := #[2, 3, 4]
  cf := some (fileOf pool5 2 #[.nestMembers #[106]] #[] 1057 12 #[111, 113, 115] #[{ accessFlags := 18, nameIndex := 5, descriptorIndex := 6, attributes := #[] }, { accessFlags := 18, nameIndex := 9, descriptorIndex := 10, attributes := #[] }, { accessFlags := 2, nameIndex := 19, descriptorIndex := 10, attributes := #[] }])
  fields := #[{ name := "name", type := (.object "java/lang/String"), accessFlags := 18, slot := 0, constantValue := 0 }, { name := "ordinal", type := .int, accessFlags := 18, slot := 1, constantValue := 0 }, { name := "hash", type := .int, accessFlags := 2, slot := 2, constantValue := 0 }]
  methods := #[]
  instanceTypes := #[(.object "java/lang/String"), .int, .int]
  staticTypes := #[]
  resolved := Array.replicate 204 none
  statics := none }

def pool6 : Array CpInfo := pool [(1, .class_ 2), (0, u "com/example/kormilo/kormilo/CharacterClass"), (2, u "CYRILLIC_UPPER"), (0, u "Lcom/example/kormilo/kormilo/CharacterClass;"), (2, u "CYRILLIC_LOWER"), (2, u "LATIN_UPPER"), (2, u "LATIN_LOWER"), (2, u "DIGITS"), (2, u "SPECIAL"), (0, .fieldref 1 23), (0, .nameAndType 24 25), (0, u "$VALUES"), (0, u "[Lcom/example/kormilo/kormilo/CharacterClass;"), (0, .methodref 27 28), (0, .class_ 25), (0, .nameAndType 29 30), (0, u "clone"), (0, u "()Ljava/lang/Object;"), (1, .class_ 34), (1, u "java/lang/Enum"), (8, u "field"), (0, u "Ljava/lang/String;"), (2, u "many"), (2, u "same"), (0, .fieldref 1 52), (0, .nameAndType 53 54), (0, u "ranges"), (0, u "[I"), (0, .methodref 1 56), (0, .nameAndType 57 58), (0, u "values"), (0, u "()[Lcom/example/kormilo/kormilo/CharacterClass;"), (0, .methodref 60 61), (0, .class_ 62), (0, .nameAndType 63 64), (0, u "java/util/Optional"), (0, u "of"), (0, u "(Ljava/lang/Object;)Ljava/util/Optional;"), (0, .methodref 60 66), (0, .nameAndType 67 68), (0, u "empty"), (0, u "()Ljava/util/Optional;"), (55, u "(I)Ljava/util/Optional;")] 7

def k6c0 : Code := { maxStack := 1, maxLocals := 0, code := prog_5_method_1_code, exceptionTable := #[], attributes := #[] }
def k6m0 : Method := { name := "values", desc := "()[Lcom/example/kormilo/kormilo/CharacterClass;", sig := { parameters := [], returnType := some (.array (.object "com/example/kormilo/kormilo/CharacterClass")) }, accessFlags := 9, code := some k6c0 }
def k6c1 : Code := { maxStack := 4, maxLocals := 6, code := prog_5_method_7_code, exceptionTable := #[], attributes := #[] }
def k6m1 : Method := { name := "of", desc := "(I)Ljava/util/Optional;", sig := { parameters := [.int], returnType := some (.object "java/util/Optional") }, accessFlags := 8, code := some k6c1 }
/-- com/example/kormilo/kormilo/CharacterClass -/
def k6 : Class := { plain "com/example/kormilo/kormilo/CharacterClass" (some 5) with
  accessFlags := 16432
  interfaces := #[]
  cf := some (fileOf pool6 1 #[] #[{ accessFlags := 9, nameIndex := 57, descriptorIndex := 58, attributes := #[] }, { accessFlags := 8, nameIndex := 63, descriptorIndex := 124, attributes := #[] }] 16432 32 #[] #[{ accessFlags := 16409, nameIndex := 5, descriptorIndex := 6, attributes := #[] }, { accessFlags := 16409, nameIndex := 9, descriptorIndex := 6, attributes := #[] }, { accessFlags := 16409, nameIndex := 12, descriptorIndex := 6, attributes := #[] }, { accessFlags := 16409, nameIndex := 15, descriptorIndex := 6, attributes := #[] }, { accessFlags := 16409, nameIndex := 18, descriptorIndex := 6, attributes := #[] }, { accessFlags := 16409, nameIndex := 21, descriptorIndex := 6, attributes := #[] }, { accessFlags := 18, nameIndex := 43, descriptorIndex := 44, attributes := #[] }, { accessFlags := 18, nameIndex := 47, descriptorIndex := 44, attributes := #[] }, { accessFlags := 18, nameIndex := 50, descriptorIndex := 44, attributes := #[] }, { accessFlags := 18, nameIndex := 53, descriptorIndex := 54, attributes := #[] }, { accessFlags := 4122, nameIndex := 24, descriptorIndex := 25, attributes := #[] }])
  fields := #[{ name := "CYRILLIC_UPPER", type := (.object "com/example/kormilo/kormilo/CharacterClass"), accessFlags := 16409, slot := 0, constantValue := 0 }, { name := "CYRILLIC_LOWER", type := (.object "com/example/kormilo/kormilo/CharacterClass"), accessFlags := 16409, slot := 1, constantValue := 0 }, { name := "LATIN_UPPER", type := (.object "com/example/kormilo/kormilo/CharacterClass"), accessFlags := 16409, slot := 2, constantValue := 0 }, { name := "LATIN_LOWER", type := (.object "com/example/kormilo/kormilo/CharacterClass"), accessFlags := 16409, slot := 3, constantValue := 0 }, { name := "DIGITS", type := (.object "com/example/kormilo/kormilo/CharacterClass"), accessFlags := 16409, slot := 4, constantValue := 0 }, { name := "SPECIAL", type := (.object "com/example/kormilo/kormilo/CharacterClass"), accessFlags := 16409, slot := 5, constantValue := 0 }, { name := "field", type := (.object "java/lang/String"), accessFlags := 18, slot := 3, constantValue := 0 }, { name := "many", type := (.object "java/lang/String"), accessFlags := 18, slot := 4, constantValue := 0 }, { name := "same", type := (.object "java/lang/String"), accessFlags := 18, slot := 5, constantValue := 0 }, { name := "ranges", type := (.array .int), accessFlags := 18, slot := 6, constantValue := 0 }, { name := "$VALUES", type := (.array (.object "com/example/kormilo/kormilo/CharacterClass")), accessFlags := 4122, slot := 6, constantValue := 0 }]
  methods := #[k6m0, k6m1]
  instanceTypes := #[(.object "java/lang/String"), .int, .int, (.object "java/lang/String"), (.object "java/lang/String"), (.object "java/lang/String"), (.array .int)]
  staticTypes := #[(.object "com/example/kormilo/kormilo/CharacterClass"), (.object "com/example/kormilo/kormilo/CharacterClass"), (.object "com/example/kormilo/kormilo/CharacterClass"), (.object "com/example/kormilo/kormilo/CharacterClass"), (.object "com/example/kormilo/kormilo/CharacterClass"), (.object "com/example/kormilo/kormilo/CharacterClass"), (.array (.object "com/example/kormilo/kormilo/CharacterClass"))]
  resolved := Array.replicate 132 none
  statics := some 0 }

def pool7 : Array CpInfo := pool [(1, .class_ 2), (0, u "java/lang/Cloneable"), (0, .class_ 4), (0, u "java/lang/Object")] 2

/-- java/lang/Cloneable -/
def k7 : Class := { plain "java/lang/Cloneable" (some 0) with
  accessFlags := 1537
  interfaces := #[]
  cf := some (fileOf pool7 1 #[] #[] 1537 3 #[] #[])
  fields := #[]
  methods := #[]
  instanceTypes := #[]
  staticTypes := #[]
  resolved := Array.replicate 7 none
  statics := none }

def pool8 : Array CpInfo := pool [(1, .fieldref 2 3), (0, .class_ 4), (0, .nameAndType 5 6), (0, u "java/util/Optional"), (0, u "EMPTY"), (0, u "Ljava/util/Optional;"), (0, .methodref 8 9), (0, .class_ 10), (0, .nameAndType 11 12), (0, u "java/lang/Object"), (0, u "<init>"), (0, u "()V"), (0, .fieldref 2 14), (0, .nameAndType 15 16), (0, u "value"), (0, u "Ljava/lang/Object;"), (0, .methodref 18 19), (0, .class_ 20), (0, .nameAndType 21 22), (0, u "java/util/Objects"), (0, u "requireNonNull"), (0, u "(Ljava/lang/Object;)Ljava/lang/Object;"), (0, .methodref 2 24), (0, .nameAndType 11 25), (0, u "(Ljava/lang/Object;)V"), (29, u "empty"), (0, u "()Ljava/util/Optional;"), (8, u "(Ljava/lang/Object;)Ljava/util/Optional;"), (16, u "of"), (82, u "orElse")] 21

def k8c0 : Code := { maxStack := 1, maxLocals := 1, code := jdk_32_method_1_code, exceptionTable := #[], attributes := #[] }
def k8m0 : Method := { name := "empty", desc := "()Ljava/util/Optional;", sig := { parameters := [], returnType := some (.object "java/util/Optional") }, accessFlags := 9, code := some k8c0 }
def k8c1 : Code := { maxStack := 2, maxLocals := 2, code := jdk_32_method_2_code, exceptionTable := #[], attributes := #[] }
def k8m1 : Method := { name := "<init>", desc := "(Ljava/lang/Object;)V", sig := { parameters := [(.object "java/lang/Object")], returnType := none }, accessFlags := 2, code := some k8c1 }
def k8c2 : Code := { maxStack := 3, maxLocals := 1, code := jdk_32_method_3_code, exceptionTable := #[], attributes := #[] }
def k8m2 : Method := { name := "of", desc := "(Ljava/lang/Object;)Ljava/util/Optional;", sig := { parameters := [(.object "java/lang/Object")], returnType := some (.object "java/util/Optional") }, accessFlags := 9, code := some k8c2 }
def k8c3 : Code := { maxStack := 1, maxLocals := 2, code := jdk_32_method_15_code, exceptionTable := #[], attributes := #[] }
def k8m3 : Method := { name := "orElse", desc := "(Ljava/lang/Object;)Ljava/lang/Object;", sig := { parameters := [(.object "java/lang/Object")], returnType := some (.object "java/lang/Object") }, accessFlags := 1, code := some k8c3 }
/-- java/util/Optional -/
def k8 : Class := { plain "java/util/Optional" (some 0) with
  accessFlags := 49
  interfaces := #[]
  cf := some (fileOf pool8 2 #[] #[{ accessFlags := 9, nameIndex := 55, descriptorIndex := 56, attributes := #[] }, { accessFlags := 2, nameIndex := 11, descriptorIndex := 25, attributes := #[] }, { accessFlags := 9, nameIndex := 82, descriptorIndex := 65, attributes := #[] }, { accessFlags := 1, nameIndex := 165, descriptorIndex := 22, attributes := #[] }] 49 8 #[] #[{ accessFlags := 26, nameIndex := 5, descriptorIndex := 6, attributes := #[] }, { accessFlags := 18, nameIndex := 15, descriptorIndex := 16, attributes := #[] }])
  fields := #[{ name := "EMPTY", type := (.object "java/util/Optional"), accessFlags := 26, slot := 0, constantValue := 0 }, { name := "value", type := (.object "java/lang/Object"), accessFlags := 18, slot := 0, constantValue := 0 }]
  methods := #[k8m0, k8m1, k8m2, k8m3]
  instanceTypes := #[(.object "java/lang/Object")]
  staticTypes := #[(.object "java/util/Optional")]
  resolved := Array.replicate 187 none
  statics := some 1 }

def pool9 : Array CpInfo := pool [(2, .class_ 4), (1, u "java/lang/Object"), (0, u "<init>"), (0, u "()V"), (35, .class_ 44), (1, u "java/util/Objects"), (0, u "requireNonNull"), (0, u "(Ljava/lang/Object;)Ljava/lang/Object;")] 137

def k9m0 : Method := { name := "<init>", desc := "()V", sig := { parameters := [], returnType := none }, accessFlags := 2, code := none }
def k9c1 : Code := { maxStack := 2, maxLocals := 1, code := jdk_31_method_10_code, exceptionTable := #[], attributes := #[] }
def k9m1 : Method := { name := "requireNonNull", desc := "(Ljava/lang/Object;)Ljava/lang/Object;", sig := { parameters := [(.object "java/lang/Object")], returnType := some (.object "java/lang/Object") }, accessFlags := 9, code := some k9c1 }
/-- java/util/Objects -/
def k9 : Class := { plain "java/util/Objects" (some 0) with
  accessFlags := 49
  interfaces := #[]
  cf := some (fileOf pool9 42 #[] #[{ accessFlags := 2, nameIndex := 5, descriptorIndex := 6, attributes := #[] }, { accessFlags := 9, nameIndex := 45, descriptorIndex := 46, attributes := #[] }] 49 2 #[] #[])
  fields := #[]
  methods := #[k9m0, k9m1]
  instanceTypes := #[]
  staticTypes := #[]
  resolved := Array.replicate 184 none
  statics := none }

/-- the primitive byte -/
def k10 : Class := { plain "byte" none with kind := .primitive 'B', accessFlags := 0x411 }
/-- [B -/
def k11 : Class := { plain "[B" (some 0) with kind := .array 10 .byte, interfaces := #[7, 4], accessFlags := 1041 }

/-- the primitive int -/
def k12 : Class := { plain "int" none with kind := .primitive 'I', accessFlags := 0x411 }
/-- [I -/
def k13 : Class := { plain "[I" (some 0) with kind := .array 12 .int, interfaces := #[7, 4], accessFlags := 1041 }

/-- [Lcom/example/kormilo/kormilo/CharacterClass; -/
def k14 : Class := { plain "[Lcom/example/kormilo/kormilo/CharacterClass;" (some 0) with kind := .array 6 (.object "com/example/kormilo/kormilo/CharacterClass"), interfaces := #[7, 4], accessFlags := 1041 }

def heap : Heap := #[{ cls := 6, slots := #[.ref 3, .ref 4, .ref 5, .ref 6, .ref 7, .ref 8, .ref 2], vm := .statics 6 },
  { cls := 8, slots := #[.ref 16], vm := .statics 8 },
  { cls := 14, slots := #[.ref 3, .ref 4, .ref 5, .ref 6, .ref 7, .ref 8], vm := .none },
  { cls := 6, slots := #[.null, .int 0, .int 0, .null, .null, .null, .ref 10], vm := .none },
  { cls := 6, slots := #[.null, .int 0, .int 0, .null, .null, .null, .ref 11], vm := .none },
  { cls := 6, slots := #[.null, .int 0, .int 0, .null, .null, .null, .ref 12], vm := .none },
  { cls := 6, slots := #[.null, .int 0, .int 0, .null, .null, .null, .ref 13], vm := .none },
  { cls := 6, slots := #[.null, .int 0, .int 0, .null, .null, .null, .ref 14], vm := .none },
  { cls := 6, slots := #[.null, .int 0, .int 0, .null, .null, .null, .ref 15], vm := .none },
  { cls := 8, slots := #[.null], vm := .none },
  { cls := 13, slots := #[.int 1040, .int 1071, .int 1025, .int 1025], vm := .none },
  { cls := 13, slots := #[.int 1072, .int 1103, .int 1105, .int 1105], vm := .none },
  { cls := 13, slots := #[.int 65, .int 90], vm := .none },
  { cls := 13, slots := #[.int 97, .int 122], vm := .none },
  { cls := 13, slots := #[.int 48, .int 57], vm := .none },
  { cls := 13, slots := #[.int 33, .int 47, .int 58, .int 64, .int 91, .int 96, .int 123, .int 126], vm := .none },
  { cls := 8, slots := #[.null], vm := .none }]
def classes : Array Class := #[k0, k1, k2, k3, k4, k5, k6, k7, k8, k9, k10, k11, k12, k13, k14]
def interned : List (Array UInt16 × Addr) := []
def slotsUsed : Nat := 80
def theMethod : MethodId := ⟨1, 1⟩
def args0 : Array Value := #[.int 1, .int 65]
def aboutOver (below : List Frame) : State where
  vm := { classes := classes, interned := interned.toArray }
  heap := heap
  slotsUsed := slotsUsed
  threads := #[{ frames := .invoking theMethod args0 :: below }]
def below0 : List Frame := [.native { method := ⟨0, 0⟩, args := #[] }]
def about1 : State := aboutOver below0
def p0 : Program := .bare "" "" ""
def e0 : Env := launch0.env 0 0 0
theorem w_frames : about1.frames = Frame.invoking theMethod args0 :: below0 := rfl
set_option maxRecDepth 65536 in
theorem w_args : argsFit about1.vm theMethod args0 = true := by decide +kernel
set_option maxRecDepth 65536 in
theorem w_heap : heapFits about1 = true := by decide +kernel
set_option maxRecDepth 65536 in
theorem w_runnable : about1.curStatus? = some .runnable := by decide +kernel
set_option maxRecDepth 65536 in
theorem w_alone : about1.alone = true := by decide +kernel
set_option maxRecDepth 65536 in
theorem w_named : about1.methodNamed? x = some theMethod := by decide +kernel
set_option maxRecDepth 65536 in
theorem w_hears : about1.hears theMethod below0 = true := by decide +kernel
set_option maxRecDepth 65536 in
theorem w_ripe : about1.ripe theMethod args0 below0 = true := by decide +kernel
theorem w_running : about1.status = .running := rfl
set_option maxRecDepth 65536 in
theorem w_room : about1.hasRoom e0.platform room_1 = true :=
  launch0.hasRoom_least _ room_1 (by decide +kernel) (by decide +kernel) (by decide +kernel) (by decide +kernel) (by decide +kernel) (by decide +kernel)
theorem allAtoms_all (ts : List Jvm.Cond) (a : Array Jvm.Value) (st : Jvm.State) : (allAtoms ts).before a st = ts.all (fun c => c.before a st) := by
  induction ts with
  | nil => rfl
  | cons c t ih =>
    show (Jvm.Cond.and c (allAtoms t)).before a st = _
    rw [Jvm.Cond.before_and, ih, List.all_cons]
def words1 : List Jvm.Cond := Jvm.Cond.code x code maxLocals ret :: tables_1
/-- a 'code' word, met by the world's own term for the bytes: nothing is compared byte by byte -/
theorem code_word {y : MethodName} {bytes : ByteArray} {mx : Nat} {rt : Option FieldType} {a : Array Value} {s : State} {m : MethodId} {meth : Method} {c : Code} (h1 : s.methodNamed? y = some m) (h2 : s.vm.method? m = some meth) (h3 : meth.code = some c) (h4 : c.code = bytes)
    (h5 : (c.maxLocals == mx && c.exceptionTable.isEmpty && decide (c.maxStack ≤ mostOperands) && decide (meth.sig.returnType = rt) && !meth.locks && decide (parseMethodDescriptor y.desc = some meth.sig)) = true) : (Jvm.Cond.code y bytes mx rt).before a s = true := by
  simp only [Bool.and_eq_true, beq_iff_eq, Bool.not_eq_true', decide_eq_true_eq] at h5
  obtain ⟨⟨⟨⟨⟨g1, g2⟩, g3⟩, g4⟩, g5⟩, g6⟩ := h5
  simp [Cond.before, Cond.holds, Cond.value, h1, h2, h3, h4, g1, g2, g3, g4, g5, g6]
def isCode : Jvm.Cond → Bool
  | .code _ _ _ _ => true
  | _ => false
theorem all_split {L : List Jvm.Cond} {P : Jvm.Cond → Bool} (h1 : L.all (fun c => isCode c || P c) = true) (h2 : ∀ c ∈ L.filter isCode, P c = true) : L.all P = true := by
  refine List.all_eq_true.mpr fun c hc => ?_
  have h := List.all_eq_true.mp h1 c hc
  rcases Bool.eq_false_or_eq_true (isCode c) with hi | hi
  · exact h2 c (List.mem_filter.mpr ⟨hc, hi⟩)
  · simpa [hi] using h
set_option maxRecDepth 65536 in
theorem w_c0 : (Jvm.Cond.code x code maxLocals ret).before args0 about1 = true := code_word (m := ⟨1, 1⟩) (meth := k1m1) (c := k1c1) (by decide +kernel) rfl rfl rfl (by decide +kernel)
set_option maxRecDepth 65536 in
theorem w_c1 : (Jvm.Cond.code ({ cls := "com/example/kormilo/kormilo/CharacterClass", name := "of", desc := "(I)Ljava/util/Optional;" } : Jvm.MethodName) prog_5_method_7_code (6 : Nat) (Option.some (Jvm.ClassFile.FieldType.object "java/util/Optional"))).before args0 about1 = true := code_word (m := ⟨6, 1⟩) (meth := k6m1) (c := k6c1) (by decide +kernel) rfl rfl rfl (by decide +kernel)
set_option maxRecDepth 65536 in
theorem w_c2 : (Jvm.Cond.code ({ cls := "com/example/kormilo/kormilo/CharacterClass", name := "values", desc := "()[Lcom/example/kormilo/kormilo/CharacterClass;" } : Jvm.MethodName) prog_5_method_1_code (0 : Nat) (Option.some (Jvm.ClassFile.FieldType.array (Jvm.ClassFile.FieldType.object "com/example/kormilo/kormilo/CharacterClass")))).before args0 about1 = true := code_word (m := ⟨6, 0⟩) (meth := k6m0) (c := k6c0) (by decide +kernel) rfl rfl rfl (by decide +kernel)
set_option maxRecDepth 65536 in
theorem w_c3 : (Jvm.Cond.code ({ cls := "java/util/Optional", name := "empty", desc := "()Ljava/util/Optional;" } : Jvm.MethodName) jdk_32_method_1_code (1 : Nat) (Option.some (Jvm.ClassFile.FieldType.object "java/util/Optional"))).before args0 about1 = true := code_word (m := ⟨8, 0⟩) (meth := k8m0) (c := k8c0) (by decide +kernel) rfl rfl rfl (by decide +kernel)
set_option maxRecDepth 65536 in
theorem w_c4 : (Jvm.Cond.code ({ cls := "java/util/Optional", name := "orElse", desc := "(Ljava/lang/Object;)Ljava/lang/Object;" } : Jvm.MethodName) jdk_32_method_15_code (2 : Nat) (Option.some (Jvm.ClassFile.FieldType.object "java/lang/Object"))).before args0 about1 = true := code_word (m := ⟨8, 3⟩) (meth := k8m3) (c := k8c3) (by decide +kernel) rfl rfl rfl (by decide +kernel)
set_option maxRecDepth 65536 in
theorem w_c5 : (Jvm.Cond.code ({ cls := "com/example/kormilo/kormilo/CharacterClassOfPinLaw", name := "expected", desc := "(I)Lcom/example/kormilo/kormilo/CharacterClass;" } : Jvm.MethodName) method_6_code (1 : Nat) (Option.some (Jvm.ClassFile.FieldType.object "com/example/kormilo/kormilo/CharacterClass"))).before args0 about1 = true := code_word (m := ⟨1, 5⟩) (meth := k1m5) (c := k1c5) (by decide +kernel) rfl rfl rfl (by decide +kernel)
set_option maxRecDepth 65536 in
theorem w_c6 : (Jvm.Cond.code ({ cls := "com/example/kormilo/kormilo/CharacterClassOfPinLaw", name := "isUpper", desc := "(I)Z" } : Jvm.MethodName) method_4_code (1 : Nat) (Option.some Jvm.ClassFile.FieldType.boolean)).before args0 about1 = true := code_word (m := ⟨1, 3⟩) (meth := k1m3) (c := k1c3) (by decide +kernel) rfl rfl rfl (by decide +kernel)
set_option maxRecDepth 65536 in
theorem w_c7 : (Jvm.Cond.code ({ cls := "com/example/kormilo/kormilo/CharacterClassOfPinLaw", name := "isLower", desc := "(I)Z" } : Jvm.MethodName) method_5_code (1 : Nat) (Option.some Jvm.ClassFile.FieldType.boolean)).before args0 about1 = true := code_word (m := ⟨1, 4⟩) (meth := k1m4) (c := k1c4) (by decide +kernel) rfl rfl rfl (by decide +kernel)
set_option maxRecDepth 65536 in
theorem w_c8 : (Jvm.Cond.code ({ cls := "com/example/kormilo/kormilo/CharacterClassOfPinLaw", name := "isDigit", desc := "(I)Z" } : Jvm.MethodName) method_3_code (1 : Nat) (Option.some Jvm.ClassFile.FieldType.boolean)).before args0 about1 = true := code_word (m := ⟨1, 2⟩) (meth := k1m2) (c := k1c2) (by decide +kernel) rfl rfl rfl (by decide +kernel)
set_option maxRecDepth 65536 in
theorem w_c9 : (Jvm.Cond.code ({ cls := "java/util/Optional", name := "of", desc := "(Ljava/lang/Object;)Ljava/util/Optional;" } : Jvm.MethodName) jdk_32_method_3_code (1 : Nat) (Option.some (Jvm.ClassFile.FieldType.object "java/util/Optional"))).before args0 about1 = true := code_word (m := ⟨8, 2⟩) (meth := k8m2) (c := k8c2) (by decide +kernel) rfl rfl rfl (by decide +kernel)
set_option maxRecDepth 65536 in
theorem w_c10 : (Jvm.Cond.code ({ cls := "java/util/Objects", name := "requireNonNull", desc := "(Ljava/lang/Object;)Ljava/lang/Object;" } : Jvm.MethodName) jdk_31_method_10_code (1 : Nat) (Option.some (Jvm.ClassFile.FieldType.object "java/lang/Object"))).before args0 about1 = true := code_word (m := ⟨9, 1⟩) (meth := k9m1) (c := k9c1) (by decide +kernel) rfl rfl rfl (by decide +kernel)
set_option maxRecDepth 65536 in
theorem w_c11 : (Jvm.Cond.code ({ cls := "java/util/Optional", name := "<init>", desc := "(Ljava/lang/Object;)V" } : Jvm.MethodName) jdk_32_method_2_code (2 : Nat) (Option.none : Option Jvm.ClassFile.FieldType)).before args0 about1 = true := code_word (m := ⟨8, 1⟩) (meth := k8m1) (c := k8c1) (by decide +kernel) rfl rfl rfl (by decide +kernel)
set_option maxRecDepth 65536 in
theorem w_c12 : (Jvm.Cond.code ({ cls := "java/lang/Object", name := "<init>", desc := "()V" } : Jvm.MethodName) object_method_1_code (1 : Nat) (Option.none : Option Jvm.ClassFile.FieldType)).before args0 about1 = true := code_word (m := ⟨0, 0⟩) (meth := k0m0) (c := k0c0) (by decide +kernel) rfl rfl rfl (by decide +kernel)
def codes1 : List Jvm.Cond := [Jvm.Cond.code x code maxLocals ret, Jvm.Cond.code ({ cls := "com/example/kormilo/kormilo/CharacterClass", name := "of", desc := "(I)Ljava/util/Optional;" } : Jvm.MethodName) prog_5_method_7_code (6 : Nat) (Option.some (Jvm.ClassFile.FieldType.object "java/util/Optional")), Jvm.Cond.code ({ cls := "com/example/kormilo/kormilo/CharacterClass", name := "values", desc := "()[Lcom/example/kormilo/kormilo/CharacterClass;" } : Jvm.MethodName) prog_5_method_1_code (0 : Nat) (Option.some (Jvm.ClassFile.FieldType.array (Jvm.ClassFile.FieldType.object "com/example/kormilo/kormilo/CharacterClass"))), Jvm.Cond.code ({ cls := "java/util/Optional", name := "empty", desc := "()Ljava/util/Optional;" } : Jvm.MethodName) jdk_32_method_1_code (1 : Nat) (Option.some (Jvm.ClassFile.FieldType.object "java/util/Optional")), Jvm.Cond.code ({ cls := "java/util/Optional", name := "orElse", desc := "(Ljava/lang/Object;)Ljava/lang/Object;" } : Jvm.MethodName) jdk_32_method_15_code (2 : Nat) (Option.some (Jvm.ClassFile.FieldType.object "java/lang/Object")), Jvm.Cond.code ({ cls := "com/example/kormilo/kormilo/CharacterClassOfPinLaw", name := "expected", desc := "(I)Lcom/example/kormilo/kormilo/CharacterClass;" } : Jvm.MethodName) method_6_code (1 : Nat) (Option.some (Jvm.ClassFile.FieldType.object "com/example/kormilo/kormilo/CharacterClass")), Jvm.Cond.code ({ cls := "com/example/kormilo/kormilo/CharacterClassOfPinLaw", name := "isUpper", desc := "(I)Z" } : Jvm.MethodName) method_4_code (1 : Nat) (Option.some Jvm.ClassFile.FieldType.boolean), Jvm.Cond.code ({ cls := "com/example/kormilo/kormilo/CharacterClassOfPinLaw", name := "isLower", desc := "(I)Z" } : Jvm.MethodName) method_5_code (1 : Nat) (Option.some Jvm.ClassFile.FieldType.boolean), Jvm.Cond.code ({ cls := "com/example/kormilo/kormilo/CharacterClassOfPinLaw", name := "isDigit", desc := "(I)Z" } : Jvm.MethodName) method_3_code (1 : Nat) (Option.some Jvm.ClassFile.FieldType.boolean), Jvm.Cond.code ({ cls := "java/util/Optional", name := "of", desc := "(Ljava/lang/Object;)Ljava/util/Optional;" } : Jvm.MethodName) jdk_32_method_3_code (1 : Nat) (Option.some (Jvm.ClassFile.FieldType.object "java/util/Optional")), Jvm.Cond.code ({ cls := "java/util/Objects", name := "requireNonNull", desc := "(Ljava/lang/Object;)Ljava/lang/Object;" } : Jvm.MethodName) jdk_31_method_10_code (1 : Nat) (Option.some (Jvm.ClassFile.FieldType.object "java/lang/Object")), Jvm.Cond.code ({ cls := "java/util/Optional", name := "<init>", desc := "(Ljava/lang/Object;)V" } : Jvm.MethodName) jdk_32_method_2_code (2 : Nat) (Option.none : Option Jvm.ClassFile.FieldType), Jvm.Cond.code ({ cls := "java/lang/Object", name := "<init>", desc := "()V" } : Jvm.MethodName) object_method_1_code (1 : Nat) (Option.none : Option Jvm.ClassFile.FieldType)]
set_option maxRecDepth 65536 in
theorem codes_eq : words1.filter isCode = codes1 := rfl
theorem w_codes : ∀ c ∈ words1.filter isCode, c.before args0 about1 = true := by
  rw [codes_eq]
  intro c hc
  simp only [codes1, List.mem_cons, List.not_mem_nil, or_false] at hc
  rcases hc with rfl | rfl | rfl | rfl | rfl | rfl | rfl | rfl | rfl | rfl | rfl | rfl | rfl
  · exact w_c0
  · exact w_c1
  · exact w_c2
  · exact w_c3
  · exact w_c4
  · exact w_c5
  · exact w_c6
  · exact w_c7
  · exact w_c8
  · exact w_c9
  · exact w_c10
  · exact w_c11
  · exact w_c12
set_option maxRecDepth 65536 in
theorem w_t1 : (words1.take 24).all (fun c => isCode c || c.before args0 about1) = true := by decide +kernel
set_option maxRecDepth 65536 in
theorem w_t2 : ((words1.drop 24).take 24).all (fun c => isCode c || c.before args0 about1) = true := by decide +kernel
set_option maxRecDepth 65536 in
theorem w_t3 : (((words1.drop 24).drop 24).take 24).all (fun c => isCode c || c.before args0 about1) = true := by decide +kernel
set_option maxRecDepth 65536 in
theorem w_t4 : (((words1.drop 24).drop 24).drop 24).all (fun c => isCode c || c.before args0 about1) = true := by decide +kernel
theorem w_tables : (allAtoms (Jvm.Cond.code x code maxLocals ret :: tables_1)).before args0 about1 = true := by
  rw [allAtoms_all]
  show words1.all (fun c => c.before args0 about1) = true
  refine all_split ?_ w_codes
  rw [← List.take_append_drop 24 words1, List.all_append, w_t1, ← List.take_append_drop 24 (words1.drop 24), List.all_append, w_t2, ← List.take_append_drop 24 ((words1.drop 24).drop 24), List.all_append, w_t3, w_t4]
  rfl
set_option maxRecDepth 65536 in
theorem w_rest : rest_1_c.before args0 about1 = true := by decide +kernel
set_option maxRecDepth 65536 in
theorem w_case : (Jvm.Cond.and given_1 narrow_1).before args0 about1 = true := by decide +kernel
theorem w_applies : (headSpec (Jvm.Cond.code x code maxLocals ret :: tables_1) room_1).applies x e0.platform about1 = true :=
  (Spec.applies_iff w_frames).mpr ⟨w_running, w_runnable, w_alone, w_named, w_hears, w_ripe, w_room, w_tables⟩
theorem atStart : AtStart classFile x code maxLocals ret World_1 tables_1 room_1 Calls_1 rest_1 Pre_1 launch0 p0 e0 about1 theMethod args0 below0 :=
  ⟨lists_1, trivial, launch0.admits_env _ _ _, launch0.least_env, fairChoices_fair.cas, fairChoices_fair.clock, w_frames, w_args, w_heap, w_applies, trivial, w_rest, w_case⟩
end start1
theorem witness_1 : WitnessClaimed_1 := ⟨start1.p0, start1.e0, start1.about1, start1.theMethod, start1.args0, start1.below0, start1.atStart⟩
end Jvm.Pilot.@@N@@
