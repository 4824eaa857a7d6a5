import JvmDerived
import JvmDerived.Pilot.@@N@@Statement
import JvmDerived.Pilot.@@N@@Code
set_option linter.unusedVariables false
set_option linter.unusedSimpArgs false
namespace Jvm.Pilot.@@N@@
open Jvm Jvm.ClassFile Sem Op Lib Jvm.Free Jvm.Stand Jvm.LawKit Jvm.RoadKit Bundle Jvm.Pilot.@@N@@.Jvm.D
section OwnKit
variable {p : Program} {l : Launch} {e : Env} {R : Room} {s : State} {m : MethodId} {args : Array Value} {below : List Frame} {meth : Method} {c : Code} {T : State} {locs : List Loc} {cells slots : Nat} {Z : State} {a0 : Array Value} {h : Heap} {Qr : Option Value → Heap → List Loc → Prop}
/-- from this frame on the run ends, and Q holds of the end -/
def own_G (tb : Tables) (e : Env) (below : List Frame) (T : State) (f : JFrame) (Qe : Outcome → State → Prop) : Prop := ∃ s₂ o, Steps tb e below (T.setTop f) s₂ ∧ s₂.status = .running ∧ Ended s₂ below o ∧ Qe o s₂
theorem own_pre {tb : Tables} {T' : State} {f f' : JFrame} {Qe : Outcome → State → Prop} (k1 : ∀ t, Steps tb e below (T'.setTop f') t → Steps tb e below (T.setTop f) t) (k2 : own_G tb e below T' f' Qe) : own_G tb e below T f Qe := by
  obtain ⟨s2, o, h1, h2⟩ := k2
  exact ⟨s2, o, k1 _ h1, h2⟩
/-- the end of a body: it returned v with Qr; the frame -/
abbrev own_P (R : Room) (s : State) (Qr : Option Value → Heap → List Loc → Prop) : Outcome → State → Prop := fun o U' => ∃ v L, o = .returned v ∧ Qr v U'.heap L ∧ FrameEnd s o U' L R.cells R.slots
/-- a body's contract -/
abbrev own_C (l : Launch) (y : MethodName) (code : ByteArray) (ml : Nat) (ret : Option FieldType) (ws : List Jvm.Cond) (R : Room) (as : Array Value) (Z : State) (h0 : Heap) (Qr : Option Value → Heap → List Loc → Prop) : Prop :=
  MetFree l y (head1 (Jvm.Cond.code y code ml ret :: ws) R) (fun a U => a = as ∧ Z.Warmed39 U.vm ∧ U.heap = h0) (fun _ _ _ _ _ => True) (fun _ U o U' => ∃ v L, o = .returned v ∧ Qr v U'.heap L ∧ FrameEnd U o U' L R.cells R.slots)
theorem own_enter {y : MethodName} {code : ByteArray} {ml : Nat} {ret : Option FieldType} {ws : List Jvm.Cond} {as : Array Value} {LS : Array Slot} {h0 : Heap} (hp : plainFor y = true) (hef : ∀ m, entryFrame m as ml = mkF m 0 LS [])
    (body : ∀ (p : Program) (e : Env) (s : State) (m : MethodId) (below : List Frame) (meth : Method) (c : Code) (s₁ : State), p.tables.exec = Jvm.exec → c.code = code → c.maxLocals = ml → s.vm.findClass y.cls = some m.cls → meth.name = y.name → meth.sig.returnType = ret → meth.locks = false → Z.Warmed39 s.vm → Stand p l e R s m as below meth c s₁ [] 0 0 → s₁.heap = h0 → s.heap = h0 → own_G p.tables e below s₁ (mkF m 0 LS []) (own_P R s Qr)) : own_C l y code ml ret ws R as Z h0 Qr := by
  refine MetFree.of_bodySF hp hisR ?_
  intro p e s m args below meth c s₁ Bd hml0 hP hK
  obtain ⟨rfl, hZ, hh⟩ := hP
  have e0 : s₁.heap = h0 := by rw [← hh, Bd.state]; rfl
  obtain ⟨s2, o, h1, h2⟩ := body p e s m below meth c s₁ Bd.exec Bd.bytes hml0 (findClass_of_methodNamed Bd.named) (name_of_methodNamed Bd.named Bd.method).1 Bd.returns Bd.notSynchronized hZ (Stand.of_body Bd) e0 hh
  exact ⟨s2, o, castTop (hef m) h1, h2⟩
theorem own_retZ (X : Stand p l e R s m args below meth c T locs cells slots) (hx : p.tables.exec = Jvm.exec) (hlk : meth.locks = false) {pc : Nat} {Ls : Array Slot} {z z' : Int32} {rest : List Value} (hret : meth.sig.returnType = some .boolean) (hd : decode c.code pc = .ok (.ireturn, 1)) (hz : nar .boolean z = z')
    (hQ : Qr (some (.int z')) T.heap locs) (hc : cells ≤ R.cells) (hs : slots ≤ R.slots) : own_G p.tables e below T (mkF m pc Ls (.int z :: rest)) (own_P R s Qr) := by
  subst hz
  obtain ⟨fs, hr, hrun, hended, hW, hsame⟩ := X.leave (v := some (.int (nar .boolean z))) (fun h => by rw [hret] at h; cases h) hlk
  exact ⟨_, _, retN X hx hret (by simp) hd hr, hrun, hended, _, _, rfl, hQ, ⟨_, rfl⟩, hW, hsame.mono hc hs⟩
theorem own_retI (X : Stand p l e R s m args below meth c T locs cells slots) (hx : p.tables.exec = Jvm.exec) (hlk : meth.locks = false) {pc : Nat} {Ls : Array Slot} {z : Int32} {rest : List Value} (hret : meth.sig.returnType = some .int) (hd : decode c.code pc = .ok (.ireturn, 1))
    (hQ : Qr (some (.int z)) T.heap locs) (hc : cells ≤ R.cells) (hs : slots ≤ R.slots) : own_G p.tables e below T (mkF m pc Ls (.int z :: rest)) (own_P R s Qr) := by
  obtain ⟨fs, hr, hrun, hended, hW, hsame⟩ := X.leave (v := some (.int z)) (fun h => by rw [hret] at h; cases h) hlk
  exact ⟨_, _, retOut X hx hret rfl (Or.inl ⟨rfl, Or.inl rfl, _, rfl⟩) hd hr, hrun, hended, _, _, rfl, hQ, ⟨_, rfl⟩, hW, hsame.mono hc hs⟩
theorem own_retR (X : Stand p l e R s m args below meth c T locs cells slots) (hx : p.tables.exec = Jvm.exec) (hlk : meth.locks = false) {pc : Nat} {Ls : Array Slot} {w : Value} {t : FieldType} {rest : List Value} (hret : meth.sig.returnType = some t) (hd : decode c.code pc = .ok (.areturn, 1)) (hn : narrow t w = w) (ht : t.isReference = true) (hw : w.isRef = true)
    (hQ : Qr (some w) T.heap locs) (hc : cells ≤ R.cells) (hs : slots ≤ R.slots) : own_G p.tables e below T (mkF m pc Ls (w :: rest)) (own_P R s Qr) := by
  obtain ⟨fs, hr, hrun, hended, hW, hsame⟩ := X.leave (v := some w) (fun h => by rw [hret] at h; cases h) hlk
  exact ⟨_, _, retOut X hx hret hn (Or.inr (Or.inr (Or.inr (Or.inr ⟨rfl, ht, hw⟩)))) hd hr, hrun, hended, _, _, rfl, hQ, ⟨_, rfl⟩, hW, hsame.mono hc hs⟩
theorem own_ret0 (X : Stand p l e R s m args below meth c T locs cells slots) (hx : p.tables.exec = Jvm.exec) (hlk : meth.locks = false) {pc : Nat} {Ls : Array Slot} (hret : meth.sig.returnType = none) (hd : decode c.code pc = .ok (.return_, 1))
    (hQ : Qr none T.heap locs) (hc : cells ≤ R.cells) (hs : slots ≤ R.slots) : own_G p.tables e below T (mkF m pc Ls []) (own_P R s Qr) := by
  obtain ⟨fs, hr, hrun, hended, hW, hsame⟩ := X.leave (v := none) (fun _ => rfl) hlk
  exact ⟨_, _, X.returnOut hx hret hd hr, hrun, hended, _, _, rfl, hQ, ⟨_, rfl⟩, hW, hsame.mono hc hs⟩
theorem own_callV (X : Stand p l e R s m args below meth c T locs cells slots) (hx : p.tables.exec = Jvm.exec) (hZ : Z.Warmed39 s.vm) (eT : T.heap = h) {own C : String} {index : Nat} {y : MethodName} {bytes : ByteArray} {maxL : Nat} {ret : Option FieldType} {R' : Room} {b : Addr} {Qc : Option Value → Heap → List Loc → Prop}
    (hown : s.vm.findClass own = some m.cls) (w1 : (Jvm.Cond.methodLink own index y).before a0 Z = true) (w2 : (Jvm.Cond.declares y).before a0 Z = true) (w3 : (Jvm.Cond.selects C y y).before a0 Z = true) (w4 : (Jvm.Cond.instanceMethod y).before a0 Z = true) (w5 : (Jvm.Cond.code y bytes maxL ret).before a0 Z = true) (w6 : (Jvm.Cond.initialized y.cls).before a0 Z = true)
    (hy : y.cls ≠ "java/lang/invoke/MethodHandle" ∧ y.cls ≠ "java/lang/invoke/VarHandle") (W : Nat) (argsL rest : List Value) (hM : own_C l y bytes maxL ret [] R' (.ref b :: argsL).toArray Z h Qc) (hf : R'.frames + 1 ≤ R.frames) (hl : W + (maxL + 11) + R'.locals ≤ R.locals) (hc : cells + R'.cells ≤ R.cells) (hs : slots + R'.slots ≤ R.slots)
    (E : Exa Z h b C) {g : JFrame} (hg : g.method = m) (hsize : g.locals.size = c.maxLocals) (hlen : ∀ sig, parseMethodDescriptor y.desc = some sig → argsL.length = sig.parameters.length) (hstack : g.stack = argsL.reverse ++ .ref b :: rest) (hW : 2 * g.monitorRoom + (rest.map fun v => v.category).sum ≤ W) (hd : decode c.code g.pc = .ok (.invokevirtual index, 3)) :
    ∃ (T' : State) (L : List Loc) (v : Option Value), Stand p l e R s m args below meth c T' (locs ++ L) (cells + R'.cells) (slots + R'.slots) ∧ Qc v T'.heap L ∧ ∀ target, Steps p.tables e below (T'.setTop { g with pc := g.pc + 3, stack := v.toList ++ rest }) target → Steps p.tables e below (T.setTop g) target := by
  obtain ⟨cq, kq, qa, qb, qc⟩ := isOf hZ eT E
  obtain ⟨v, _, ⟨T2, L2, k2, n2⟩, -, X2, ⟨Lc, hQ, l2, y2, z2⟩, st⟩ := X.virtualBack hx (y := y) (z := y) hown (mvT hZ w1) (mvT hZ w2) (notFace_of_selects (args := #[]) (mvT hZ w3)) (mvT hZ w3) (mvT hZ w4) hy (backOf (W := W) hM hZ w5 w6 hf hl) qa qc (g := g) hg hsize (Steps.refl _) (argsL := argsL) (rest := rest) hlen hstack hW hd (fun _ _ => ⟨rfl, eT, hc, hs⟩)
  dsimp only [Pt.U, Pt.locs, Pt.cells, Pt.slots] at X2 l2 y2 z2 st hQ
  subst l2 y2 z2
  exact ⟨T2, Lc, v, X2, hQ, fun t k => st.trans k⟩
theorem own_callU (X : Stand p l e R s m args below meth c T locs cells slots) (hx : p.tables.exec = Jvm.exec) (hZ : Z.Warmed39 s.vm) (eT : T.heap = h) {own C owner : String} {index : Nat} {y z : MethodName} {bytes : ByteArray} {maxL : Nat} {ret : Option FieldType} {R' : Room} {b : Addr} {Qc : Option Value → Heap → List Loc → Prop}
    (hown : s.vm.findClass own = some m.cls) (w1 : (Jvm.Cond.methodLink own index z).before a0 Z = true) (w0 : (Jvm.Cond.sameMethod z.cls owner z.name z.desc).before a0 Z = true) (w2 : (Jvm.Cond.declares ⟨owner, z.name, z.desc⟩).before a0 Z = true) (w3 : (Jvm.Cond.selects C z y).before a0 Z = true) (w4 : (Jvm.Cond.instanceMethod y).before a0 Z = true) (w5 : (Jvm.Cond.code y bytes maxL ret).before a0 Z = true) (w6 : (Jvm.Cond.initialized y.cls).before a0 Z = true)
    (hy : owner ≠ "java/lang/invoke/MethodHandle" ∧ owner ≠ "java/lang/invoke/VarHandle") (W : Nat) (argsL rest : List Value) (hM : own_C l y bytes maxL ret [] R' (.ref b :: argsL).toArray Z h Qc) (hf : R'.frames + 1 ≤ R.frames) (hl : W + (maxL + 11) + R'.locals ≤ R.locals) (hc : cells + R'.cells ≤ R.cells) (hs : slots + R'.slots ≤ R.slots)
    (E : Exa Z h b C) {g : JFrame} (hg : g.method = m) (hsize : g.locals.size = c.maxLocals) (hlen : ∀ sig, parseMethodDescriptor z.desc = some sig → argsL.length = sig.parameters.length) (hstack : g.stack = argsL.reverse ++ .ref b :: rest) (hW : 2 * g.monitorRoom + (rest.map fun v => v.category).sum ≤ W) (hd : decode c.code g.pc = .ok (.invokevirtual index, 3)) :
    ∃ (T' : State) (L : List Loc) (v : Option Value), Stand p l e R s m args below meth c T' (locs ++ L) (cells + R'.cells) (slots + R'.slots) ∧ Qc v T'.heap L ∧ ∀ target, Steps p.tables e below (T'.setTop { g with pc := g.pc + 3, stack := v.toList ++ rest }) target → Steps p.tables e below (T.setTop g) target := by
  obtain ⟨cq, kq, qa, qb, qc⟩ := isOf hZ eT E
  obtain ⟨v, _, ⟨T2, L2, k2, n2⟩, -, X2, ⟨Lc, hQ, l2, y2, z2⟩, st⟩ := X.virtualBackUp hx (x := z) (y := y) hown (mvT hZ w1) (mvT hZ w0) (mvT hZ w2) hy (mvT hZ w3) (mvT hZ w4) (backOf (W := W) hM hZ w5 w6 hf hl) qa qc (g := g) hg hsize (Steps.refl _) (argsL := argsL) (rest := rest) hlen hstack hW hd (fun _ _ => ⟨rfl, eT, hc, hs⟩)
  dsimp only [Pt.U, Pt.locs, Pt.cells, Pt.slots] at X2 l2 y2 z2 st hQ
  subst l2 y2 z2
  exact ⟨T2, Lc, v, X2, hQ, fun t k => st.trans k⟩
theorem own_callS (X : Stand p l e R s m args below meth c T locs cells slots) (hx : p.tables.exec = Jvm.exec) (hZ : Z.Warmed39 s.vm) (eT : T.heap = h) {own : String} {index : Nat} {y : MethodName} {bytes : ByteArray} {maxL : Nat} {ret : Option FieldType} {R' : Room} {Qc : Option Value → Heap → List Loc → Prop}
    (hown : s.vm.findClass own = some m.cls) (w1 : (Jvm.Cond.methodLink own index y).before a0 Z = true) (w2 : (Jvm.Cond.static y).before a0 Z = true) (w5 : (Jvm.Cond.code y bytes maxL ret).before a0 Z = true) (w6 : (Jvm.Cond.initialized y.cls).before a0 Z = true)
    (hy : y.cls ≠ "java/lang/invoke/MethodHandle" ∧ y.cls ≠ "java/lang/invoke/VarHandle") (W : Nat) (argsL rest : List Value) (hM : own_C l y bytes maxL ret [] R' argsL.toArray Z h Qc) (hf : R'.frames + 1 ≤ R.frames) (hl : W + (maxL + 11) + R'.locals ≤ R.locals) (hc : cells + R'.cells ≤ R.cells) (hs : slots + R'.slots ≤ R.slots)
    {g : JFrame} (hg : g.method = m) (hsize : g.locals.size = c.maxLocals) (hlen : ∀ sig, parseMethodDescriptor y.desc = some sig → argsL.length = sig.parameters.length) (hstack : g.stack = argsL.reverse ++ rest) (hW : 2 * g.monitorRoom + (rest.map fun v => v.category).sum ≤ W) (hd : decode c.code g.pc = .ok (.invokestatic index, 3)) :
    ∃ (T' : State) (L : List Loc) (v : Option Value), Stand p l e R s m args below meth c T' (locs ++ L) (cells + R'.cells) (slots + R'.slots) ∧ Qc v T'.heap L ∧ ∀ target, Steps p.tables e below (T'.setTop { g with pc := g.pc + 3, stack := v.toList ++ rest }) target → Steps p.tables e below (T.setTop g) target := by
  obtain ⟨v, _, ⟨T2, L2, k2, n2⟩, -, X2, ⟨Lc, hQ, l2, y2, z2⟩, st⟩ := Jvm.LawKit.callS X hx (y := y) hown (mvT hZ w1) (mvT hZ w2) (mvT hZ w6) (mvT hZ w5) hy (backOf (W := W) hM hZ w5 w6 hf hl) (g := g) hg hsize (argsL := argsL) (rest := rest) hlen hstack hW hd (fun _ _ => ⟨rfl, eT, hc, hs⟩)
  dsimp only [Pt.U, Pt.locs, Pt.cells, Pt.slots] at X2 l2 y2 z2 st hQ
  subst l2 y2 z2
  exact ⟨T2, Lc, v, X2, hQ, st⟩
theorem own_callI (X : Stand p l e R s m args below meth c T locs cells slots) (hx : p.tables.exec = Jvm.exec) (hZ : Z.Warmed39 s.vm) (eT : T.heap = h) {own : String} {index : Nat} {y : MethodName} {bytes : ByteArray} {maxL : Nat} {R' : Room} {b : Addr} {Qc : Option Value → Heap → List Loc → Prop} (hy1 : y.name = "<init>")
    (hown : s.vm.findClass own = some m.cls) (w1 : (Jvm.Cond.methodLink own index y).before a0 Z = true) (w4 : (Jvm.Cond.instanceMethod y).before a0 Z = true) (w5 : (Jvm.Cond.code y bytes maxL none).before a0 Z = true) (w6 : (Jvm.Cond.initialized y.cls).before a0 Z = true)
    (hy : y.cls ≠ "java/lang/invoke/MethodHandle" ∧ y.cls ≠ "java/lang/invoke/VarHandle") (W : Nat) (argsL rest : List Value) (hM : own_C l y bytes maxL none [] R' (.ref b :: argsL).toArray Z h Qc) (hf : R'.frames + 1 ≤ R.frames) (hl : W + (maxL + 11) + R'.locals ≤ R.locals) (hc : cells + R'.cells ≤ R.cells) (hs : slots + R'.slots ≤ R.slots)
    {g : JFrame} (hg : g.method = m) (hsize : g.locals.size = c.maxLocals) (hlen : ∀ sig, parseMethodDescriptor y.desc = some sig → argsL.length = sig.parameters.length) (hstack : g.stack = argsL.reverse ++ .ref b :: rest) (hW : 2 * g.monitorRoom + (rest.map fun v => v.category).sum ≤ W) (hd : decode c.code g.pc = .ok (.invokespecial index, 3)) :
    ∃ (T' : State) (L : List Loc) (v : Option Value), Stand p l e R s m args below meth c T' (locs ++ L) (cells + R'.cells) (slots + R'.slots) ∧ Qc v T'.heap L ∧ ∀ target, Steps p.tables e below (T'.setTop { g with pc := g.pc + 3, stack := v.toList ++ rest }) target → Steps p.tables e below (T.setTop g) target := by
  obtain ⟨v, _, ⟨T2, L2, k2, n2⟩, -, X2, ⟨Lc, hQ, l2, y2, z2⟩, st⟩ := X.specialBack hx (y := y) hy1 hown (mvT hZ w1) (mvT hZ w4) (mvT hZ w5) hy (backOf (W := W) hM hZ w5 w6 hf hl) (g := g) hg hsize (Steps.refl _) (a := b) (argsL := argsL) (rest := rest) hlen hstack hW hd (fun _ _ => ⟨rfl, eT, hc, hs⟩)
  dsimp only [Pt.U, Pt.locs, Pt.cells, Pt.slots] at X2 l2 y2 z2 st hQ
  subst l2 y2 z2
  exact ⟨T2, Lc, v, X2, hQ, fun t k => st.trans k⟩
/-- a callee that leaves the heap alone: what it returns -/
abbrev own_Q0 (v : Option Value) (h0 : Heap) : Option Value → Heap → List Loc → Prop := fun v' h' L => v' = v ∧ h' = h0 ∧ L = []
abbrev own_R (f n : Nat) : Room := { frames := f, cells := 0, slots := 0, locals := n }
theorem own_pure {f n : Nat} {v : Option Value} {h0 : Heap} {P : State → Option Value → Prop}
    (q : ∃ (T' : State) (L : List Loc) (v' : Option Value), Stand p l e R s m args below meth c T' (locs ++ L) (cells + (own_R f n).cells) (slots + (own_R f n).slots) ∧ own_Q0 v h0 v' T'.heap L ∧ P T' v') : ∃ T', Stand p l e R s m args below meth c T' locs cells slots ∧ T'.heap = h0 ∧ P T' v := by
  obtain ⟨T', L, v', X, ⟨rfl, hh, rfl⟩, k⟩ := q
  rw [List.append_nil] at X
  exact ⟨T', X, hh, k⟩
theorem own_eqI {ar : Array Value} {first st : State} {o : Option Outcome} {idx : List Nat} {t : Term} {n : Int32} (q : (Jvm.Cond.eq t (.int n)).value ar first o st idx = some true) : t.eval ar first o idx st = some (.int n) := by
  simp only [Jvm.Cond.value, Term.eval] at q
  cases ht : t.eval ar first o idx st with
  | none => simp [ht] at q
  | some x => cases x <;> simp [ht] at q ⊢; exact q
theorem own_eqR {ar : Array Value} {first st : State} {o : Option Outcome} {idx : List Nat} {t u : Term} {b : Addr} (q : (Jvm.Cond.eq t u).value ar first o st idx = some true) (hu : u.eval ar first o idx st = some (.ref b)) : t.eval ar first o idx st = some (.ref b) := by
  cases ht : t.eval ar first o idx st with
  | none => simp [Jvm.Cond.value, ht] at q
  | some x => cases x <;> simp [Jvm.Cond.value, ht, hu] at q ⊢; exact q
theorem own_arrlen {ar : Array Value} {st : State} {t : Term} {a : Addr} {cl : Cell} {ty : FieldType} {n : Int32} (A : Arr st st.heap a cl ty) (ht : t.eval ar st none [] st = some (.ref a)) (hl : (Term.length t).eval ar st none [] st = some (.int n)) : cl.slots.size < 2 ^ 31 ∧ cl.slots.size.toInt32 = n := by
  have ha : st.arrayAt? a = some cl := Arr.fin (Vm.Alike.refl _) A
  by_cases q : cl.slots.size < 2 ^ 31
  · rw [len_f ht ha q] at hl
    exact ⟨q, Value.int.inj (Option.some.inj hl)⟩
  · simp [Term.eval, ht, ha, q] at hl
theorem own_neI {a b : Int32} (q : a ≠ b) : (Value.int a) ≠ (Value.int b) := fun z => q (Value.int.inj z)
end OwnKit
section OwnHeap
variable {p : Program} {l : Launch} {e : Env} {R : Room} {s : State} {m : MethodId} {args : Array Value} {below : List Frame} {meth : Method} {c : Code} {T : State} {locs : List Loc} {cells slots : Nat} {Z : State} {a0 : Array Value} {h h' h0 : Heap}
theorem own_extR : Ext h h := ⟨Nat.le_refl _, fun _ _ q => q⟩
theorem own_extE (A : Ext h0 h) (B : Ext h h') : Ext h0 h' := ⟨Nat.le_trans A.1 B.1, fun x c q => B.2 _ _ (A.2 _ _ q)⟩
theorem own_extW {a : Addr} {sl : Nat} {v : Value} (A : Ext h0 h) (W : Wr h h' a sl v) (q : h0.size ≤ a) : Ext h0 h' :=
  ⟨Nat.le_trans A.1 (Keep.of_wr W).1, fun x c hc => (Keep.of_wr W).2.1 x c (A.2 x c hc) fun z => by
    cases List.mem_singleton.mp z; exact absurd (Array.getElem?_eq_some_iff.mp hc).1 (Nat.not_lt.mpr q)⟩
theorem own_stR (X : Stand p l e R s m args below meth c T locs cells slots) (hx : p.tables.exec = Jvm.exec) (hZ : Z.Warmed39 s.vm) (eT : T.heap = h) {a y : Addr} {k : ClassId} {ty : FieldType} {z j : Int32} {vs : List Value} {dv : Value} {C : String} (V : Arv Z h a k ty z vs dv) (hty : ty.isReference = true) (hf : fits ty (.ref y) = true) (O : Ovr Z k C) (E : Exa Z h y C)
    (i : Nat) (hi : j.toNatClampNeg = i) (hl : i < vs.length) (hb : ¬ j < 0 ∧ j < z) (ha : s.heap.size ≤ a) {g : JFrame} (hg : g.method = m) {rest : List Value} (hs : g.stack = .ref y :: .int j :: .ref a :: rest) (hd : decode c.code g.pc = .ok (.aastore, 1)) :
    ∃ T' h', Stand p l e R s m args below meth c T' locs cells slots ∧ T'.heap = h' ∧ Wr h h' a j.toNatClampNeg (.ref y) ∧ Arv Z h' a k ty z (vs.set i (.ref y)) dv ∧ ∀ target, Steps p.tables e below (T'.setTop { g with pc := g.pc + 1, stack := rest }) target → Steps p.tables e below (T.setTop g) target := by
  obtain ⟨cl, A, q1, S, q3, H, G⟩ := V
  obtain ⟨T', h', X', e', W, st⟩ := stR X hx hZ eT A (inb_of S hb) hty (Sto.ofV A q1 O (Ins.self E)) hg hs hd
  exact ⟨T', h', X'.forget (fun y hy => by cases List.mem_singleton.mp hy; exact ha), e', W, Arv.set A q1 S q3 H G hf W i hi hl, st⟩
theorem own_stZ (X : Stand p l e R s m args below meth c T locs cells slots) (hx : p.tables.exec = Jvm.exec) (hZ : Z.Warmed39 s.vm) (eT : T.heap = h) {a : Addr} {k : ClassId} {z j x : Int32} {vs : List Value} {dv : Value} (V : Arv Z h a k .boolean z vs dv)
    (i : Nat) (hi : j.toNatClampNeg = i) (hl : i < vs.length) (hb : ¬ j < 0 ∧ j < z) (ha : s.heap.size ≤ a) {g : JFrame} (hg : g.method = m) {rest : List Value} (hs : g.stack = .int x :: .int j :: .ref a :: rest) (hd : decode c.code g.pc = .ok (.bastore, 1)) :
    ∃ T' h', Stand p l e R s m args below meth c T' locs cells slots ∧ T'.heap = h' ∧ Wr h h' a j.toNatClampNeg (.int (nar .boolean x)) ∧ Arv Z h' a k .boolean z (vs.set i (.int (nar .boolean x))) dv ∧ ∀ target, Steps p.tables e below (T'.setTop { g with pc := g.pc + 1, stack := rest }) target → Steps p.tables e below (T.setTop g) target := by
  obtain ⟨cl, A, q1, S, q3, H, G⟩ := V
  obtain ⟨T', h', X', e', W, st⟩ := stZ X hx hZ eT A (inb_of S hb) hg hs hd
  exact ⟨T', h', X'.forget (fun y hy => by cases List.mem_singleton.mp hy; exact ha), e', W, Arv.set A q1 S q3 H G (fits_nar_bool x) W i hi hl, st⟩
theorem own_stI (X : Stand p l e R s m args below meth c T locs cells slots) (hx : p.tables.exec = Jvm.exec) (hZ : Z.Warmed39 s.vm) (eT : T.heap = h) {a : Addr} {k : ClassId} {z j x : Int32} {vs : List Value} {dv : Value} (V : Arv Z h a k .int z vs dv)
    (i : Nat) (hi : j.toNatClampNeg = i) (hl : i < vs.length) (hb : ¬ j < 0 ∧ j < z) {g : JFrame} (hg : g.method = m) {rest : List Value} (hs : g.stack = .int x :: .int j :: .ref a :: rest) (hd : decode c.code g.pc = .ok (.iastore, 1)) :
    ∃ T' h', Stand p l e R s m args below meth c T' (locs ++ [⟨a, j.toNatClampNeg⟩]) cells slots ∧ T'.heap = h' ∧ Wr h h' a j.toNatClampNeg (.int x) ∧ Arv Z h' a k .int z (vs.set i (.int x)) dv ∧ ∀ target, Steps p.tables e below (T'.setTop { g with pc := g.pc + 1, stack := rest }) target → Steps p.tables e below (T.setTop g) target := by
  obtain ⟨cl, A, q1, S, q3, H, G⟩ := V
  obtain ⟨T', h', X', e', W, st⟩ := stI X hx hZ eT A (inb_of S hb) hg hs hd
  exact ⟨T', h', X', e', W, Arv.set A q1 S q3 H G rfl W i hi hl, st⟩
theorem own_ldR (X : Stand p l e R s m args below meth c T locs cells slots) (hx : p.tables.exec = Jvm.exec) (hZ : Z.Warmed39 s.vm) (eT : T.heap = h) {a : Addr} {k : ClassId} {ty : FieldType} {z j : Int32} {vs : List Value} {dv v : Value} (V : Arv Z h a k ty z vs dv) (hty : ty.isReference = true) (hb : ¬ j < 0 ∧ j < z) (hv : vs.getD j.toNatClampNeg dv = v)
    {g : JFrame} (hg : g.method = m) {rest : List Value} (hs : g.stack = .int j :: .ref a :: rest) (hd : decode c.code g.pc = .ok (.aaload, 1)) : ∀ target, Steps p.tables e below (T.setTop { g with pc := g.pc + 1, stack := v :: rest }) target → Steps p.tables e below (T.setTop g) target := by
  obtain ⟨cl, A, q1, S, q3, H, G⟩ := V
  intro t k
  exact X.aaload hx (by rw [eT]; exact A.1) (State.isArrayOf_alike hZ.alike A.2.1) hty A.2.2 (inb_of S hb) (H.at (inb_of S hb) hv) hg hs hd t k
theorem own_ldZ (X : Stand p l e R s m args below meth c T locs cells slots) (hx : p.tables.exec = Jvm.exec) (hZ : Z.Warmed39 s.vm) (eT : T.heap = h) {a : Addr} {k : ClassId} {z j : Int32} {vs : List Value} {dv v : Value} (V : Arv Z h a k .boolean z vs dv) (hb : ¬ j < 0 ∧ j < z) (hv : vs.getD j.toNatClampNeg dv = v)
    {g : JFrame} (hg : g.method = m) {rest : List Value} (hs : g.stack = .int j :: .ref a :: rest) (hd : decode c.code g.pc = .ok (.baload, 1)) : ∀ target, Steps p.tables e below (T.setTop { g with pc := g.pc + 1, stack := v :: rest }) target → Steps p.tables e below (T.setTop g) target := by
  obtain ⟨cl, A, q1, S, q3, H, G⟩ := V
  intro t k
  exact X.baloadBooleans hx (by rw [eT]; exact A.1) (State.isArrayOf_alike hZ.alike A.2.1) A.2.2 (inb_of S hb) (H.at (inb_of S hb) hv) hg hs hd t k
theorem own_ldI (X : Stand p l e R s m args below meth c T locs cells slots) (hx : p.tables.exec = Jvm.exec) (hZ : Z.Warmed39 s.vm) (eT : T.heap = h) {a : Addr} {k : ClassId} {z j : Int32} {vs : List Value} {dv v : Value} (V : Arv Z h a k .int z vs dv) (hb : ¬ j < 0 ∧ j < z) (hv : vs.getD j.toNatClampNeg dv = v)
    {g : JFrame} (hg : g.method = m) {rest : List Value} (hs : g.stack = .int j :: .ref a :: rest) (hd : decode c.code g.pc = .ok (.iaload, 1)) : ∀ target, Steps p.tables e below (T.setTop { g with pc := g.pc + 1, stack := v :: rest }) target → Steps p.tables e below (T.setTop g) target := by
  obtain ⟨cl, A, q1, S, q3, H, G⟩ := V
  intro t k
  exact X.iaload hx (by rw [eT]; exact A.1) (State.isArrayOf_alike hZ.alike A.2.1) A.2.2 (inb_of S hb) (H.at (inb_of S hb) hv) hg hs hd t k
theorem own_len (X : Stand p l e R s m args below meth c T locs cells slots) (hx : p.tables.exec = Jvm.exec) (hZ : Z.Warmed39 s.vm) (eT : T.heap = h) {a : Addr} {k : ClassId} {ty : FieldType} {z : Int32} {vs : List Value} {dv : Value} (V : Arv Z h a k ty z vs dv)
    {g : JFrame} (hg : g.method = m) {rest : List Value} (hs : g.stack = .ref a :: rest) (hd : decode c.code g.pc = .ok (.arraylength, 1)) : ∀ target, Steps p.tables e below (T.setTop { g with pc := g.pc + 1, stack := .int z :: rest }) target → Steps p.tables e below (T.setTop g) target := by
  obtain ⟨cl, A, q1, S, q3, H, G⟩ := V
  intro t k
  refine X.arraylength hx (by rw [eT]; exact A.1) (State.isArrayOf_alike hZ.alike A.2.1) hg hs hd t ?_
  rw [len_of S q3]; exact k
theorem own_extK {ws : List Addr} (A : Ext h0 h) (K : Keep h h' ws) (q : ∀ x ∈ ws, h0.size ≤ x) : Ext h0 h' :=
  ⟨Nat.le_trans A.1 K.1, fun x c hc => K.2.1 x c (A.2 x c hc) fun z => absurd (Array.getElem?_eq_some_iff.mp hc).1 (Nat.not_lt.mpr (q x z))⟩
theorem own_ltT {z k : Int32} {b : Int} (hu : z.toInt < b) (q : b ≤ k.toInt) : z < k := Int32.lt_iff_toInt_lt.mpr (by omega)
theorem own_ltF {z k : Int32} {a : Int} (hl : a ≤ z.toInt) (q : k.toInt ≤ a) : ¬ z < k := fun y => by have := Int32.lt_iff_toInt_lt.mp y; omega
theorem own_gtT {z k : Int32} {a : Int} (hl : a ≤ z.toInt) (q : k.toInt < a) : k < z := Int32.lt_iff_toInt_lt.mpr (by omega)
theorem own_gtF {z k : Int32} {b : Int} (hu : z.toInt < b) (q : b ≤ k.toInt + 1) : ¬ k < z := fun y => by have := Int32.lt_iff_toInt_lt.mp y; omega
theorem own_eqT {z k : Int32} {a b : Int} (hl : a ≤ z.toInt) (hu : z.toInt < b) (q1 : a = k.toInt) (q2 : b = k.toInt + 1) : z = k := Int32.toInt_inj.mp (by omega)
theorem own_eqL {z k : Int32} {a : Int} (hl : a ≤ z.toInt) (q : k.toInt < a) : ¬ z = k := fun y => by subst y; omega
theorem own_eqU {z k : Int32} {b : Int} (hu : z.toInt < b) (q : b ≤ k.toInt) : ¬ z = k := fun y => by subst y; omega
/-- a callee that makes cells and leaves the old ones alone -/
abbrev own_QA (v : Option Value) (h0 : Heap) (A : Heap → Prop) : Option Value → Heap → List Loc → Prop := fun v' h' L => v' = v ∧ Ext h0 h' ∧ A h' ∧ L = []
abbrev own_RC (f k n lo : Nat) : Room := { frames := f, cells := k, slots := n, locals := lo }
theorem own_grow {R' : Room} {v : Option Value} {A : Heap → Prop} {P : State → Option Value → Prop}
    (q : ∃ (T' : State) (L : List Loc) (v' : Option Value), Stand p l e R s m args below meth c T' (locs ++ L) (cells + R'.cells) (slots + R'.slots) ∧ own_QA v h A v' T'.heap L ∧ P T' v') : ∃ T' h', Stand p l e R s m args below meth c T' locs (cells + R'.cells) (slots + R'.slots) ∧ T'.heap = h' ∧ Ext h h' ∧ A h' ∧ P T' v := by
  obtain ⟨T', L, v', X, ⟨rfl, hh, hA, rfl⟩, k⟩ := q
  rw [List.append_nil] at X
  exact ⟨T', _, X, rfl, hh, hA, k⟩
end OwnHeap

theorem pd_0 : parseMethodDescriptor "()[Lcom/example/uniform_transactions/uniformtransactions/Isolation;" = some ⟨[], some (.array (.object "com/example/uniform_transactions/uniformtransactions/Isolation"))⟩ := by decide +kernel
theorem pd_1 : parseMethodDescriptor "(I)Lcom/example/uniform_transactions/uniformtransactions/Isolation;" = some ⟨[.int], some (.object "com/example/uniform_transactions/uniformtransactions/Isolation")⟩ := by decide +kernel
theorem pd_2 : parseMethodDescriptor "()I" = some ⟨[], some .int⟩ := by decide +kernel
theorem own_c5 (z : Int32) (q0 : 0 ≤ z.toInt) (q1 : z.toInt < 5) : z = (0 : Int32) ∨ z = (1 : Int32) ∨ z = (2 : Int32) ∨ z = (3 : Int32) ∨ z = (4 : Int32) := by
  simp only [← Int32.toInt_inj, show (0 : Int32).toInt = 0 from rfl, show (1 : Int32).toInt = 1 from rfl, show (2 : Int32).toInt = 2 from rfl, show (3 : Int32).toInt = 3 from rfl, show (4 : Int32).toInt = 4 from rfl]
  omega
theorem own_r5 (z : Int32) : (z &&& (2147483647 : Int32)) % (5 : Int32) = (0 : Int32) ∨ (z &&& (2147483647 : Int32)) % (5 : Int32) = (1 : Int32) ∨ (z &&& (2147483647 : Int32)) % (5 : Int32) = (2 : Int32) ∨ (z &&& (2147483647 : Int32)) % (5 : Int32) = (3 : Int32) ∨ (z &&& (2147483647 : Int32)) % (5 : Int32) = (4 : Int32) := by
  have q := c_mask z (2147483647 : Int32) 31 (by decide) (by decide)
  have r := (c_irem (z &&& (2147483647 : Int32)) (5 : Int32) 5 rfl).1 (by omega)
  exact own_c5 _ (by omega) (by omega)
def own_F (Z : State) (h : Heap) (w_DEFAULT w__VALUES w_READ_UNCOMMITTED w_READ_COMMITTED w_REPEATABLE_READ w_SERIALIZABLE : Addr) (k__VALUES : ClassId) : Prop :=
  Sta Z h "com/example/uniform_transactions/uniformtransactions/Isolation" "DEFAULT" "Lcom/example/uniform_transactions/uniformtransactions/Isolation;" (.ref w_DEFAULT) ∧
  Exa Z h w_DEFAULT "com/example/uniform_transactions/uniformtransactions/Isolation" ∧
  Sta Z h "com/example/uniform_transactions/uniformtransactions/Isolation" "$VALUES" "[Lcom/example/uniform_transactions/uniformtransactions/Isolation;" (.ref w__VALUES) ∧
  Exa Z h w__VALUES "[Lcom/example/uniform_transactions/uniformtransactions/Isolation;" ∧
  Sta Z h "com/example/uniform_transactions/uniformtransactions/Isolation" "READ_UNCOMMITTED" "Lcom/example/uniform_transactions/uniformtransactions/Isolation;" (.ref w_READ_UNCOMMITTED) ∧
  Exa Z h w_READ_UNCOMMITTED "com/example/uniform_transactions/uniformtransactions/Isolation" ∧
  Sta Z h "com/example/uniform_transactions/uniformtransactions/Isolation" "READ_COMMITTED" "Lcom/example/uniform_transactions/uniformtransactions/Isolation;" (.ref w_READ_COMMITTED) ∧
  Exa Z h w_READ_COMMITTED "com/example/uniform_transactions/uniformtransactions/Isolation" ∧
  Sta Z h "com/example/uniform_transactions/uniformtransactions/Isolation" "REPEATABLE_READ" "Lcom/example/uniform_transactions/uniformtransactions/Isolation;" (.ref w_REPEATABLE_READ) ∧
  Exa Z h w_REPEATABLE_READ "com/example/uniform_transactions/uniformtransactions/Isolation" ∧
  Sta Z h "com/example/uniform_transactions/uniformtransactions/Isolation" "SERIALIZABLE" "Lcom/example/uniform_transactions/uniformtransactions/Isolation;" (.ref w_SERIALIZABLE) ∧
  Exa Z h w_SERIALIZABLE "com/example/uniform_transactions/uniformtransactions/Isolation" ∧
  Fld Z h w_DEFAULT "com/example/uniform_transactions/uniformtransactions/Isolation" "code" "I" (.int (-1 : Int32)) ∧
  Fld Z h w_READ_UNCOMMITTED "com/example/uniform_transactions/uniformtransactions/Isolation" "code" "I" (.int (1 : Int32)) ∧
  Fld Z h w_READ_COMMITTED "com/example/uniform_transactions/uniformtransactions/Isolation" "code" "I" (.int (2 : Int32)) ∧
  Fld Z h w_REPEATABLE_READ "com/example/uniform_transactions/uniformtransactions/Isolation" "code" "I" (.int (4 : Int32)) ∧
  Fld Z h w_SERIALIZABLE "com/example/uniform_transactions/uniformtransactions/Isolation" "code" "I" (.int (8 : Int32)) ∧
  Arv Z h w__VALUES k__VALUES (.object "com/example/uniform_transactions/uniformtransactions/Isolation") (5 : Int32) [(.ref w_DEFAULT), (.ref w_READ_UNCOMMITTED), (.ref w_READ_COMMITTED), (.ref w_REPEATABLE_READ), (.ref w_SERIALIZABLE)] .null
theorem own_F_ext {Z : State} {h h' : Heap} {w_DEFAULT w__VALUES w_READ_UNCOMMITTED w_READ_COMMITTED w_REPEATABLE_READ w_SERIALIZABLE : Addr} {k__VALUES : ClassId} (F : own_F Z h w_DEFAULT w__VALUES w_READ_UNCOMMITTED w_READ_COMMITTED w_REPEATABLE_READ w_SERIALIZABLE k__VALUES) (X : Ext h h') : own_F Z h' w_DEFAULT w__VALUES w_READ_UNCOMMITTED w_READ_COMMITTED w_REPEATABLE_READ w_SERIALIZABLE k__VALUES := by
  obtain ⟨S_DEFAULT, E_DEFAULT, S__VALUES, E__VALUES, S_READ_UNCOMMITTED, E_READ_UNCOMMITTED, S_READ_COMMITTED, E_READ_COMMITTED, S_REPEATABLE_READ, E_REPEATABLE_READ, S_SERIALIZABLE, E_SERIALIZABLE, F_code_DEFAULT, F_code_READ_UNCOMMITTED, F_code_READ_COMMITTED, F_code_REPEATABLE_READ, F_code_SERIALIZABLE, V__VALUES⟩ := F
  exact ⟨S_DEFAULT.ext X, E_DEFAULT.ext X, S__VALUES.ext X, E__VALUES.ext X, S_READ_UNCOMMITTED.ext X, E_READ_UNCOMMITTED.ext X, S_READ_COMMITTED.ext X, E_READ_COMMITTED.ext X, S_REPEATABLE_READ.ext X, E_REPEATABLE_READ.ext X, S_SERIALIZABLE.ext X, E_SERIALIZABLE.ext X, F_code_DEFAULT.ext X, F_code_READ_UNCOMMITTED.ext X, F_code_READ_COMMITTED.ext X, F_code_REPEATABLE_READ.ext X, F_code_SERIALIZABLE.ext X, V__VALUES.ext X⟩
theorem d2_0 : decode prog_8_method_1_code 0 = .ok (.getstatic 19, 3) := by decide +kernel
theorem d2_3 : decode prog_8_method_1_code 3 = .ok (.invokevirtual 23, 3) := by decide +kernel
theorem d2_6 : decode prog_8_method_1_code 6 = .ok (.checkcast 24, 3) := by decide +kernel
theorem d2_9 : decode prog_8_method_1_code 9 = .ok (.areturn, 1) := by decide +kernel
set_option maxRecDepth 65536 in
set_option maxHeartbeats 40000000 in
theorem own_values (l : Launch) (Z : State) (a0 : Array Value) (hw : ∀ d ∈ tables_1, d.before a0 Z = true) (ws : List Jvm.Cond) (w_DEFAULT w__VALUES w_READ_UNCOMMITTED w_READ_COMMITTED w_REPEATABLE_READ w_SERIALIZABLE : Addr) (k__VALUES : ClassId) (h0 : Heap) (F : own_F Z h0 w_DEFAULT w__VALUES w_READ_UNCOMMITTED w_READ_COMMITTED w_REPEATABLE_READ w_SERIALIZABLE k__VALUES)  :
    own_C l (⟨"com/example/uniform_transactions/uniformtransactions/Isolation", "values", "()[Lcom/example/uniform_transactions/uniformtransactions/Isolation;"⟩ : MethodName) prog_8_method_1_code 0 (some (.array (.object "com/example/uniform_transactions/uniformtransactions/Isolation"))) ws (own_RC 1 1 5 14) #[] Z h0 (own_QA (some (.ref h0.size)) h0 (fun h' => Arv Z h' h0.size k__VALUES (.object "com/example/uniform_transactions/uniformtransactions/Isolation") (5 : Int32) [(.ref w_DEFAULT), (.ref w_READ_UNCOMMITTED), (.ref w_READ_COMMITTED), (.ref w_REPEATABLE_READ), (.ref w_SERIALIZABLE)] .null)) := by
  have F0 := F
  obtain ⟨S_DEFAULT, E_DEFAULT, S__VALUES, E__VALUES, S_READ_UNCOMMITTED, E_READ_UNCOMMITTED, S_READ_COMMITTED, E_READ_COMMITTED, S_REPEATABLE_READ, E_REPEATABLE_READ, S_SERIALIZABLE, E_SERIALIZABLE, F_code_DEFAULT, F_code_READ_UNCOMMITTED, F_code_READ_COMMITTED, F_code_REPEATABLE_READ, F_code_SERIALIZABLE, V__VALUES⟩ := F
  refine own_enter (LS := #[]) (plainFor_of_name (by first | (simp [plainName, overriddenIn, x]; done) | decide +kernel)) (fun m => by first | (simp [entryFrame, mkF, argsToLocals, Value.category, maxLocals]; done) | rfl) ?_
  intro p e s m below meth c s₁ hx hby hml hown0 hnm hret hlk hZ X0 e0 hsh
  have hown : s.vm.findClass "com/example/uniform_transactions/uniformtransactions/Isolation" = some m.cls := hown0
  obtain ⟨T1, X1, e1, st1⟩ := getS2 X0 hx hZ hown (host := "") (Or.inl (hw _ (List.mem_of_getElem? (i := 10) rfl))) Via.refl e0 S__VALUES (g := (mkF m 0 #[] [])) rfl (hb hby d2_0)
  refine own_pre (T' := T1) (f' := (mkF m 3 #[] [(.ref w__VALUES)])) (fun t k => st1 t k) ?_
  obtain ⟨T2, h2, X2, e2, E2, V2, Y2, st2⟩ := cloneH X1 hx hZ hown (hw _ (List.mem_of_getElem? (i := 12) rfl)) (hw _ (List.mem_of_getElem? (i := 13) rfl)) (hw _ (List.mem_of_getElem? (i := 17) rfl)) (hw _ (List.mem_of_getElem? (i := 15) rfl)) (hw _ (List.mem_of_getElem? (i := 16) rfl)) (hw _ (List.mem_of_getElem? (i := 18) rfl)) e1 (Arv.arh V__VALUES) E__VALUES (g := (mkF m 3 #[] [(.ref w__VALUES)])) rfl (by rw [hml]; rfl) rfl (hb hby d2_3) (by decide) (W := 0) (cap := 5) (by show 2 * 0 + _ ≤ _; exact Nat.le_of_eq rfl) (by decide) (by decide) (by decide) (by decide)
  have EX2_h0 : Ext h0 h2 := E2
  refine own_pre (T' := T2) (f' := (mkF m 6 #[] [(.ref h0.size)])) (fun t k => st2 t k) ?_
  obtain ⟨T3, X3, e3, st3⟩ := castY X2 hx hZ hown (hw _ (List.mem_of_getElem? (i := 24) rfl)) e2 (Ins.self Y2) (g := (mkF m 6 #[] [(.ref h0.size)])) rfl rfl (hb hby d2_6)
  refine own_pre (T' := T3) (f' := (mkF m 9 #[] [(.ref h0.size)])) (fun t k => st3 t k) ?_
  exact own_retR X3 hx hlk hret (hb hby d2_9) rfl rfl rfl (by rw [e3]; exact ⟨rfl, EX2_h0, V2, rfl⟩) (by decide) (by decide)
theorem d1_0 : decode prog_8_method_5_code 0 = .ok (.invokestatic 42, 3) := by decide +kernel
theorem d1_3 : decode prog_8_method_5_code 3 = .ok (.astore_n 1, 1) := by decide +kernel
theorem d1_4 : decode prog_8_method_5_code 4 = .ok (.aload_n 1, 1) := by decide +kernel
theorem d1_5 : decode prog_8_method_5_code 5 = .ok (.arraylength, 1) := by decide +kernel
theorem d1_6 : decode prog_8_method_5_code 6 = .ok (.istore_n 2, 1) := by decide +kernel
theorem d1_7 : decode prog_8_method_5_code 7 = .ok (.iconst 0, 1) := by decide +kernel
theorem d1_8 : decode prog_8_method_5_code 8 = .ok (.istore_n 3, 1) := by decide +kernel
theorem d1_9 : decode prog_8_method_5_code 9 = .ok (.iload_n 3, 1) := by decide +kernel
theorem d1_10 : decode prog_8_method_5_code 10 = .ok (.iload_n 2, 1) := by decide +kernel
theorem d1_11 : decode prog_8_method_5_code 11 = .ok (.if_icmp .ge 26, 3) := by decide +kernel
theorem d1_14 : decode prog_8_method_5_code 14 = .ok (.aload_n 1, 1) := by decide +kernel
theorem d1_15 : decode prog_8_method_5_code 15 = .ok (.iload_n 3, 1) := by decide +kernel
theorem d1_16 : decode prog_8_method_5_code 16 = .ok (.aaload, 1) := by decide +kernel
theorem d1_17 : decode prog_8_method_5_code 17 = .ok (.astore 4, 2) := by decide +kernel
theorem d1_19 : decode prog_8_method_5_code 19 = .ok (.aload 4, 2) := by decide +kernel
theorem d1_21 : decode prog_8_method_5_code 21 = .ok (.getfield 38, 3) := by decide +kernel
theorem d1_24 : decode prog_8_method_5_code 24 = .ok (.iload_n 0, 1) := by decide +kernel
theorem d1_25 : decode prog_8_method_5_code 25 = .ok (.if_icmp .ne 6, 3) := by decide +kernel
theorem d1_28 : decode prog_8_method_5_code 28 = .ok (.aload 4, 2) := by decide +kernel
theorem d1_30 : decode prog_8_method_5_code 30 = .ok (.areturn, 1) := by decide +kernel
set_option maxRecDepth 65536 in
set_option maxHeartbeats 40000000 in
theorem own_fc_m1 (l : Launch) (Z : State) (a0 : Array Value) (hw : ∀ d ∈ tables_1, d.before a0 Z = true) (ws : List Jvm.Cond) (w_DEFAULT w__VALUES w_READ_UNCOMMITTED w_READ_COMMITTED w_REPEATABLE_READ w_SERIALIZABLE : Addr) (k__VALUES : ClassId) (h0 : Heap) (F : own_F Z h0 w_DEFAULT w__VALUES w_READ_UNCOMMITTED w_READ_COMMITTED w_REPEATABLE_READ w_SERIALIZABLE k__VALUES)  :
    own_C l (⟨"com/example/uniform_transactions/uniformtransactions/Isolation", "fromCode", "(I)Lcom/example/uniform_transactions/uniformtransactions/Isolation;"⟩ : MethodName) prog_8_method_5_code 5 (some (.object "com/example/uniform_transactions/uniformtransactions/Isolation")) ws (own_RC 2 1 5 25) #[(.int (-1 : Int32))] Z h0 (own_QA (some (.ref w_DEFAULT)) h0 (fun _ => True)) := by
  have F0 := F
  obtain ⟨S_DEFAULT, E_DEFAULT, S__VALUES, E__VALUES, S_READ_UNCOMMITTED, E_READ_UNCOMMITTED, S_READ_COMMITTED, E_READ_COMMITTED, S_REPEATABLE_READ, E_REPEATABLE_READ, S_SERIALIZABLE, E_SERIALIZABLE, F_code_DEFAULT, F_code_READ_UNCOMMITTED, F_code_READ_COMMITTED, F_code_REPEATABLE_READ, F_code_SERIALIZABLE, V__VALUES⟩ := F
  refine own_enter (LS := #[iv (-1 : Int32), .unset, .unset, .unset, .unset]) (plainFor_of_name (by first | (simp [plainName, overriddenIn, x]; done) | decide +kernel)) (fun m => by first | (simp [entryFrame, mkF, argsToLocals, Value.category, maxLocals]; done) | rfl) ?_
  intro p e s m below meth c s₁ hx hby hml hown0 hnm hret hlk hZ X0 e0 hsh
  have hown : s.vm.findClass "com/example/uniform_transactions/uniformtransactions/Isolation" = some m.cls := hown0
  obtain ⟨T1, h1, X1, e1, E1, A1, st1⟩ := own_grow (R' := own_RC 1 1 5 14) (v := some (.ref h0.size)) (own_callS X0 hx hZ e0 (y := (⟨"com/example/uniform_transactions/uniformtransactions/Isolation", "values", "()[Lcom/example/uniform_transactions/uniformtransactions/Isolation;"⟩ : MethodName)) hown (hw _ (List.mem_of_getElem? (i := 7) rfl)) (hw _ (List.mem_of_getElem? (i := 8) rfl)) (hw _ (List.mem_of_getElem? (i := 9) rfl)) (hw _ (List.mem_of_getElem? (i := 2) rfl)) (by decide) 0 [] [] (own_values l Z a0 hw [] w_DEFAULT w__VALUES w_READ_UNCOMMITTED w_READ_COMMITTED w_REPEATABLE_READ w_SERIALIZABLE k__VALUES h0 F0) (by decide) (by decide) (by decide) (by decide) (g := (mkF m 0 #[iv (-1 : Int32), .unset, .unset, .unset, .unset] [])) rfl (by rw [hml]; rfl) (lenOf pd_0 rfl) rfl (by show 2 * 0 + _ ≤ _; exact Nat.le_of_eq rfl) (hb hby d1_0))
  obtain ⟨b1, g1⟩ : ∃ z, z = h0.size := ⟨_, rfl⟩
  rw [← g1] at A1 st1
  have EX1_h0 : Ext h0 h1 := E1
  refine own_pre (T' := T1) (f' := (mkF m 3 #[iv (-1 : Int32), .unset, .unset, .unset, .unset] [(.ref b1)])) (fun t k => st1 t k) ?_
  refine own_pre (T' := T1) (f' := (mkF m 4 #[iv (-1 : Int32), rv b1, .unset, .unset, .unset] [])) (fun t k => XS.astoreN X1.here hx rfl (hb hby d1_3) rfl rfl (l' := #[iv (-1 : Int32), rv b1, .unset, .unset, .unset]) rfl k) ?_
  refine own_pre (T' := T1) (f' := (mkF m 5 #[iv (-1 : Int32), rv b1, .unset, .unset, .unset] [(.ref b1)])) (fun t k => XS.aloadN X1.here hx rfl (hb hby d1_4) rfl rfl k) ?_
  refine own_pre (T' := T1) (f' := (mkF m 6 #[iv (-1 : Int32), rv b1, .unset, .unset, .unset] [(.int (5 : Int32))])) (fun t k => own_len X1 hx hZ e1 A1 (g := (mkF m 5 #[iv (-1 : Int32), rv b1, .unset, .unset, .unset] [(.ref b1)])) rfl rfl (hb hby d1_5) t k) ?_
  refine own_pre (T' := T1) (f' := (mkF m 7 #[iv (-1 : Int32), rv b1, iv (5 : Int32), .unset, .unset] [])) (fun t k => XS.istoreN X1.here hx rfl (hb hby d1_6) rfl (l' := #[iv (-1 : Int32), rv b1, iv (5 : Int32), .unset, .unset]) rfl k) ?_
  refine own_pre (T' := T1) (f' := (mkF m 8 #[iv (-1 : Int32), rv b1, iv (5 : Int32), .unset, .unset] [(.int (0 : Int32))])) (fun t k => XS.iconst X1.here hx rfl (hb hby d1_7) k) ?_
  refine own_pre (T' := T1) (f' := (mkF m 9 #[iv (-1 : Int32), rv b1, iv (5 : Int32), iv (0 : Int32), .unset] [])) (fun t k => XS.istoreN X1.here hx rfl (hb hby d1_8) rfl (l' := #[iv (-1 : Int32), rv b1, iv (5 : Int32), iv (0 : Int32), .unset]) rfl k) ?_
  refine own_pre (T' := T1) (f' := (mkF m 10 #[iv (-1 : Int32), rv b1, iv (5 : Int32), iv (0 : Int32), .unset] [(.int (0 : Int32))])) (fun t k => XS.iloadN X1.here hx rfl (hb hby d1_9) rfl k) ?_
  refine own_pre (T' := T1) (f' := (mkF m 11 #[iv (-1 : Int32), rv b1, iv (5 : Int32), iv (0 : Int32), .unset] [(.int (5 : Int32)), (.int (0 : Int32))])) (fun t k => XS.iloadN X1.here hx rfl (hb hby d1_10) rfl k) ?_
  refine own_pre (T' := T1) (f' := (mkF m 14 #[iv (-1 : Int32), rv b1, iv (5 : Int32), iv (0 : Int32), .unset] [])) (fun t k => XS.icmpNo X1.here hx rfl (hb hby d1_11) rfl (tlt (by decide : (0 : Int32) < (5 : Int32))).2.1 k) ?_
  refine own_pre (T' := T1) (f' := (mkF m 15 #[iv (-1 : Int32), rv b1, iv (5 : Int32), iv (0 : Int32), .unset] [(.ref b1)])) (fun t k => XS.aloadN X1.here hx rfl (hb hby d1_14) rfl rfl k) ?_
  refine own_pre (T' := T1) (f' := (mkF m 16 #[iv (-1 : Int32), rv b1, iv (5 : Int32), iv (0 : Int32), .unset] [(.int (0 : Int32)), (.ref b1)])) (fun t k => XS.iloadN X1.here hx rfl (hb hby d1_15) rfl k) ?_
  refine own_pre (T' := T1) (f' := (mkF m 17 #[iv (-1 : Int32), rv b1, iv (5 : Int32), iv (0 : Int32), .unset] [(.ref w_DEFAULT)])) (fun t k => own_ldR X1 hx hZ e1 A1 rfl (by decide) rfl (g := (mkF m 16 #[iv (-1 : Int32), rv b1, iv (5 : Int32), iv (0 : Int32), .unset] [(.int (0 : Int32)), (.ref b1)])) rfl rfl (hb hby d1_16) t k) ?_
  refine own_pre (T' := T1) (f' := (mkF m 19 #[iv (-1 : Int32), rv b1, iv (5 : Int32), iv (0 : Int32), rv w_DEFAULT] [])) (fun t k => XS.astore X1.here hx rfl (hb hby d1_17) rfl rfl (l' := #[iv (-1 : Int32), rv b1, iv (5 : Int32), iv (0 : Int32), rv w_DEFAULT]) rfl k) ?_
  refine own_pre (T' := T1) (f' := (mkF m 21 #[iv (-1 : Int32), rv b1, iv (5 : Int32), iv (0 : Int32), rv w_DEFAULT] [(.ref w_DEFAULT)])) (fun t k => XS.aload X1.here hx rfl (hb hby d1_19) rfl rfl k) ?_
  obtain ⟨T2, X2, e2, st2⟩ := getF X1 hx hZ hown (host := "") (Or.inl (hw _ (List.mem_of_getElem? (i := 26) rfl))) Via.refl e1 (F_code_DEFAULT.ext EX1_h0) (g := (mkF m 21 #[iv (-1 : Int32), rv b1, iv (5 : Int32), iv (0 : Int32), rv w_DEFAULT] [(.ref w_DEFAULT)])) rfl rfl (hb hby d1_21)
  refine own_pre (T' := T2) (f' := (mkF m 24 #[iv (-1 : Int32), rv b1, iv (5 : Int32), iv (0 : Int32), rv w_DEFAULT] [(.int (-1 : Int32))])) (fun t k => st2 t k) ?_
  refine own_pre (T' := T2) (f' := (mkF m 25 #[iv (-1 : Int32), rv b1, iv (5 : Int32), iv (0 : Int32), rv w_DEFAULT] [(.int (-1 : Int32)), (.int (-1 : Int32))])) (fun t k => XS.iloadN X2.here hx rfl (hb hby d1_24) rfl k) ?_
  refine own_pre (T' := T2) (f' := (mkF m 28 #[iv (-1 : Int32), rv b1, iv (5 : Int32), iv (0 : Int32), rv w_DEFAULT] [])) (fun t k => XS.icmpNo X2.here hx rfl (hb hby d1_25) rfl (teq (by decide : (-1 : Int32) = (-1 : Int32))).2 k) ?_
  refine own_pre (T' := T2) (f' := (mkF m 30 #[iv (-1 : Int32), rv b1, iv (5 : Int32), iv (0 : Int32), rv w_DEFAULT] [(.ref w_DEFAULT)])) (fun t k => XS.aload X2.here hx rfl (hb hby d1_28) rfl rfl k) ?_
  exact own_retR X2 hx hlk hret (hb hby d1_30) rfl rfl rfl (by rw [e2]; exact ⟨rfl, EX1_h0, trivial, rfl⟩) (by decide) (by decide)
theorem d1_31 : decode prog_8_method_5_code 31 = .ok (.iinc 3 1, 3) := by decide +kernel
theorem d1_34 : decode prog_8_method_5_code 34 = .ok (.goto (-25), 3) := by decide +kernel
set_option maxRecDepth 65536 in
set_option maxHeartbeats 40000000 in
theorem own_fc_1 (l : Launch) (Z : State) (a0 : Array Value) (hw : ∀ d ∈ tables_1, d.before a0 Z = true) (ws : List Jvm.Cond) (w_DEFAULT w__VALUES w_READ_UNCOMMITTED w_READ_COMMITTED w_REPEATABLE_READ w_SERIALIZABLE : Addr) (k__VALUES : ClassId) (h0 : Heap) (F : own_F Z h0 w_DEFAULT w__VALUES w_READ_UNCOMMITTED w_READ_COMMITTED w_REPEATABLE_READ w_SERIALIZABLE k__VALUES)  :
    own_C l (⟨"com/example/uniform_transactions/uniformtransactions/Isolation", "fromCode", "(I)Lcom/example/uniform_transactions/uniformtransactions/Isolation;"⟩ : MethodName) prog_8_method_5_code 5 (some (.object "com/example/uniform_transactions/uniformtransactions/Isolation")) ws (own_RC 2 1 5 25) #[(.int (1 : Int32))] Z h0 (own_QA (some (.ref w_READ_UNCOMMITTED)) h0 (fun _ => True)) := by
  have F0 := F
  obtain ⟨S_DEFAULT, E_DEFAULT, S__VALUES, E__VALUES, S_READ_UNCOMMITTED, E_READ_UNCOMMITTED, S_READ_COMMITTED, E_READ_COMMITTED, S_REPEATABLE_READ, E_REPEATABLE_READ, S_SERIALIZABLE, E_SERIALIZABLE, F_code_DEFAULT, F_code_READ_UNCOMMITTED, F_code_READ_COMMITTED, F_code_REPEATABLE_READ, F_code_SERIALIZABLE, V__VALUES⟩ := F
  refine own_enter (LS := #[iv (1 : Int32), .unset, .unset, .unset, .unset]) (plainFor_of_name (by first | (simp [plainName, overriddenIn, x]; done) | decide +kernel)) (fun m => by first | (simp [entryFrame, mkF, argsToLocals, Value.category, maxLocals]; done) | rfl) ?_
  intro p e s m below meth c s₁ hx hby hml hown0 hnm hret hlk hZ X0 e0 hsh
  have hown : s.vm.findClass "com/example/uniform_transactions/uniformtransactions/Isolation" = some m.cls := hown0
  obtain ⟨T1, h1, X1, e1, E1, A1, st1⟩ := own_grow (R' := own_RC 1 1 5 14) (v := some (.ref h0.size)) (own_callS X0 hx hZ e0 (y := (⟨"com/example/uniform_transactions/uniformtransactions/Isolation", "values", "()[Lcom/example/uniform_transactions/uniformtransactions/Isolation;"⟩ : MethodName)) hown (hw _ (List.mem_of_getElem? (i := 7) rfl)) (hw _ (List.mem_of_getElem? (i := 8) rfl)) (hw _ (List.mem_of_getElem? (i := 9) rfl)) (hw _ (List.mem_of_getElem? (i := 2) rfl)) (by decide) 0 [] [] (own_values l Z a0 hw [] w_DEFAULT w__VALUES w_READ_UNCOMMITTED w_READ_COMMITTED w_REPEATABLE_READ w_SERIALIZABLE k__VALUES h0 F0) (by decide) (by decide) (by decide) (by decide) (g := (mkF m 0 #[iv (1 : Int32), .unset, .unset, .unset, .unset] [])) rfl (by rw [hml]; rfl) (lenOf pd_0 rfl) rfl (by show 2 * 0 + _ ≤ _; exact Nat.le_of_eq rfl) (hb hby d1_0))
  obtain ⟨b1, g1⟩ : ∃ z, z = h0.size := ⟨_, rfl⟩
  rw [← g1] at A1 st1
  have EX1_h0 : Ext h0 h1 := E1
  refine own_pre (T' := T1) (f' := (mkF m 3 #[iv (1 : Int32), .unset, .unset, .unset, .unset] [(.ref b1)])) (fun t k => st1 t k) ?_
  refine own_pre (T' := T1) (f' := (mkF m 4 #[iv (1 : Int32), rv b1, .unset, .unset, .unset] [])) (fun t k => XS.astoreN X1.here hx rfl (hb hby d1_3) rfl rfl (l' := #[iv (1 : Int32), rv b1, .unset, .unset, .unset]) rfl k) ?_
  refine own_pre (T' := T1) (f' := (mkF m 5 #[iv (1 : Int32), rv b1, .unset, .unset, .unset] [(.ref b1)])) (fun t k => XS.aloadN X1.here hx rfl (hb hby d1_4) rfl rfl k) ?_
  refine own_pre (T' := T1) (f' := (mkF m 6 #[iv (1 : Int32), rv b1, .unset, .unset, .unset] [(.int (5 : Int32))])) (fun t k => own_len X1 hx hZ e1 A1 (g := (mkF m 5 #[iv (1 : Int32), rv b1, .unset, .unset, .unset] [(.ref b1)])) rfl rfl (hb hby d1_5) t k) ?_
  refine own_pre (T' := T1) (f' := (mkF m 7 #[iv (1 : Int32), rv b1, iv (5 : Int32), .unset, .unset] [])) (fun t k => XS.istoreN X1.here hx rfl (hb hby d1_6) rfl (l' := #[iv (1 : Int32), rv b1, iv (5 : Int32), .unset, .unset]) rfl k) ?_
  refine own_pre (T' := T1) (f' := (mkF m 8 #[iv (1 : Int32), rv b1, iv (5 : Int32), .unset, .unset] [(.int (0 : Int32))])) (fun t k => XS.iconst X1.here hx rfl (hb hby d1_7) k) ?_
  refine own_pre (T' := T1) (f' := (mkF m 9 #[iv (1 : Int32), rv b1, iv (5 : Int32), iv (0 : Int32), .unset] [])) (fun t k => XS.istoreN X1.here hx rfl (hb hby d1_8) rfl (l' := #[iv (1 : Int32), rv b1, iv (5 : Int32), iv (0 : Int32), .unset]) rfl k) ?_
  refine own_pre (T' := T1) (f' := (mkF m 10 #[iv (1 : Int32), rv b1, iv (5 : Int32), iv (0 : Int32), .unset] [(.int (0 : Int32))])) (fun t k => XS.iloadN X1.here hx rfl (hb hby d1_9) rfl k) ?_
  refine own_pre (T' := T1) (f' := (mkF m 11 #[iv (1 : Int32), rv b1, iv (5 : Int32), iv (0 : Int32), .unset] [(.int (5 : Int32)), (.int (0 : Int32))])) (fun t k => XS.iloadN X1.here hx rfl (hb hby d1_10) rfl k) ?_
  refine own_pre (T' := T1) (f' := (mkF m 14 #[iv (1 : Int32), rv b1, iv (5 : Int32), iv (0 : Int32), .unset] [])) (fun t k => XS.icmpNo X1.here hx rfl (hb hby d1_11) rfl (tlt (by decide : (0 : Int32) < (5 : Int32))).2.1 k) ?_
  refine own_pre (T' := T1) (f' := (mkF m 15 #[iv (1 : Int32), rv b1, iv (5 : Int32), iv (0 : Int32), .unset] [(.ref b1)])) (fun t k => XS.aloadN X1.here hx rfl (hb hby d1_14) rfl rfl k) ?_
  refine own_pre (T' := T1) (f' := (mkF m 16 #[iv (1 : Int32), rv b1, iv (5 : Int32), iv (0 : Int32), .unset] [(.int (0 : Int32)), (.ref b1)])) (fun t k => XS.iloadN X1.here hx rfl (hb hby d1_15) rfl k) ?_
  refine own_pre (T' := T1) (f' := (mkF m 17 #[iv (1 : Int32), rv b1, iv (5 : Int32), iv (0 : Int32), .unset] [(.ref w_DEFAULT)])) (fun t k => own_ldR X1 hx hZ e1 A1 rfl (by decide) rfl (g := (mkF m 16 #[iv (1 : Int32), rv b1, iv (5 : Int32), iv (0 : Int32), .unset] [(.int (0 : Int32)), (.ref b1)])) rfl rfl (hb hby d1_16) t k) ?_
  refine own_pre (T' := T1) (f' := (mkF m 19 #[iv (1 : Int32), rv b1, iv (5 : Int32), iv (0 : Int32), rv w_DEFAULT] [])) (fun t k => XS.astore X1.here hx rfl (hb hby d1_17) rfl rfl (l' := #[iv (1 : Int32), rv b1, iv (5 : Int32), iv (0 : Int32), rv w_DEFAULT]) rfl k) ?_
  refine own_pre (T' := T1) (f' := (mkF m 21 #[iv (1 : Int32), rv b1, iv (5 : Int32), iv (0 : Int32), rv w_DEFAULT] [(.ref w_DEFAULT)])) (fun t k => XS.aload X1.here hx rfl (hb hby d1_19) rfl rfl k) ?_
  obtain ⟨T2, X2, e2, st2⟩ := getF X1 hx hZ hown (host := "") (Or.inl (hw _ (List.mem_of_getElem? (i := 26) rfl))) Via.refl e1 (F_code_DEFAULT.ext EX1_h0) (g := (mkF m 21 #[iv (1 : Int32), rv b1, iv (5 : Int32), iv (0 : Int32), rv w_DEFAULT] [(.ref w_DEFAULT)])) rfl rfl (hb hby d1_21)
  refine own_pre (T' := T2) (f' := (mkF m 24 #[iv (1 : Int32), rv b1, iv (5 : Int32), iv (0 : Int32), rv w_DEFAULT] [(.int (-1 : Int32))])) (fun t k => st2 t k) ?_
  refine own_pre (T' := T2) (f' := (mkF m 25 #[iv (1 : Int32), rv b1, iv (5 : Int32), iv (0 : Int32), rv w_DEFAULT] [(.int (1 : Int32)), (.int (-1 : Int32))])) (fun t k => XS.iloadN X2.here hx rfl (hb hby d1_24) rfl k) ?_
  refine own_pre (T' := T2) (f' := (mkF m 31 #[iv (1 : Int32), rv b1, iv (5 : Int32), iv (0 : Int32), rv w_DEFAULT] [])) (fun t k => XS.icmpYes X2.here hx rfl (pc0 := 25) (pc' := 31) rfl (hb hby d1_25) rfl (feq (by decide : ¬ ((-1 : Int32) = (1 : Int32)))).2 (by decide) (by decide) k) ?_
  refine own_pre (T' := T2) (f' := (mkF m 34 #[iv (1 : Int32), rv b1, iv (5 : Int32), iv ((0 : Int32) + (1 : Int32)), rv w_DEFAULT] [])) (fun t k => XS.iinc X2.here hx rfl (hb hby d1_31) rfl (l' := #[iv (1 : Int32), rv b1, iv (5 : Int32), iv ((0 : Int32) + (1 : Int32)), rv w_DEFAULT]) rfl k) ?_
  rw [show ((0 : Int32) + (1 : Int32)) = (1 : Int32) from by decide]
  refine own_pre (T' := T2) (f' := (mkF m 9 #[iv (1 : Int32), rv b1, iv (5 : Int32), iv (1 : Int32), rv w_DEFAULT] [])) (fun t k => XS.goto X2.here hx rfl (pc0 := 34) (pc' := 9) rfl (hb hby d1_34) (by decide) (by decide) k) ?_
  refine own_pre (T' := T2) (f' := (mkF m 10 #[iv (1 : Int32), rv b1, iv (5 : Int32), iv (1 : Int32), rv w_DEFAULT] [(.int (1 : Int32))])) (fun t k => XS.iloadN X2.here hx rfl (hb hby d1_9) rfl k) ?_
  refine own_pre (T' := T2) (f' := (mkF m 11 #[iv (1 : Int32), rv b1, iv (5 : Int32), iv (1 : Int32), rv w_DEFAULT] [(.int (5 : Int32)), (.int (1 : Int32))])) (fun t k => XS.iloadN X2.here hx rfl (hb hby d1_10) rfl k) ?_
  refine own_pre (T' := T2) (f' := (mkF m 14 #[iv (1 : Int32), rv b1, iv (5 : Int32), iv (1 : Int32), rv w_DEFAULT] [])) (fun t k => XS.icmpNo X2.here hx rfl (hb hby d1_11) rfl (tlt (by decide : (1 : Int32) < (5 : Int32))).2.1 k) ?_
  refine own_pre (T' := T2) (f' := (mkF m 15 #[iv (1 : Int32), rv b1, iv (5 : Int32), iv (1 : Int32), rv w_DEFAULT] [(.ref b1)])) (fun t k => XS.aloadN X2.here hx rfl (hb hby d1_14) rfl rfl k) ?_
  refine own_pre (T' := T2) (f' := (mkF m 16 #[iv (1 : Int32), rv b1, iv (5 : Int32), iv (1 : Int32), rv w_DEFAULT] [(.int (1 : Int32)), (.ref b1)])) (fun t k => XS.iloadN X2.here hx rfl (hb hby d1_15) rfl k) ?_
  refine own_pre (T' := T2) (f' := (mkF m 17 #[iv (1 : Int32), rv b1, iv (5 : Int32), iv (1 : Int32), rv w_DEFAULT] [(.ref w_READ_UNCOMMITTED)])) (fun t k => own_ldR X2 hx hZ e2 A1 rfl (by decide) rfl (g := (mkF m 16 #[iv (1 : Int32), rv b1, iv (5 : Int32), iv (1 : Int32), rv w_DEFAULT] [(.int (1 : Int32)), (.ref b1)])) rfl rfl (hb hby d1_16) t k) ?_
  refine own_pre (T' := T2) (f' := (mkF m 19 #[iv (1 : Int32), rv b1, iv (5 : Int32), iv (1 : Int32), rv w_READ_UNCOMMITTED] [])) (fun t k => XS.astore X2.here hx rfl (hb hby d1_17) rfl rfl (l' := #[iv (1 : Int32), rv b1, iv (5 : Int32), iv (1 : Int32), rv w_READ_UNCOMMITTED]) rfl k) ?_
  refine own_pre (T' := T2) (f' := (mkF m 21 #[iv (1 : Int32), rv b1, iv (5 : Int32), iv (1 : Int32), rv w_READ_UNCOMMITTED] [(.ref w_READ_UNCOMMITTED)])) (fun t k => XS.aload X2.here hx rfl (hb hby d1_19) rfl rfl k) ?_
  obtain ⟨T3, X3, e3, st3⟩ := getF X2 hx hZ hown (host := "") (Or.inl (hw _ (List.mem_of_getElem? (i := 26) rfl))) Via.refl e2 (F_code_READ_UNCOMMITTED.ext EX1_h0) (g := (mkF m 21 #[iv (1 : Int32), rv b1, iv (5 : Int32), iv (1 : Int32), rv w_READ_UNCOMMITTED] [(.ref w_READ_UNCOMMITTED)])) rfl rfl (hb hby d1_21)
  refine own_pre (T' := T3) (f' := (mkF m 24 #[iv (1 : Int32), rv b1, iv (5 : Int32), iv (1 : Int32), rv w_READ_UNCOMMITTED] [(.int (1 : Int32))])) (fun t k => st3 t k) ?_
  refine own_pre (T' := T3) (f' := (mkF m 25 #[iv (1 : Int32), rv b1, iv (5 : Int32), iv (1 : Int32), rv w_READ_UNCOMMITTED] [(.int (1 : Int32)), (.int (1 : Int32))])) (fun t k => XS.iloadN X3.here hx rfl (hb hby d1_24) rfl k) ?_
  refine own_pre (T' := T3) (f' := (mkF m 28 #[iv (1 : Int32), rv b1, iv (5 : Int32), iv (1 : Int32), rv w_READ_UNCOMMITTED] [])) (fun t k => XS.icmpNo X3.here hx rfl (hb hby d1_25) rfl (teq (by decide : (1 : Int32) = (1 : Int32))).2 k) ?_
  refine own_pre (T' := T3) (f' := (mkF m 30 #[iv (1 : Int32), rv b1, iv (5 : Int32), iv (1 : Int32), rv w_READ_UNCOMMITTED] [(.ref w_READ_UNCOMMITTED)])) (fun t k => XS.aload X3.here hx rfl (hb hby d1_28) rfl rfl k) ?_
  exact own_retR X3 hx hlk hret (hb hby d1_30) rfl rfl rfl (by rw [e3]; exact ⟨rfl, EX1_h0, trivial, rfl⟩) (by decide) (by decide)
set_option maxRecDepth 65536 in
set_option maxHeartbeats 40000000 in
theorem own_fc_2 (l : Launch) (Z : State) (a0 : Array Value) (hw : ∀ d ∈ tables_1, d.before a0 Z = true) (ws : List Jvm.Cond) (w_DEFAULT w__VALUES w_READ_UNCOMMITTED w_READ_COMMITTED w_REPEATABLE_READ w_SERIALIZABLE : Addr) (k__VALUES : ClassId) (h0 : Heap) (F : own_F Z h0 w_DEFAULT w__VALUES w_READ_UNCOMMITTED w_READ_COMMITTED w_REPEATABLE_READ w_SERIALIZABLE k__VALUES)  :
    own_C l (⟨"com/example/uniform_transactions/uniformtransactions/Isolation", "fromCode", "(I)Lcom/example/uniform_transactions/uniformtransactions/Isolation;"⟩ : MethodName) prog_8_method_5_code 5 (some (.object "com/example/uniform_transactions/uniformtransactions/Isolation")) ws (own_RC 2 1 5 25) #[(.int (2 : Int32))] Z h0 (own_QA (some (.ref w_READ_COMMITTED)) h0 (fun _ => True)) := by
  have F0 := F
  obtain ⟨S_DEFAULT, E_DEFAULT, S__VALUES, E__VALUES, S_READ_UNCOMMITTED, E_READ_UNCOMMITTED, S_READ_COMMITTED, E_READ_COMMITTED, S_REPEATABLE_READ, E_REPEATABLE_READ, S_SERIALIZABLE, E_SERIALIZABLE, F_code_DEFAULT, F_code_READ_UNCOMMITTED, F_code_READ_COMMITTED, F_code_REPEATABLE_READ, F_code_SERIALIZABLE, V__VALUES⟩ := F
  refine own_enter (LS := #[iv (2 : Int32), .unset, .unset, .unset, .unset]) (plainFor_of_name (by first | (simp [plainName, overriddenIn, x]; done) | decide +kernel)) (fun m => by first | (simp [entryFrame, mkF, argsToLocals, Value.category, maxLocals]; done) | rfl) ?_
  intro p e s m below meth c s₁ hx hby hml hown0 hnm hret hlk hZ X0 e0 hsh
  have hown : s.vm.findClass "com/example/uniform_transactions/uniformtransactions/Isolation" = some m.cls := hown0
  obtain ⟨T1, h1, X1, e1, E1, A1, st1⟩ := own_grow (R' := own_RC 1 1 5 14) (v := some (.ref h0.size)) (own_callS X0 hx hZ e0 (y := (⟨"com/example/uniform_transactions/uniformtransactions/Isolation", "values", "()[Lcom/example/uniform_transactions/uniformtransactions/Isolation;"⟩ : MethodName)) hown (hw _ (List.mem_of_getElem? (i := 7) rfl)) (hw _ (List.mem_of_getElem? (i := 8) rfl)) (hw _ (List.mem_of_getElem? (i := 9) rfl)) (hw _ (List.mem_of_getElem? (i := 2) rfl)) (by decide) 0 [] [] (own_values l Z a0 hw [] w_DEFAULT w__VALUES w_READ_UNCOMMITTED w_READ_COMMITTED w_REPEATABLE_READ w_SERIALIZABLE k__VALUES h0 F0) (by decide) (by decide) (by decide) (by decide) (g := (mkF m 0 #[iv (2 : Int32), .unset, .unset, .unset, .unset] [])) rfl (by rw [hml]; rfl) (lenOf pd_0 rfl) rfl (by show 2 * 0 + _ ≤ _; exact Nat.le_of_eq rfl) (hb hby d1_0))
  obtain ⟨b1, g1⟩ : ∃ z, z = h0.size := ⟨_, rfl⟩
  rw [← g1] at A1 st1
  have EX1_h0 : Ext h0 h1 := E1
  refine own_pre (T' := T1) (f' := (mkF m 3 #[iv (2 : Int32), .unset, .unset, .unset, .unset] [(.ref b1)])) (fun t k => st1 t k) ?_
  refine own_pre (T' := T1) (f' := (mkF m 4 #[iv (2 : Int32), rv b1, .unset, .unset, .unset] [])) (fun t k => XS.astoreN X1.here hx rfl (hb hby d1_3) rfl rfl (l' := #[iv (2 : Int32), rv b1, .unset, .unset, .unset]) rfl k) ?_
  refine own_pre (T' := T1) (f' := (mkF m 5 #[iv (2 : Int32), rv b1, .unset, .unset, .unset] [(.ref b1)])) (fun t k => XS.aloadN X1.here hx rfl (hb hby d1_4) rfl rfl k) ?_
  refine own_pre (T' := T1) (f' := (mkF m 6 #[iv (2 : Int32), rv b1, .unset, .unset, .unset] [(.int (5 : Int32))])) (fun t k => own_len X1 hx hZ e1 A1 (g := (mkF m 5 #[iv (2 : Int32), rv b1, .unset, .unset, .unset] [(.ref b1)])) rfl rfl (hb hby d1_5) t k) ?_
  refine own_pre (T' := T1) (f' := (mkF m 7 #[iv (2 : Int32), rv b1, iv (5 : Int32), .unset, .unset] [])) (fun t k => XS.istoreN X1.here hx rfl (hb hby d1_6) rfl (l' := #[iv (2 : Int32), rv b1, iv (5 : Int32), .unset, .unset]) rfl k) ?_
  refine own_pre (T' := T1) (f' := (mkF m 8 #[iv (2 : Int32), rv b1, iv (5 : Int32), .unset, .unset] [(.int (0 : Int32))])) (fun t k => XS.iconst X1.here hx rfl (hb hby d1_7) k) ?_
  refine own_pre (T' := T1) (f' := (mkF m 9 #[iv (2 : Int32), rv b1, iv (5 : Int32), iv (0 : Int32), .unset] [])) (fun t k => XS.istoreN X1.here hx rfl (hb hby d1_8) rfl (l' := #[iv (2 : Int32), rv b1, iv (5 : Int32), iv (0 : Int32), .unset]) rfl k) ?_
  refine own_pre (T' := T1) (f' := (mkF m 10 #[iv (2 : Int32), rv b1, iv (5 : Int32), iv (0 : Int32), .unset] [(.int (0 : Int32))])) (fun t k => XS.iloadN X1.here hx rfl (hb hby d1_9) rfl k) ?_
  refine own_pre (T' := T1) (f' := (mkF m 11 #[iv (2 : Int32), rv b1, iv (5 : Int32), iv (0 : Int32), .unset] [(.int (5 : Int32)), (.int (0 : Int32))])) (fun t k => XS.iloadN X1.here hx rfl (hb hby d1_10) rfl k) ?_
  refine own_pre (T' := T1) (f' := (mkF m 14 #[iv (2 : Int32), rv b1, iv (5 : Int32), iv (0 : Int32), .unset] [])) (fun t k => XS.icmpNo X1.here hx rfl (hb hby d1_11) rfl (tlt (by decide : (0 : Int32) < (5 : Int32))).2.1 k) ?_
  refine own_pre (T' := T1) (f' := (mkF m 15 #[iv (2 : Int32), rv b1, iv (5 : Int32), iv (0 : Int32), .unset] [(.ref b1)])) (fun t k => XS.aloadN X1.here hx rfl (hb hby d1_14) rfl rfl k) ?_
  refine own_pre (T' := T1) (f' := (mkF m 16 #[iv (2 : Int32), rv b1, iv (5 : Int32), iv (0 : Int32), .unset] [(.int (0 : Int32)), (.ref b1)])) (fun t k => XS.iloadN X1.here hx rfl (hb hby d1_15) rfl k) ?_
  refine own_pre (T' := T1) (f' := (mkF m 17 #[iv (2 : Int32), rv b1, iv (5 : Int32), iv (0 : Int32), .unset] [(.ref w_DEFAULT)])) (fun t k => own_ldR X1 hx hZ e1 A1 rfl (by decide) rfl (g := (mkF m 16 #[iv (2 : Int32), rv b1, iv (5 : Int32), iv (0 : Int32), .unset] [(.int (0 : Int32)), (.ref b1)])) rfl rfl (hb hby d1_16) t k) ?_
  refine own_pre (T' := T1) (f' := (mkF m 19 #[iv (2 : Int32), rv b1, iv (5 : Int32), iv (0 : Int32), rv w_DEFAULT] [])) (fun t k => XS.astore X1.here hx rfl (hb hby d1_17) rfl rfl (l' := #[iv (2 : Int32), rv b1, iv (5 : Int32), iv (0 : Int32), rv w_DEFAULT]) rfl k) ?_
  refine own_pre (T' := T1) (f' := (mkF m 21 #[iv (2 : Int32), rv b1, iv (5 : Int32), iv (0 : Int32), rv w_DEFAULT] [(.ref w_DEFAULT)])) (fun t k => XS.aload X1.here hx rfl (hb hby d1_19) rfl rfl k) ?_
  obtain ⟨T2, X2, e2, st2⟩ := getF X1 hx hZ hown (host := "") (Or.inl (hw _ (List.mem_of_getElem? (i := 26) rfl))) Via.refl e1 (F_code_DEFAULT.ext EX1_h0) (g := (mkF m 21 #[iv (2 : Int32), rv b1, iv (5 : Int32), iv (0 : Int32), rv w_DEFAULT] [(.ref w_DEFAULT)])) rfl rfl (hb hby d1_21)
  refine own_pre (T' := T2) (f' := (mkF m 24 #[iv (2 : Int32), rv b1, iv (5 : Int32), iv (0 : Int32), rv w_DEFAULT] [(.int (-1 : Int32))])) (fun t k => st2 t k) ?_
  refine own_pre (T' := T2) (f' := (mkF m 25 #[iv (2 : Int32), rv b1, iv (5 : Int32), iv (0 : Int32), rv w_DEFAULT] [(.int (2 : Int32)), (.int (-1 : Int32))])) (fun t k => XS.iloadN X2.here hx rfl (hb hby d1_24) rfl k) ?_
  refine own_pre (T' := T2) (f' := (mkF m 31 #[iv (2 : Int32), rv b1, iv (5 : Int32), iv (0 : Int32), rv w_DEFAULT] [])) (fun t k => XS.icmpYes X2.here hx rfl (pc0 := 25) (pc' := 31) rfl (hb hby d1_25) rfl (feq (by decide : ¬ ((-1 : Int32) = (2 : Int32)))).2 (by decide) (by decide) k) ?_
  refine own_pre (T' := T2) (f' := (mkF m 34 #[iv (2 : Int32), rv b1, iv (5 : Int32), iv ((0 : Int32) + (1 : Int32)), rv w_DEFAULT] [])) (fun t k => XS.iinc X2.here hx rfl (hb hby d1_31) rfl (l' := #[iv (2 : Int32), rv b1, iv (5 : Int32), iv ((0 : Int32) + (1 : Int32)), rv w_DEFAULT]) rfl k) ?_
  rw [show ((0 : Int32) + (1 : Int32)) = (1 : Int32) from by decide]
  refine own_pre (T' := T2) (f' := (mkF m 9 #[iv (2 : Int32), rv b1, iv (5 : Int32), iv (1 : Int32), rv w_DEFAULT] [])) (fun t k => XS.goto X2.here hx rfl (pc0 := 34) (pc' := 9) rfl (hb hby d1_34) (by decide) (by decide) k) ?_
  refine own_pre (T' := T2) (f' := (mkF m 10 #[iv (2 : Int32), rv b1, iv (5 : Int32), iv (1 : Int32), rv w_DEFAULT] [(.int (1 : Int32))])) (fun t k => XS.iloadN X2.here hx rfl (hb hby d1_9) rfl k) ?_
  refine own_pre (T' := T2) (f' := (mkF m 11 #[iv (2 : Int32), rv b1, iv (5 : Int32), iv (1 : Int32), rv w_DEFAULT] [(.int (5 : Int32)), (.int (1 : Int32))])) (fun t k => XS.iloadN X2.here hx rfl (hb hby d1_10) rfl k) ?_
  refine own_pre (T' := T2) (f' := (mkF m 14 #[iv (2 : Int32), rv b1, iv (5 : Int32), iv (1 : Int32), rv w_DEFAULT] [])) (fun t k => XS.icmpNo X2.here hx rfl (hb hby d1_11) rfl (tlt (by decide : (1 : Int32) < (5 : Int32))).2.1 k) ?_
  refine own_pre (T' := T2) (f' := (mkF m 15 #[iv (2 : Int32), rv b1, iv (5 : Int32), iv (1 : Int32), rv w_DEFAULT] [(.ref b1)])) (fun t k => XS.aloadN X2.here hx rfl (hb hby d1_14) rfl rfl k) ?_
  refine own_pre (T' := T2) (f' := (mkF m 16 #[iv (2 : Int32), rv b1, iv (5 : Int32), iv (1 : Int32), rv w_DEFAULT] [(.int (1 : Int32)), (.ref b1)])) (fun t k => XS.iloadN X2.here hx rfl (hb hby d1_15) rfl k) ?_
  refine own_pre (T' := T2) (f' := (mkF m 17 #[iv (2 : Int32), rv b1, iv (5 : Int32), iv (1 : Int32), rv w_DEFAULT] [(.ref w_READ_UNCOMMITTED)])) (fun t k => own_ldR X2 hx hZ e2 A1 rfl (by decide) rfl (g := (mkF m 16 #[iv (2 : Int32), rv b1, iv (5 : Int32), iv (1 : Int32), rv w_DEFAULT] [(.int (1 : Int32)), (.ref b1)])) rfl rfl (hb hby d1_16) t k) ?_
  refine own_pre (T' := T2) (f' := (mkF m 19 #[iv (2 : Int32), rv b1, iv (5 : Int32), iv (1 : Int32), rv w_READ_UNCOMMITTED] [])) (fun t k => XS.astore X2.here hx rfl (hb hby d1_17) rfl rfl (l' := #[iv (2 : Int32), rv b1, iv (5 : Int32), iv (1 : Int32), rv w_READ_UNCOMMITTED]) rfl k) ?_
  refine own_pre (T' := T2) (f' := (mkF m 21 #[iv (2 : Int32), rv b1, iv (5 : Int32), iv (1 : Int32), rv w_READ_UNCOMMITTED] [(.ref w_READ_UNCOMMITTED)])) (fun t k => XS.aload X2.here hx rfl (hb hby d1_19) rfl rfl k) ?_
  obtain ⟨T3, X3, e3, st3⟩ := getF X2 hx hZ hown (host := "") (Or.inl (hw _ (List.mem_of_getElem? (i := 26) rfl))) Via.refl e2 (F_code_READ_UNCOMMITTED.ext EX1_h0) (g := (mkF m 21 #[iv (2 : Int32), rv b1, iv (5 : Int32), iv (1 : Int32), rv w_READ_UNCOMMITTED] [(.ref w_READ_UNCOMMITTED)])) rfl rfl (hb hby d1_21)
  refine own_pre (T' := T3) (f' := (mkF m 24 #[iv (2 : Int32), rv b1, iv (5 : Int32), iv (1 : Int32), rv w_READ_UNCOMMITTED] [(.int (1 : Int32))])) (fun t k => st3 t k) ?_
  refine own_pre (T' := T3) (f' := (mkF m 25 #[iv (2 : Int32), rv b1, iv (5 : Int32), iv (1 : Int32), rv w_READ_UNCOMMITTED] [(.int (2 : Int32)), (.int (1 : Int32))])) (fun t k => XS.iloadN X3.here hx rfl (hb hby d1_24) rfl k) ?_
  refine own_pre (T' := T3) (f' := (mkF m 31 #[iv (2 : Int32), rv b1, iv (5 : Int32), iv (1 : Int32), rv w_READ_UNCOMMITTED] [])) (fun t k => XS.icmpYes X3.here hx rfl (pc0 := 25) (pc' := 31) rfl (hb hby d1_25) rfl (feq (by decide : ¬ ((1 : Int32) = (2 : Int32)))).2 (by decide) (by decide) k) ?_
  refine own_pre (T' := T3) (f' := (mkF m 34 #[iv (2 : Int32), rv b1, iv (5 : Int32), iv ((1 : Int32) + (1 : Int32)), rv w_READ_UNCOMMITTED] [])) (fun t k => XS.iinc X3.here hx rfl (hb hby d1_31) rfl (l' := #[iv (2 : Int32), rv b1, iv (5 : Int32), iv ((1 : Int32) + (1 : Int32)), rv w_READ_UNCOMMITTED]) rfl k) ?_
  rw [show ((1 : Int32) + (1 : Int32)) = (2 : Int32) from by decide]
  refine own_pre (T' := T3) (f' := (mkF m 9 #[iv (2 : Int32), rv b1, iv (5 : Int32), iv (2 : Int32), rv w_READ_UNCOMMITTED] [])) (fun t k => XS.goto X3.here hx rfl (pc0 := 34) (pc' := 9) rfl (hb hby d1_34) (by decide) (by decide) k) ?_
  refine own_pre (T' := T3) (f' := (mkF m 10 #[iv (2 : Int32), rv b1, iv (5 : Int32), iv (2 : Int32), rv w_READ_UNCOMMITTED] [(.int (2 : Int32))])) (fun t k => XS.iloadN X3.here hx rfl (hb hby d1_9) rfl k) ?_
  refine own_pre (T' := T3) (f' := (mkF m 11 #[iv (2 : Int32), rv b1, iv (5 : Int32), iv (2 : Int32), rv w_READ_UNCOMMITTED] [(.int (5 : Int32)), (.int (2 : Int32))])) (fun t k => XS.iloadN X3.here hx rfl (hb hby d1_10) rfl k) ?_
  refine own_pre (T' := T3) (f' := (mkF m 14 #[iv (2 : Int32), rv b1, iv (5 : Int32), iv (2 : Int32), rv w_READ_UNCOMMITTED] [])) (fun t k => XS.icmpNo X3.here hx rfl (hb hby d1_11) rfl (tlt (by decide : (2 : Int32) < (5 : Int32))).2.1 k) ?_
  refine own_pre (T' := T3) (f' := (mkF m 15 #[iv (2 : Int32), rv b1, iv (5 : Int32), iv (2 : Int32), rv w_READ_UNCOMMITTED] [(.ref b1)])) (fun t k => XS.aloadN X3.here hx rfl (hb hby d1_14) rfl rfl k) ?_
  refine own_pre (T' := T3) (f' := (mkF m 16 #[iv (2 : Int32), rv b1, iv (5 : Int32), iv (2 : Int32), rv w_READ_UNCOMMITTED] [(.int (2 : Int32)), (.ref b1)])) (fun t k => XS.iloadN X3.here hx rfl (hb hby d1_15) rfl k) ?_
  refine own_pre (T' := T3) (f' := (mkF m 17 #[iv (2 : Int32), rv b1, iv (5 : Int32), iv (2 : Int32), rv w_READ_UNCOMMITTED] [(.ref w_READ_COMMITTED)])) (fun t k => own_ldR X3 hx hZ e3 A1 rfl (by decide) rfl (g := (mkF m 16 #[iv (2 : Int32), rv b1, iv (5 : Int32), iv (2 : Int32), rv w_READ_UNCOMMITTED] [(.int (2 : Int32)), (.ref b1)])) rfl rfl (hb hby d1_16) t k) ?_
  refine own_pre (T' := T3) (f' := (mkF m 19 #[iv (2 : Int32), rv b1, iv (5 : Int32), iv (2 : Int32), rv w_READ_COMMITTED] [])) (fun t k => XS.astore X3.here hx rfl (hb hby d1_17) rfl rfl (l' := #[iv (2 : Int32), rv b1, iv (5 : Int32), iv (2 : Int32), rv w_READ_COMMITTED]) rfl k) ?_
  refine own_pre (T' := T3) (f' := (mkF m 21 #[iv (2 : Int32), rv b1, iv (5 : Int32), iv (2 : Int32), rv w_READ_COMMITTED] [(.ref w_READ_COMMITTED)])) (fun t k => XS.aload X3.here hx rfl (hb hby d1_19) rfl rfl k) ?_
  obtain ⟨T4, X4, e4, st4⟩ := getF X3 hx hZ hown (host := "") (Or.inl (hw _ (List.mem_of_getElem? (i := 26) rfl))) Via.refl e3 (F_code_READ_COMMITTED.ext EX1_h0) (g := (mkF m 21 #[iv (2 : Int32), rv b1, iv (5 : Int32), iv (2 : Int32), rv w_READ_COMMITTED] [(.ref w_READ_COMMITTED)])) rfl rfl (hb hby d1_21)
  refine own_pre (T' := T4) (f' := (mkF m 24 #[iv (2 : Int32), rv b1, iv (5 : Int32), iv (2 : Int32), rv w_READ_COMMITTED] [(.int (2 : Int32))])) (fun t k => st4 t k) ?_
  refine own_pre (T' := T4) (f' := (mkF m 25 #[iv (2 : Int32), rv b1, iv (5 : Int32), iv (2 : Int32), rv w_READ_COMMITTED] [(.int (2 : Int32)), (.int (2 : Int32))])) (fun t k => XS.iloadN X4.here hx rfl (hb hby d1_24) rfl k) ?_
  refine own_pre (T' := T4) (f' := (mkF m 28 #[iv (2 : Int32), rv b1, iv (5 : Int32), iv (2 : Int32), rv w_READ_COMMITTED] [])) (fun t k => XS.icmpNo X4.here hx rfl (hb hby d1_25) rfl (teq (by decide : (2 : Int32) = (2 : Int32))).2 k) ?_
  refine own_pre (T' := T4) (f' := (mkF m 30 #[iv (2 : Int32), rv b1, iv (5 : Int32), iv (2 : Int32), rv w_READ_COMMITTED] [(.ref w_READ_COMMITTED)])) (fun t k => XS.aload X4.here hx rfl (hb hby d1_28) rfl rfl k) ?_
  exact own_retR X4 hx hlk hret (hb hby d1_30) rfl rfl rfl (by rw [e4]; exact ⟨rfl, EX1_h0, trivial, rfl⟩) (by decide) (by decide)
set_option maxRecDepth 65536 in
set_option maxHeartbeats 40000000 in
theorem own_fc_4 (l : Launch) (Z : State) (a0 : Array Value) (hw : ∀ d ∈ tables_1, d.before a0 Z = true) (ws : List Jvm.Cond) (w_DEFAULT w__VALUES w_READ_UNCOMMITTED w_READ_COMMITTED w_REPEATABLE_READ w_SERIALIZABLE : Addr) (k__VALUES : ClassId) (h0 : Heap) (F : own_F Z h0 w_DEFAULT w__VALUES w_READ_UNCOMMITTED w_READ_COMMITTED w_REPEATABLE_READ w_SERIALIZABLE k__VALUES)  :
    own_C l (⟨"com/example/uniform_transactions/uniformtransactions/Isolation", "fromCode", "(I)Lcom/example/uniform_transactions/uniformtransactions/Isolation;"⟩ : MethodName) prog_8_method_5_code 5 (some (.object "com/example/uniform_transactions/uniformtransactions/Isolation")) ws (own_RC 2 1 5 25) #[(.int (4 : Int32))] Z h0 (own_QA (some (.ref w_REPEATABLE_READ)) h0 (fun _ => True)) := by
  have F0 := F
  obtain ⟨S_DEFAULT, E_DEFAULT, S__VALUES, E__VALUES, S_READ_UNCOMMITTED, E_READ_UNCOMMITTED, S_READ_COMMITTED, E_READ_COMMITTED, S_REPEATABLE_READ, E_REPEATABLE_READ, S_SERIALIZABLE, E_SERIALIZABLE, F_code_DEFAULT, F_code_READ_UNCOMMITTED, F_code_READ_COMMITTED, F_code_REPEATABLE_READ, F_code_SERIALIZABLE, V__VALUES⟩ := F
  refine own_enter (LS := #[iv (4 : Int32), .unset, .unset, .unset, .unset]) (plainFor_of_name (by first | (simp [plainName, overriddenIn, x]; done) | decide +kernel)) (fun m => by first | (simp [entryFrame, mkF, argsToLocals, Value.category, maxLocals]; done) | rfl) ?_
  intro p e s m below meth c s₁ hx hby hml hown0 hnm hret hlk hZ X0 e0 hsh
  have hown : s.vm.findClass "com/example/uniform_transactions/uniformtransactions/Isolation" = some m.cls := hown0
  obtain ⟨T1, h1, X1, e1, E1, A1, st1⟩ := own_grow (R' := own_RC 1 1 5 14) (v := some (.ref h0.size)) (own_callS X0 hx hZ e0 (y := (⟨"com/example/uniform_transactions/uniformtransactions/Isolation", "values", "()[Lcom/example/uniform_transactions/uniformtransactions/Isolation;"⟩ : MethodName)) hown (hw _ (List.mem_of_getElem? (i := 7) rfl)) (hw _ (List.mem_of_getElem? (i := 8) rfl)) (hw _ (List.mem_of_getElem? (i := 9) rfl)) (hw _ (List.mem_of_getElem? (i := 2) rfl)) (by decide) 0 [] [] (own_values l Z a0 hw [] w_DEFAULT w__VALUES w_READ_UNCOMMITTED w_READ_COMMITTED w_REPEATABLE_READ w_SERIALIZABLE k__VALUES h0 F0) (by decide) (by decide) (by decide) (by decide) (g := (mkF m 0 #[iv (4 : Int32), .unset, .unset, .unset, .unset] [])) rfl (by rw [hml]; rfl) (lenOf pd_0 rfl) rfl (by show 2 * 0 + _ ≤ _; exact Nat.le_of_eq rfl) (hb hby d1_0))
  obtain ⟨b1, g1⟩ : ∃ z, z = h0.size := ⟨_, rfl⟩
  rw [← g1] at A1 st1
  have EX1_h0 : Ext h0 h1 := E1
  refine own_pre (T' := T1) (f' := (mkF m 3 #[iv (4 : Int32), .unset, .unset, .unset, .unset] [(.ref b1)])) (fun t k => st1 t k) ?_
  refine own_pre (T' := T1) (f' := (mkF m 4 #[iv (4 : Int32), rv b1, .unset, .unset, .unset] [])) (fun t k => XS.astoreN X1.here hx rfl (hb hby d1_3) rfl rfl (l' := #[iv (4 : Int32), rv b1, .unset, .unset, .unset]) rfl k) ?_
  refine own_pre (T' := T1) (f' := (mkF m 5 #[iv (4 : Int32), rv b1, .unset, .unset, .unset] [(.ref b1)])) (fun t k => XS.aloadN X1.here hx rfl (hb hby d1_4) rfl rfl k) ?_
  refine own_pre (T' := T1) (f' := (mkF m 6 #[iv (4 : Int32), rv b1, .unset, .unset, .unset] [(.int (5 : Int32))])) (fun t k => own_len X1 hx hZ e1 A1 (g := (mkF m 5 #[iv (4 : Int32), rv b1, .unset, .unset, .unset] [(.ref b1)])) rfl rfl (hb hby d1_5) t k) ?_
  refine own_pre (T' := T1) (f' := (mkF m 7 #[iv (4 : Int32), rv b1, iv (5 : Int32), .unset, .unset] [])) (fun t k => XS.istoreN X1.here hx rfl (hb hby d1_6) rfl (l' := #[iv (4 : Int32), rv b1, iv (5 : Int32), .unset, .unset]) rfl k) ?_
  refine own_pre (T' := T1) (f' := (mkF m 8 #[iv (4 : Int32), rv b1, iv (5 : Int32), .unset, .unset] [(.int (0 : Int32))])) (fun t k => XS.iconst X1.here hx rfl (hb hby d1_7) k) ?_
  refine own_pre (T' := T1) (f' := (mkF m 9 #[iv (4 : Int32), rv b1, iv (5 : Int32), iv (0 : Int32), .unset] [])) (fun t k => XS.istoreN X1.here hx rfl (hb hby d1_8) rfl (l' := #[iv (4 : Int32), rv b1, iv (5 : Int32), iv (0 : Int32), .unset]) rfl k) ?_
  refine own_pre (T' := T1) (f' := (mkF m 10 #[iv (4 : Int32), rv b1, iv (5 : Int32), iv (0 : Int32), .unset] [(.int (0 : Int32))])) (fun t k => XS.iloadN X1.here hx rfl (hb hby d1_9) rfl k) ?_
  refine own_pre (T' := T1) (f' := (mkF m 11 #[iv (4 : Int32), rv b1, iv (5 : Int32), iv (0 : Int32), .unset] [(.int (5 : Int32)), (.int (0 : Int32))])) (fun t k => XS.iloadN X1.here hx rfl (hb hby d1_10) rfl k) ?_
  refine own_pre (T' := T1) (f' := (mkF m 14 #[iv (4 : Int32), rv b1, iv (5 : Int32), iv (0 : Int32), .unset] [])) (fun t k => XS.icmpNo X1.here hx rfl (hb hby d1_11) rfl (tlt (by decide : (0 : Int32) < (5 : Int32))).2.1 k) ?_
  refine own_pre (T' := T1) (f' := (mkF m 15 #[iv (4 : Int32), rv b1, iv (5 : Int32), iv (0 : Int32), .unset] [(.ref b1)])) (fun t k => XS.aloadN X1.here hx rfl (hb hby d1_14) rfl rfl k) ?_
  refine own_pre (T' := T1) (f' := (mkF m 16 #[iv (4 : Int32), rv b1, iv (5 : Int32), iv (0 : Int32), .unset] [(.int (0 : Int32)), (.ref b1)])) (fun t k => XS.iloadN X1.here hx rfl (hb hby d1_15) rfl k) ?_
  refine own_pre (T' := T1) (f' := (mkF m 17 #[iv (4 : Int32), rv b1, iv (5 : Int32), iv (0 : Int32), .unset] [(.ref w_DEFAULT)])) (fun t k => own_ldR X1 hx hZ e1 A1 rfl (by decide) rfl (g := (mkF m 16 #[iv (4 : Int32), rv b1, iv (5 : Int32), iv (0 : Int32), .unset] [(.int (0 : Int32)), (.ref b1)])) rfl rfl (hb hby d1_16) t k) ?_
  refine own_pre (T' := T1) (f' := (mkF m 19 #[iv (4 : Int32), rv b1, iv (5 : Int32), iv (0 : Int32), rv w_DEFAULT] [])) (fun t k => XS.astore X1.here hx rfl (hb hby d1_17) rfl rfl (l' := #[iv (4 : Int32), rv b1, iv (5 : Int32), iv (0 : Int32), rv w_DEFAULT]) rfl k) ?_
  refine own_pre (T' := T1) (f' := (mkF m 21 #[iv (4 : Int32), rv b1, iv (5 : Int32), iv (0 : Int32), rv w_DEFAULT] [(.ref w_DEFAULT)])) (fun t k => XS.aload X1.here hx rfl (hb hby d1_19) rfl rfl k) ?_
  obtain ⟨T2, X2, e2, st2⟩ := getF X1 hx hZ hown (host := "") (Or.inl (hw _ (List.mem_of_getElem? (i := 26) rfl))) Via.refl e1 (F_code_DEFAULT.ext EX1_h0) (g := (mkF m 21 #[iv (4 : Int32), rv b1, iv (5 : Int32), iv (0 : Int32), rv w_DEFAULT] [(.ref w_DEFAULT)])) rfl rfl (hb hby d1_21)
  refine own_pre (T' := T2) (f' := (mkF m 24 #[iv (4 : Int32), rv b1, iv (5 : Int32), iv (0 : Int32), rv w_DEFAULT] [(.int (-1 : Int32))])) (fun t k => st2 t k) ?_
  refine own_pre (T' := T2) (f' := (mkF m 25 #[iv (4 : Int32), rv b1, iv (5 : Int32), iv (0 : Int32), rv w_DEFAULT] [(.int (4 : Int32)), (.int (-1 : Int32))])) (fun t k => XS.iloadN X2.here hx rfl (hb hby d1_24) rfl k) ?_
  refine own_pre (T' := T2) (f' := (mkF m 31 #[iv (4 : Int32), rv b1, iv (5 : Int32), iv (0 : Int32), rv w_DEFAULT] [])) (fun t k => XS.icmpYes X2.here hx rfl (pc0 := 25) (pc' := 31) rfl (hb hby d1_25) rfl (feq (by decide : ¬ ((-1 : Int32) = (4 : Int32)))).2 (by decide) (by decide) k) ?_
  refine own_pre (T' := T2) (f' := (mkF m 34 #[iv (4 : Int32), rv b1, iv (5 : Int32), iv ((0 : Int32) + (1 : Int32)), rv w_DEFAULT] [])) (fun t k => XS.iinc X2.here hx rfl (hb hby d1_31) rfl (l' := #[iv (4 : Int32), rv b1, iv (5 : Int32), iv ((0 : Int32) + (1 : Int32)), rv w_DEFAULT]) rfl k) ?_
  rw [show ((0 : Int32) + (1 : Int32)) = (1 : Int32) from by decide]
  refine own_pre (T' := T2) (f' := (mkF m 9 #[iv (4 : Int32), rv b1, iv (5 : Int32), iv (1 : Int32), rv w_DEFAULT] [])) (fun t k => XS.goto X2.here hx rfl (pc0 := 34) (pc' := 9) rfl (hb hby d1_34) (by decide) (by decide) k) ?_
  refine own_pre (T' := T2) (f' := (mkF m 10 #[iv (4 : Int32), rv b1, iv (5 : Int32), iv (1 : Int32), rv w_DEFAULT] [(.int (1 : Int32))])) (fun t k => XS.iloadN X2.here hx rfl (hb hby d1_9) rfl k) ?_
  refine own_pre (T' := T2) (f' := (mkF m 11 #[iv (4 : Int32), rv b1, iv (5 : Int32), iv (1 : Int32), rv w_DEFAULT] [(.int (5 : Int32)), (.int (1 : Int32))])) (fun t k => XS.iloadN X2.here hx rfl (hb hby d1_10) rfl k) ?_
  refine own_pre (T' := T2) (f' := (mkF m 14 #[iv (4 : Int32), rv b1, iv (5 : Int32), iv (1 : Int32), rv w_DEFAULT] [])) (fun t k => XS.icmpNo X2.here hx rfl (hb hby d1_11) rfl (tlt (by decide : (1 : Int32) < (5 : Int32))).2.1 k) ?_
  refine own_pre (T' := T2) (f' := (mkF m 15 #[iv (4 : Int32), rv b1, iv (5 : Int32), iv (1 : Int32), rv w_DEFAULT] [(.ref b1)])) (fun t k => XS.aloadN X2.here hx rfl (hb hby d1_14) rfl rfl k) ?_
  refine own_pre (T' := T2) (f' := (mkF m 16 #[iv (4 : Int32), rv b1, iv (5 : Int32), iv (1 : Int32), rv w_DEFAULT] [(.int (1 : Int32)), (.ref b1)])) (fun t k => XS.iloadN X2.here hx rfl (hb hby d1_15) rfl k) ?_
  refine own_pre (T' := T2) (f' := (mkF m 17 #[iv (4 : Int32), rv b1, iv (5 : Int32), iv (1 : Int32), rv w_DEFAULT] [(.ref w_READ_UNCOMMITTED)])) (fun t k => own_ldR X2 hx hZ e2 A1 rfl (by decide) rfl (g := (mkF m 16 #[iv (4 : Int32), rv b1, iv (5 : Int32), iv (1 : Int32), rv w_DEFAULT] [(.int (1 : Int32)), (.ref b1)])) rfl rfl (hb hby d1_16) t k) ?_
  refine own_pre (T' := T2) (f' := (mkF m 19 #[iv (4 : Int32), rv b1, iv (5 : Int32), iv (1 : Int32), rv w_READ_UNCOMMITTED] [])) (fun t k => XS.astore X2.here hx rfl (hb hby d1_17) rfl rfl (l' := #[iv (4 : Int32), rv b1, iv (5 : Int32), iv (1 : Int32), rv w_READ_UNCOMMITTED]) rfl k) ?_
  refine own_pre (T' := T2) (f' := (mkF m 21 #[iv (4 : Int32), rv b1, iv (5 : Int32), iv (1 : Int32), rv w_READ_UNCOMMITTED] [(.ref w_READ_UNCOMMITTED)])) (fun t k => XS.aload X2.here hx rfl (hb hby d1_19) rfl rfl k) ?_
  obtain ⟨T3, X3, e3, st3⟩ := getF X2 hx hZ hown (host := "") (Or.inl (hw _ (List.mem_of_getElem? (i := 26) rfl))) Via.refl e2 (F_code_READ_UNCOMMITTED.ext EX1_h0) (g := (mkF m 21 #[iv (4 : Int32), rv b1, iv (5 : Int32), iv (1 : Int32), rv w_READ_UNCOMMITTED] [(.ref w_READ_UNCOMMITTED)])) rfl rfl (hb hby d1_21)
  refine own_pre (T' := T3) (f' := (mkF m 24 #[iv (4 : Int32), rv b1, iv (5 : Int32), iv (1 : Int32), rv w_READ_UNCOMMITTED] [(.int (1 : Int32))])) (fun t k => st3 t k) ?_
  refine own_pre (T' := T3) (f' := (mkF m 25 #[iv (4 : Int32), rv b1, iv (5 : Int32), iv (1 : Int32), rv w_READ_UNCOMMITTED] [(.int (4 : Int32)), (.int (1 : Int32))])) (fun t k => XS.iloadN X3.here hx rfl (hb hby d1_24) rfl k) ?_
  refine own_pre (T' := T3) (f' := (mkF m 31 #[iv (4 : Int32), rv b1, iv (5 : Int32), iv (1 : Int32), rv w_READ_UNCOMMITTED] [])) (fun t k => XS.icmpYes X3.here hx rfl (pc0 := 25) (pc' := 31) rfl (hb hby d1_25) rfl (feq (by decide : ¬ ((1 : Int32) = (4 : Int32)))).2 (by decide) (by decide) k) ?_
  refine own_pre (T' := T3) (f' := (mkF m 34 #[iv (4 : Int32), rv b1, iv (5 : Int32), iv ((1 : Int32) + (1 : Int32)), rv w_READ_UNCOMMITTED] [])) (fun t k => XS.iinc X3.here hx rfl (hb hby d1_31) rfl (l' := #[iv (4 : Int32), rv b1, iv (5 : Int32), iv ((1 : Int32) + (1 : Int32)), rv w_READ_UNCOMMITTED]) rfl k) ?_
  rw [show ((1 : Int32) + (1 : Int32)) = (2 : Int32) from by decide]
  refine own_pre (T' := T3) (f' := (mkF m 9 #[iv (4 : Int32), rv b1, iv (5 : Int32), iv (2 : Int32), rv w_READ_UNCOMMITTED] [])) (fun t k => XS.goto X3.here hx rfl (pc0 := 34) (pc' := 9) rfl (hb hby d1_34) (by decide) (by decide) k) ?_
  refine own_pre (T' := T3) (f' := (mkF m 10 #[iv (4 : Int32), rv b1, iv (5 : Int32), iv (2 : Int32), rv w_READ_UNCOMMITTED] [(.int (2 : Int32))])) (fun t k => XS.iloadN X3.here hx rfl (hb hby d1_9) rfl k) ?_
  refine own_pre (T' := T3) (f' := (mkF m 11 #[iv (4 : Int32), rv b1, iv (5 : Int32), iv (2 : Int32), rv w_READ_UNCOMMITTED] [(.int (5 : Int32)), (.int (2 : Int32))])) (fun t k => XS.iloadN X3.here hx rfl (hb hby d1_10) rfl k) ?_
  refine own_pre (T' := T3) (f' := (mkF m 14 #[iv (4 : Int32), rv b1, iv (5 : Int32), iv (2 : Int32), rv w_READ_UNCOMMITTED] [])) (fun t k => XS.icmpNo X3.here hx rfl (hb hby d1_11) rfl (tlt (by decide : (2 : Int32) < (5 : Int32))).2.1 k) ?_
  refine own_pre (T' := T3) (f' := (mkF m 15 #[iv (4 : Int32), rv b1, iv (5 : Int32), iv (2 : Int32), rv w_READ_UNCOMMITTED] [(.ref b1)])) (fun t k => XS.aloadN X3.here hx rfl (hb hby d1_14) rfl rfl k) ?_
  refine own_pre (T' := T3) (f' := (mkF m 16 #[iv (4 : Int32), rv b1, iv (5 : Int32), iv (2 : Int32), rv w_READ_UNCOMMITTED] [(.int (2 : Int32)), (.ref b1)])) (fun t k => XS.iloadN X3.here hx rfl (hb hby d1_15) rfl k) ?_
  refine own_pre (T' := T3) (f' := (mkF m 17 #[iv (4 : Int32), rv b1, iv (5 : Int32), iv (2 : Int32), rv w_READ_UNCOMMITTED] [(.ref w_READ_COMMITTED)])) (fun t k => own_ldR X3 hx hZ e3 A1 rfl (by decide) rfl (g := (mkF m 16 #[iv (4 : Int32), rv b1, iv (5 : Int32), iv (2 : Int32), rv w_READ_UNCOMMITTED] [(.int (2 : Int32)), (.ref b1)])) rfl rfl (hb hby d1_16) t k) ?_
  refine own_pre (T' := T3) (f' := (mkF m 19 #[iv (4 : Int32), rv b1, iv (5 : Int32), iv (2 : Int32), rv w_READ_COMMITTED] [])) (fun t k => XS.astore X3.here hx rfl (hb hby d1_17) rfl rfl (l' := #[iv (4 : Int32), rv b1, iv (5 : Int32), iv (2 : Int32), rv w_READ_COMMITTED]) rfl k) ?_
  refine own_pre (T' := T3) (f' := (mkF m 21 #[iv (4 : Int32), rv b1, iv (5 : Int32), iv (2 : Int32), rv w_READ_COMMITTED] [(.ref w_READ_COMMITTED)])) (fun t k => XS.aload X3.here hx rfl (hb hby d1_19) rfl rfl k) ?_
  obtain ⟨T4, X4, e4, st4⟩ := getF X3 hx hZ hown (host := "") (Or.inl (hw _ (List.mem_of_getElem? (i := 26) rfl))) Via.refl e3 (F_code_READ_COMMITTED.ext EX1_h0) (g := (mkF m 21 #[iv (4 : Int32), rv b1, iv (5 : Int32), iv (2 : Int32), rv w_READ_COMMITTED] [(.ref w_READ_COMMITTED)])) rfl rfl (hb hby d1_21)
  refine own_pre (T' := T4) (f' := (mkF m 24 #[iv (4 : Int32), rv b1, iv (5 : Int32), iv (2 : Int32), rv w_READ_COMMITTED] [(.int (2 : Int32))])) (fun t k => st4 t k) ?_
  refine own_pre (T' := T4) (f' := (mkF m 25 #[iv (4 : Int32), rv b1, iv (5 : Int32), iv (2 : Int32), rv w_READ_COMMITTED] [(.int (4 : Int32)), (.int (2 : Int32))])) (fun t k => XS.iloadN X4.here hx rfl (hb hby d1_24) rfl k) ?_
  refine own_pre (T' := T4) (f' := (mkF m 31 #[iv (4 : Int32), rv b1, iv (5 : Int32), iv (2 : Int32), rv w_READ_COMMITTED] [])) (fun t k => XS.icmpYes X4.here hx rfl (pc0 := 25) (pc' := 31) rfl (hb hby d1_25) rfl (feq (by decide : ¬ ((2 : Int32) = (4 : Int32)))).2 (by decide) (by decide) k) ?_
  refine own_pre (T' := T4) (f' := (mkF m 34 #[iv (4 : Int32), rv b1, iv (5 : Int32), iv ((2 : Int32) + (1 : Int32)), rv w_READ_COMMITTED] [])) (fun t k => XS.iinc X4.here hx rfl (hb hby d1_31) rfl (l' := #[iv (4 : Int32), rv b1, iv (5 : Int32), iv ((2 : Int32) + (1 : Int32)), rv w_READ_COMMITTED]) rfl k) ?_
  rw [show ((2 : Int32) + (1 : Int32)) = (3 : Int32) from by decide]
  refine own_pre (T' := T4) (f' := (mkF m 9 #[iv (4 : Int32), rv b1, iv (5 : Int32), iv (3 : Int32), rv w_READ_COMMITTED] [])) (fun t k => XS.goto X4.here hx rfl (pc0 := 34) (pc' := 9) rfl (hb hby d1_34) (by decide) (by decide) k) ?_
  refine own_pre (T' := T4) (f' := (mkF m 10 #[iv (4 : Int32), rv b1, iv (5 : Int32), iv (3 : Int32), rv w_READ_COMMITTED] [(.int (3 : Int32))])) (fun t k => XS.iloadN X4.here hx rfl (hb hby d1_9) rfl k) ?_
  refine own_pre (T' := T4) (f' := (mkF m 11 #[iv (4 : Int32), rv b1, iv (5 : Int32), iv (3 : Int32), rv w_READ_COMMITTED] [(.int (5 : Int32)), (.int (3 : Int32))])) (fun t k => XS.iloadN X4.here hx rfl (hb hby d1_10) rfl k) ?_
  refine own_pre (T' := T4) (f' := (mkF m 14 #[iv (4 : Int32), rv b1, iv (5 : Int32), iv (3 : Int32), rv w_READ_COMMITTED] [])) (fun t k => XS.icmpNo X4.here hx rfl (hb hby d1_11) rfl (tlt (by decide : (3 : Int32) < (5 : Int32))).2.1 k) ?_
  refine own_pre (T' := T4) (f' := (mkF m 15 #[iv (4 : Int32), rv b1, iv (5 : Int32), iv (3 : Int32), rv w_READ_COMMITTED] [(.ref b1)])) (fun t k => XS.aloadN X4.here hx rfl (hb hby d1_14) rfl rfl k) ?_
  refine own_pre (T' := T4) (f' := (mkF m 16 #[iv (4 : Int32), rv b1, iv (5 : Int32), iv (3 : Int32), rv w_READ_COMMITTED] [(.int (3 : Int32)), (.ref b1)])) (fun t k => XS.iloadN X4.here hx rfl (hb hby d1_15) rfl k) ?_
  refine own_pre (T' := T4) (f' := (mkF m 17 #[iv (4 : Int32), rv b1, iv (5 : Int32), iv (3 : Int32), rv w_READ_COMMITTED] [(.ref w_REPEATABLE_READ)])) (fun t k => own_ldR X4 hx hZ e4 A1 rfl (by decide) rfl (g := (mkF m 16 #[iv (4 : Int32), rv b1, iv (5 : Int32), iv (3 : Int32), rv w_READ_COMMITTED] [(.int (3 : Int32)), (.ref b1)])) rfl rfl (hb hby d1_16) t k) ?_
  refine own_pre (T' := T4) (f' := (mkF m 19 #[iv (4 : Int32), rv b1, iv (5 : Int32), iv (3 : Int32), rv w_REPEATABLE_READ] [])) (fun t k => XS.astore X4.here hx rfl (hb hby d1_17) rfl rfl (l' := #[iv (4 : Int32), rv b1, iv (5 : Int32), iv (3 : Int32), rv w_REPEATABLE_READ]) rfl k) ?_
  refine own_pre (T' := T4) (f' := (mkF m 21 #[iv (4 : Int32), rv b1, iv (5 : Int32), iv (3 : Int32), rv w_REPEATABLE_READ] [(.ref w_REPEATABLE_READ)])) (fun t k => XS.aload X4.here hx rfl (hb hby d1_19) rfl rfl k) ?_
  obtain ⟨T5, X5, e5, st5⟩ := getF X4 hx hZ hown (host := "") (Or.inl (hw _ (List.mem_of_getElem? (i := 26) rfl))) Via.refl e4 (F_code_REPEATABLE_READ.ext EX1_h0) (g := (mkF m 21 #[iv (4 : Int32), rv b1, iv (5 : Int32), iv (3 : Int32), rv w_REPEATABLE_READ] [(.ref w_REPEATABLE_READ)])) rfl rfl (hb hby d1_21)
  refine own_pre (T' := T5) (f' := (mkF m 24 #[iv (4 : Int32), rv b1, iv (5 : Int32), iv (3 : Int32), rv w_REPEATABLE_READ] [(.int (4 : Int32))])) (fun t k => st5 t k) ?_
  refine own_pre (T' := T5) (f' := (mkF m 25 #[iv (4 : Int32), rv b1, iv (5 : Int32), iv (3 : Int32), rv w_REPEATABLE_READ] [(.int (4 : Int32)), (.int (4 : Int32))])) (fun t k => XS.iloadN X5.here hx rfl (hb hby d1_24) rfl k) ?_
  refine own_pre (T' := T5) (f' := (mkF m 28 #[iv (4 : Int32), rv b1, iv (5 : Int32), iv (3 : Int32), rv w_REPEATABLE_READ] [])) (fun t k => XS.icmpNo X5.here hx rfl (hb hby d1_25) rfl (teq (by decide : (4 : Int32) = (4 : Int32))).2 k) ?_
  refine own_pre (T' := T5) (f' := (mkF m 30 #[iv (4 : Int32), rv b1, iv (5 : Int32), iv (3 : Int32), rv w_REPEATABLE_READ] [(.ref w_REPEATABLE_READ)])) (fun t k => XS.aload X5.here hx rfl (hb hby d1_28) rfl rfl k) ?_
  exact own_retR X5 hx hlk hret (hb hby d1_30) rfl rfl rfl (by rw [e5]; exact ⟨rfl, EX1_h0, trivial, rfl⟩) (by decide) (by decide)
set_option maxRecDepth 65536 in
set_option maxHeartbeats 40000000 in
theorem own_fc_8 (l : Launch) (Z : State) (a0 : Array Value) (hw : ∀ d ∈ tables_1, d.before a0 Z = true) (ws : List Jvm.Cond) (w_DEFAULT w__VALUES w_READ_UNCOMMITTED w_READ_COMMITTED w_REPEATABLE_READ w_SERIALIZABLE : Addr) (k__VALUES : ClassId) (h0 : Heap) (F : own_F Z h0 w_DEFAULT w__VALUES w_READ_UNCOMMITTED w_READ_COMMITTED w_REPEATABLE_READ w_SERIALIZABLE k__VALUES)  :
    own_C l (⟨"com/example/uniform_transactions/uniformtransactions/Isolation", "fromCode", "(I)Lcom/example/uniform_transactions/uniformtransactions/Isolation;"⟩ : MethodName) prog_8_method_5_code 5 (some (.object "com/example/uniform_transactions/uniformtransactions/Isolation")) ws (own_RC 2 1 5 25) #[(.int (8 : Int32))] Z h0 (own_QA (some (.ref w_SERIALIZABLE)) h0 (fun _ => True)) := by
  have F0 := F
  obtain ⟨S_DEFAULT, E_DEFAULT, S__VALUES, E__VALUES, S_READ_UNCOMMITTED, E_READ_UNCOMMITTED, S_READ_COMMITTED, E_READ_COMMITTED, S_REPEATABLE_READ, E_REPEATABLE_READ, S_SERIALIZABLE, E_SERIALIZABLE, F_code_DEFAULT, F_code_READ_UNCOMMITTED, F_code_READ_COMMITTED, F_code_REPEATABLE_READ, F_code_SERIALIZABLE, V__VALUES⟩ := F
  refine own_enter (LS := #[iv (8 : Int32), .unset, .unset, .unset, .unset]) (plainFor_of_name (by first | (simp [plainName, overriddenIn, x]; done) | decide +kernel)) (fun m => by first | (simp [entryFrame, mkF, argsToLocals, Value.category, maxLocals]; done) | rfl) ?_
  intro p e s m below meth c s₁ hx hby hml hown0 hnm hret hlk hZ X0 e0 hsh
  have hown : s.vm.findClass "com/example/uniform_transactions/uniformtransactions/Isolation" = some m.cls := hown0
  obtain ⟨T1, h1, X1, e1, E1, A1, st1⟩ := own_grow (R' := own_RC 1 1 5 14) (v := some (.ref h0.size)) (own_callS X0 hx hZ e0 (y := (⟨"com/example/uniform_transactions/uniformtransactions/Isolation", "values", "()[Lcom/example/uniform_transactions/uniformtransactions/Isolation;"⟩ : MethodName)) hown (hw _ (List.mem_of_getElem? (i := 7) rfl)) (hw _ (List.mem_of_getElem? (i := 8) rfl)) (hw _ (List.mem_of_getElem? (i := 9) rfl)) (hw _ (List.mem_of_getElem? (i := 2) rfl)) (by decide) 0 [] [] (own_values l Z a0 hw [] w_DEFAULT w__VALUES w_READ_UNCOMMITTED w_READ_COMMITTED w_REPEATABLE_READ w_SERIALIZABLE k__VALUES h0 F0) (by decide) (by decide) (by decide) (by decide) (g := (mkF m 0 #[iv (8 : Int32), .unset, .unset, .unset, .unset] [])) rfl (by rw [hml]; rfl) (lenOf pd_0 rfl) rfl (by show 2 * 0 + _ ≤ _; exact Nat.le_of_eq rfl) (hb hby d1_0))
  obtain ⟨b1, g1⟩ : ∃ z, z = h0.size := ⟨_, rfl⟩
  rw [← g1] at A1 st1
  have EX1_h0 : Ext h0 h1 := E1
  refine own_pre (T' := T1) (f' := (mkF m 3 #[iv (8 : Int32), .unset, .unset, .unset, .unset] [(.ref b1)])) (fun t k => st1 t k) ?_
  refine own_pre (T' := T1) (f' := (mkF m 4 #[iv (8 : Int32), rv b1, .unset, .unset, .unset] [])) (fun t k => XS.astoreN X1.here hx rfl (hb hby d1_3) rfl rfl (l' := #[iv (8 : Int32), rv b1, .unset, .unset, .unset]) rfl k) ?_
  refine own_pre (T' := T1) (f' := (mkF m 5 #[iv (8 : Int32), rv b1, .unset, .unset, .unset] [(.ref b1)])) (fun t k => XS.aloadN X1.here hx rfl (hb hby d1_4) rfl rfl k) ?_
  refine own_pre (T' := T1) (f' := (mkF m 6 #[iv (8 : Int32), rv b1, .unset, .unset, .unset] [(.int (5 : Int32))])) (fun t k => own_len X1 hx hZ e1 A1 (g := (mkF m 5 #[iv (8 : Int32), rv b1, .unset, .unset, .unset] [(.ref b1)])) rfl rfl (hb hby d1_5) t k) ?_
  refine own_pre (T' := T1) (f' := (mkF m 7 #[iv (8 : Int32), rv b1, iv (5 : Int32), .unset, .unset] [])) (fun t k => XS.istoreN X1.here hx rfl (hb hby d1_6) rfl (l' := #[iv (8 : Int32), rv b1, iv (5 : Int32), .unset, .unset]) rfl k) ?_
  refine own_pre (T' := T1) (f' := (mkF m 8 #[iv (8 : Int32), rv b1, iv (5 : Int32), .unset, .unset] [(.int (0 : Int32))])) (fun t k => XS.iconst X1.here hx rfl (hb hby d1_7) k) ?_
  refine own_pre (T' := T1) (f' := (mkF m 9 #[iv (8 : Int32), rv b1, iv (5 : Int32), iv (0 : Int32), .unset] [])) (fun t k => XS.istoreN X1.here hx rfl (hb hby d1_8) rfl (l' := #[iv (8 : Int32), rv b1, iv (5 : Int32), iv (0 : Int32), .unset]) rfl k) ?_
  refine own_pre (T' := T1) (f' := (mkF m 10 #[iv (8 : Int32), rv b1, iv (5 : Int32), iv (0 : Int32), .unset] [(.int (0 : Int32))])) (fun t k => XS.iloadN X1.here hx rfl (hb hby d1_9) rfl k) ?_
  refine own_pre (T' := T1) (f' := (mkF m 11 #[iv (8 : Int32), rv b1, iv (5 : Int32), iv (0 : Int32), .unset] [(.int (5 : Int32)), (.int (0 : Int32))])) (fun t k => XS.iloadN X1.here hx rfl (hb hby d1_10) rfl k) ?_
  refine own_pre (T' := T1) (f' := (mkF m 14 #[iv (8 : Int32), rv b1, iv (5 : Int32), iv (0 : Int32), .unset] [])) (fun t k => XS.icmpNo X1.here hx rfl (hb hby d1_11) rfl (tlt (by decide : (0 : Int32) < (5 : Int32))).2.1 k) ?_
  refine own_pre (T' := T1) (f' := (mkF m 15 #[iv (8 : Int32), rv b1, iv (5 : Int32), iv (0 : Int32), .unset] [(.ref b1)])) (fun t k => XS.aloadN X1.here hx rfl (hb hby d1_14) rfl rfl k) ?_
  refine own_pre (T' := T1) (f' := (mkF m 16 #[iv (8 : Int32), rv b1, iv (5 : Int32), iv (0 : Int32), .unset] [(.int (0 : Int32)), (.ref b1)])) (fun t k => XS.iloadN X1.here hx rfl (hb hby d1_15) rfl k) ?_
  refine own_pre (T' := T1) (f' := (mkF m 17 #[iv (8 : Int32), rv b1, iv (5 : Int32), iv (0 : Int32), .unset] [(.ref w_DEFAULT)])) (fun t k => own_ldR X1 hx hZ e1 A1 rfl (by decide) rfl (g := (mkF m 16 #[iv (8 : Int32), rv b1, iv (5 : Int32), iv (0 : Int32), .unset] [(.int (0 : Int32)), (.ref b1)])) rfl rfl (hb hby d1_16) t k) ?_
  refine own_pre (T' := T1) (f' := (mkF m 19 #[iv (8 : Int32), rv b1, iv (5 : Int32), iv (0 : Int32), rv w_DEFAULT] [])) (fun t k => XS.astore X1.here hx rfl (hb hby d1_17) rfl rfl (l' := #[iv (8 : Int32), rv b1, iv (5 : Int32), iv (0 : Int32), rv w_DEFAULT]) rfl k) ?_
  refine own_pre (T' := T1) (f' := (mkF m 21 #[iv (8 : Int32), rv b1, iv (5 : Int32), iv (0 : Int32), rv w_DEFAULT] [(.ref w_DEFAULT)])) (fun t k => XS.aload X1.here hx rfl (hb hby d1_19) rfl rfl k) ?_
  obtain ⟨T2, X2, e2, st2⟩ := getF X1 hx hZ hown (host := "") (Or.inl (hw _ (List.mem_of_getElem? (i := 26) rfl))) Via.refl e1 (F_code_DEFAULT.ext EX1_h0) (g := (mkF m 21 #[iv (8 : Int32), rv b1, iv (5 : Int32), iv (0 : Int32), rv w_DEFAULT] [(.ref w_DEFAULT)])) rfl rfl (hb hby d1_21)
  refine own_pre (T' := T2) (f' := (mkF m 24 #[iv (8 : Int32), rv b1, iv (5 : Int32), iv (0 : Int32), rv w_DEFAULT] [(.int (-1 : Int32))])) (fun t k => st2 t k) ?_
  refine own_pre (T' := T2) (f' := (mkF m 25 #[iv (8 : Int32), rv b1, iv (5 : Int32), iv (0 : Int32), rv w_DEFAULT] [(.int (8 : Int32)), (.int (-1 : Int32))])) (fun t k => XS.iloadN X2.here hx rfl (hb hby d1_24) rfl k) ?_
  refine own_pre (T' := T2) (f' := (mkF m 31 #[iv (8 : Int32), rv b1, iv (5 : Int32), iv (0 : Int32), rv w_DEFAULT] [])) (fun t k => XS.icmpYes X2.here hx rfl (pc0 := 25) (pc' := 31) rfl (hb hby d1_25) rfl (feq (by decide : ¬ ((-1 : Int32) = (8 : Int32)))).2 (by decide) (by decide) k) ?_
  refine own_pre (T' := T2) (f' := (mkF m 34 #[iv (8 : Int32), rv b1, iv (5 : Int32), iv ((0 : Int32) + (1 : Int32)), rv w_DEFAULT] [])) (fun t k => XS.iinc X2.here hx rfl (hb hby d1_31) rfl (l' := #[iv (8 : Int32), rv b1, iv (5 : Int32), iv ((0 : Int32) + (1 : Int32)), rv w_DEFAULT]) rfl k) ?_
  rw [show ((0 : Int32) + (1 : Int32)) = (1 : Int32) from by decide]
  refine own_pre (T' := T2) (f' := (mkF m 9 #[iv (8 : Int32), rv b1, iv (5 : Int32), iv (1 : Int32), rv w_DEFAULT] [])) (fun t k => XS.goto X2.here hx rfl (pc0 := 34) (pc' := 9) rfl (hb hby d1_34) (by decide) (by decide) k) ?_
  refine own_pre (T' := T2) (f' := (mkF m 10 #[iv (8 : Int32), rv b1, iv (5 : Int32), iv (1 : Int32), rv w_DEFAULT] [(.int (1 : Int32))])) (fun t k => XS.iloadN X2.here hx rfl (hb hby d1_9) rfl k) ?_
  refine own_pre (T' := T2) (f' := (mkF m 11 #[iv (8 : Int32), rv b1, iv (5 : Int32), iv (1 : Int32), rv w_DEFAULT] [(.int (5 : Int32)), (.int (1 : Int32))])) (fun t k => XS.iloadN X2.here hx rfl (hb hby d1_10) rfl k) ?_
  refine own_pre (T' := T2) (f' := (mkF m 14 #[iv (8 : Int32), rv b1, iv (5 : Int32), iv (1 : Int32), rv w_DEFAULT] [])) (fun t k => XS.icmpNo X2.here hx rfl (hb hby d1_11) rfl (tlt (by decide : (1 : Int32) < (5 : Int32))).2.1 k) ?_
  refine own_pre (T' := T2) (f' := (mkF m 15 #[iv (8 : Int32), rv b1, iv (5 : Int32), iv (1 : Int32), rv w_DEFAULT] [(.ref b1)])) (fun t k => XS.aloadN X2.here hx rfl (hb hby d1_14) rfl rfl k) ?_
  refine own_pre (T' := T2) (f' := (mkF m 16 #[iv (8 : Int32), rv b1, iv (5 : Int32), iv (1 : Int32), rv w_DEFAULT] [(.int (1 : Int32)), (.ref b1)])) (fun t k => XS.iloadN X2.here hx rfl (hb hby d1_15) rfl k) ?_
  refine own_pre (T' := T2) (f' := (mkF m 17 #[iv (8 : Int32), rv b1, iv (5 : Int32), iv (1 : Int32), rv w_DEFAULT] [(.ref w_READ_UNCOMMITTED)])) (fun t k => own_ldR X2 hx hZ e2 A1 rfl (by decide) rfl (g := (mkF m 16 #[iv (8 : Int32), rv b1, iv (5 : Int32), iv (1 : Int32), rv w_DEFAULT] [(.int (1 : Int32)), (.ref b1)])) rfl rfl (hb hby d1_16) t k) ?_
  refine own_pre (T' := T2) (f' := (mkF m 19 #[iv (8 : Int32), rv b1, iv (5 : Int32), iv (1 : Int32), rv w_READ_UNCOMMITTED] [])) (fun t k => XS.astore X2.here hx rfl (hb hby d1_17) rfl rfl (l' := #[iv (8 : Int32), rv b1, iv (5 : Int32), iv (1 : Int32), rv w_READ_UNCOMMITTED]) rfl k) ?_
  refine own_pre (T' := T2) (f' := (mkF m 21 #[iv (8 : Int32), rv b1, iv (5 : Int32), iv (1 : Int32), rv w_READ_UNCOMMITTED] [(.ref w_READ_UNCOMMITTED)])) (fun t k => XS.aload X2.here hx rfl (hb hby d1_19) rfl rfl k) ?_
  obtain ⟨T3, X3, e3, st3⟩ := getF X2 hx hZ hown (host := "") (Or.inl (hw _ (List.mem_of_getElem? (i := 26) rfl))) Via.refl e2 (F_code_READ_UNCOMMITTED.ext EX1_h0) (g := (mkF m 21 #[iv (8 : Int32), rv b1, iv (5 : Int32), iv (1 : Int32), rv w_READ_UNCOMMITTED] [(.ref w_READ_UNCOMMITTED)])) rfl rfl (hb hby d1_21)
  refine own_pre (T' := T3) (f' := (mkF m 24 #[iv (8 : Int32), rv b1, iv (5 : Int32), iv (1 : Int32), rv w_READ_UNCOMMITTED] [(.int (1 : Int32))])) (fun t k => st3 t k) ?_
  refine own_pre (T' := T3) (f' := (mkF m 25 #[iv (8 : Int32), rv b1, iv (5 : Int32), iv (1 : Int32), rv w_READ_UNCOMMITTED] [(.int (8 : Int32)), (.int (1 : Int32))])) (fun t k => XS.iloadN X3.here hx rfl (hb hby d1_24) rfl k) ?_
  refine own_pre (T' := T3) (f' := (mkF m 31 #[iv (8 : Int32), rv b1, iv (5 : Int32), iv (1 : Int32), rv w_READ_UNCOMMITTED] [])) (fun t k => XS.icmpYes X3.here hx rfl (pc0 := 25) (pc' := 31) rfl (hb hby d1_25) rfl (feq (by decide : ¬ ((1 : Int32) = (8 : Int32)))).2 (by decide) (by decide) k) ?_
  refine own_pre (T' := T3) (f' := (mkF m 34 #[iv (8 : Int32), rv b1, iv (5 : Int32), iv ((1 : Int32) + (1 : Int32)), rv w_READ_UNCOMMITTED] [])) (fun t k => XS.iinc X3.here hx rfl (hb hby d1_31) rfl (l' := #[iv (8 : Int32), rv b1, iv (5 : Int32), iv ((1 : Int32) + (1 : Int32)), rv w_READ_UNCOMMITTED]) rfl k) ?_
  rw [show ((1 : Int32) + (1 : Int32)) = (2 : Int32) from by decide]
  refine own_pre (T' := T3) (f' := (mkF m 9 #[iv (8 : Int32), rv b1, iv (5 : Int32), iv (2 : Int32), rv w_READ_UNCOMMITTED] [])) (fun t k => XS.goto X3.here hx rfl (pc0 := 34) (pc' := 9) rfl (hb hby d1_34) (by decide) (by decide) k) ?_
  refine own_pre (T' := T3) (f' := (mkF m 10 #[iv (8 : Int32), rv b1, iv (5 : Int32), iv (2 : Int32), rv w_READ_UNCOMMITTED] [(.int (2 : Int32))])) (fun t k => XS.iloadN X3.here hx rfl (hb hby d1_9) rfl k) ?_
  refine own_pre (T' := T3) (f' := (mkF m 11 #[iv (8 : Int32), rv b1, iv (5 : Int32), iv (2 : Int32), rv w_READ_UNCOMMITTED] [(.int (5 : Int32)), (.int (2 : Int32))])) (fun t k => XS.iloadN X3.here hx rfl (hb hby d1_10) rfl k) ?_
  refine own_pre (T' := T3) (f' := (mkF m 14 #[iv (8 : Int32), rv b1, iv (5 : Int32), iv (2 : Int32), rv w_READ_UNCOMMITTED] [])) (fun t k => XS.icmpNo X3.here hx rfl (hb hby d1_11) rfl (tlt (by decide : (2 : Int32) < (5 : Int32))).2.1 k) ?_
  refine own_pre (T' := T3) (f' := (mkF m 15 #[iv (8 : Int32), rv b1, iv (5 : Int32), iv (2 : Int32), rv w_READ_UNCOMMITTED] [(.ref b1)])) (fun t k => XS.aloadN X3.here hx rfl (hb hby d1_14) rfl rfl k) ?_
  refine own_pre (T' := T3) (f' := (mkF m 16 #[iv (8 : Int32), rv b1, iv (5 : Int32), iv (2 : Int32), rv w_READ_UNCOMMITTED] [(.int (2 : Int32)), (.ref b1)])) (fun t k => XS.iloadN X3.here hx rfl (hb hby d1_15) rfl k) ?_
  refine own_pre (T' := T3) (f' := (mkF m 17 #[iv (8 : Int32), rv b1, iv (5 : Int32), iv (2 : Int32), rv w_READ_UNCOMMITTED] [(.ref w_READ_COMMITTED)])) (fun t k => own_ldR X3 hx hZ e3 A1 rfl (by decide) rfl (g := (mkF m 16 #[iv (8 : Int32), rv b1, iv (5 : Int32), iv (2 : Int32), rv w_READ_UNCOMMITTED] [(.int (2 : Int32)), (.ref b1)])) rfl rfl (hb hby d1_16) t k) ?_
  refine own_pre (T' := T3) (f' := (mkF m 19 #[iv (8 : Int32), rv b1, iv (5 : Int32), iv (2 : Int32), rv w_READ_COMMITTED] [])) (fun t k => XS.astore X3.here hx rfl (hb hby d1_17) rfl rfl (l' := #[iv (8 : Int32), rv b1, iv (5 : Int32), iv (2 : Int32), rv w_READ_COMMITTED]) rfl k) ?_
  refine own_pre (T' := T3) (f' := (mkF m 21 #[iv (8 : Int32), rv b1, iv (5 : Int32), iv (2 : Int32), rv w_READ_COMMITTED] [(.ref w_READ_COMMITTED)])) (fun t k => XS.aload X3.here hx rfl (hb hby d1_19) rfl rfl k) ?_
  obtain ⟨T4, X4, e4, st4⟩ := getF X3 hx hZ hown (host := "") (Or.inl (hw _ (List.mem_of_getElem? (i := 26) rfl))) Via.refl e3 (F_code_READ_COMMITTED.ext EX1_h0) (g := (mkF m 21 #[iv (8 : Int32), rv b1, iv (5 : Int32), iv (2 : Int32), rv w_READ_COMMITTED] [(.ref w_READ_COMMITTED)])) rfl rfl (hb hby d1_21)
  refine own_pre (T' := T4) (f' := (mkF m 24 #[iv (8 : Int32), rv b1, iv (5 : Int32), iv (2 : Int32), rv w_READ_COMMITTED] [(.int (2 : Int32))])) (fun t k => st4 t k) ?_
  refine own_pre (T' := T4) (f' := (mkF m 25 #[iv (8 : Int32), rv b1, iv (5 : Int32), iv (2 : Int32), rv w_READ_COMMITTED] [(.int (8 : Int32)), (.int (2 : Int32))])) (fun t k => XS.iloadN X4.here hx rfl (hb hby d1_24) rfl k) ?_
  refine own_pre (T' := T4) (f' := (mkF m 31 #[iv (8 : Int32), rv b1, iv (5 : Int32), iv (2 : Int32), rv w_READ_COMMITTED] [])) (fun t k => XS.icmpYes X4.here hx rfl (pc0 := 25) (pc' := 31) rfl (hb hby d1_25) rfl (feq (by decide : ¬ ((2 : Int32) = (8 : Int32)))).2 (by decide) (by decide) k) ?_
  refine own_pre (T' := T4) (f' := (mkF m 34 #[iv (8 : Int32), rv b1, iv (5 : Int32), iv ((2 : Int32) + (1 : Int32)), rv w_READ_COMMITTED] [])) (fun t k => XS.iinc X4.here hx rfl (hb hby d1_31) rfl (l' := #[iv (8 : Int32), rv b1, iv (5 : Int32), iv ((2 : Int32) + (1 : Int32)), rv w_READ_COMMITTED]) rfl k) ?_
  rw [show ((2 : Int32) + (1 : Int32)) = (3 : Int32) from by decide]
  refine own_pre (T' := T4) (f' := (mkF m 9 #[iv (8 : Int32), rv b1, iv (5 : Int32), iv (3 : Int32), rv w_READ_COMMITTED] [])) (fun t k => XS.goto X4.here hx rfl (pc0 := 34) (pc' := 9) rfl (hb hby d1_34) (by decide) (by decide) k) ?_
  refine own_pre (T' := T4) (f' := (mkF m 10 #[iv (8 : Int32), rv b1, iv (5 : Int32), iv (3 : Int32), rv w_READ_COMMITTED] [(.int (3 : Int32))])) (fun t k => XS.iloadN X4.here hx rfl (hb hby d1_9) rfl k) ?_
  refine own_pre (T' := T4) (f' := (mkF m 11 #[iv (8 : Int32), rv b1, iv (5 : Int32), iv (3 : Int32), rv w_READ_COMMITTED] [(.int (5 : Int32)), (.int (3 : Int32))])) (fun t k => XS.iloadN X4.here hx rfl (hb hby d1_10) rfl k) ?_
  refine own_pre (T' := T4) (f' := (mkF m 14 #[iv (8 : Int32), rv b1, iv (5 : Int32), iv (3 : Int32), rv w_READ_COMMITTED] [])) (fun t k => XS.icmpNo X4.here hx rfl (hb hby d1_11) rfl (tlt (by decide : (3 : Int32) < (5 : Int32))).2.1 k) ?_
  refine own_pre (T' := T4) (f' := (mkF m 15 #[iv (8 : Int32), rv b1, iv (5 : Int32), iv (3 : Int32), rv w_READ_COMMITTED] [(.ref b1)])) (fun t k => XS.aloadN X4.here hx rfl (hb hby d1_14) rfl rfl k) ?_
  refine own_pre (T' := T4) (f' := (mkF m 16 #[iv (8 : Int32), rv b1, iv (5 : Int32), iv (3 : Int32), rv w_READ_COMMITTED] [(.int (3 : Int32)), (.ref b1)])) (fun t k => XS.iloadN X4.here hx rfl (hb hby d1_15) rfl k) ?_
  refine own_pre (T' := T4) (f' := (mkF m 17 #[iv (8 : Int32), rv b1, iv (5 : Int32), iv (3 : Int32), rv w_READ_COMMITTED] [(.ref w_REPEATABLE_READ)])) (fun t k => own_ldR X4 hx hZ e4 A1 rfl (by decide) rfl (g := (mkF m 16 #[iv (8 : Int32), rv b1, iv (5 : Int32), iv (3 : Int32), rv w_READ_COMMITTED] [(.int (3 : Int32)), (.ref b1)])) rfl rfl (hb hby d1_16) t k) ?_
  refine own_pre (T' := T4) (f' := (mkF m 19 #[iv (8 : Int32), rv b1, iv (5 : Int32), iv (3 : Int32), rv w_REPEATABLE_READ] [])) (fun t k => XS.astore X4.here hx rfl (hb hby d1_17) rfl rfl (l' := #[iv (8 : Int32), rv b1, iv (5 : Int32), iv (3 : Int32), rv w_REPEATABLE_READ]) rfl k) ?_
  refine own_pre (T' := T4) (f' := (mkF m 21 #[iv (8 : Int32), rv b1, iv (5 : Int32), iv (3 : Int32), rv w_REPEATABLE_READ] [(.ref w_REPEATABLE_READ)])) (fun t k => XS.aload X4.here hx rfl (hb hby d1_19) rfl rfl k) ?_
  obtain ⟨T5, X5, e5, st5⟩ := getF X4 hx hZ hown (host := "") (Or.inl (hw _ (List.mem_of_getElem? (i := 26) rfl))) Via.refl e4 (F_code_REPEATABLE_READ.ext EX1_h0) (g := (mkF m 21 #[iv (8 : Int32), rv b1, iv (5 : Int32), iv (3 : Int32), rv w_REPEATABLE_READ] [(.ref w_REPEATABLE_READ)])) rfl rfl (hb hby d1_21)
  refine own_pre (T' := T5) (f' := (mkF m 24 #[iv (8 : Int32), rv b1, iv (5 : Int32), iv (3 : Int32), rv w_REPEATABLE_READ] [(.int (4 : Int32))])) (fun t k => st5 t k) ?_
  refine own_pre (T' := T5) (f' := (mkF m 25 #[iv (8 : Int32), rv b1, iv (5 : Int32), iv (3 : Int32), rv w_REPEATABLE_READ] [(.int (8 : Int32)), (.int (4 : Int32))])) (fun t k => XS.iloadN X5.here hx rfl (hb hby d1_24) rfl k) ?_
  refine own_pre (T' := T5) (f' := (mkF m 31 #[iv (8 : Int32), rv b1, iv (5 : Int32), iv (3 : Int32), rv w_REPEATABLE_READ] [])) (fun t k => XS.icmpYes X5.here hx rfl (pc0 := 25) (pc' := 31) rfl (hb hby d1_25) rfl (feq (by decide : ¬ ((4 : Int32) = (8 : Int32)))).2 (by decide) (by decide) k) ?_
  refine own_pre (T' := T5) (f' := (mkF m 34 #[iv (8 : Int32), rv b1, iv (5 : Int32), iv ((3 : Int32) + (1 : Int32)), rv w_REPEATABLE_READ] [])) (fun t k => XS.iinc X5.here hx rfl (hb hby d1_31) rfl (l' := #[iv (8 : Int32), rv b1, iv (5 : Int32), iv ((3 : Int32) + (1 : Int32)), rv w_REPEATABLE_READ]) rfl k) ?_
  rw [show ((3 : Int32) + (1 : Int32)) = (4 : Int32) from by decide]
  refine own_pre (T' := T5) (f' := (mkF m 9 #[iv (8 : Int32), rv b1, iv (5 : Int32), iv (4 : Int32), rv w_REPEATABLE_READ] [])) (fun t k => XS.goto X5.here hx rfl (pc0 := 34) (pc' := 9) rfl (hb hby d1_34) (by decide) (by decide) k) ?_
  refine own_pre (T' := T5) (f' := (mkF m 10 #[iv (8 : Int32), rv b1, iv (5 : Int32), iv (4 : Int32), rv w_REPEATABLE_READ] [(.int (4 : Int32))])) (fun t k => XS.iloadN X5.here hx rfl (hb hby d1_9) rfl k) ?_
  refine own_pre (T' := T5) (f' := (mkF m 11 #[iv (8 : Int32), rv b1, iv (5 : Int32), iv (4 : Int32), rv w_REPEATABLE_READ] [(.int (5 : Int32)), (.int (4 : Int32))])) (fun t k => XS.iloadN X5.here hx rfl (hb hby d1_10) rfl k) ?_
  refine own_pre (T' := T5) (f' := (mkF m 14 #[iv (8 : Int32), rv b1, iv (5 : Int32), iv (4 : Int32), rv w_REPEATABLE_READ] [])) (fun t k => XS.icmpNo X5.here hx rfl (hb hby d1_11) rfl (tlt (by decide : (4 : Int32) < (5 : Int32))).2.1 k) ?_
  refine own_pre (T' := T5) (f' := (mkF m 15 #[iv (8 : Int32), rv b1, iv (5 : Int32), iv (4 : Int32), rv w_REPEATABLE_READ] [(.ref b1)])) (fun t k => XS.aloadN X5.here hx rfl (hb hby d1_14) rfl rfl k) ?_
  refine own_pre (T' := T5) (f' := (mkF m 16 #[iv (8 : Int32), rv b1, iv (5 : Int32), iv (4 : Int32), rv w_REPEATABLE_READ] [(.int (4 : Int32)), (.ref b1)])) (fun t k => XS.iloadN X5.here hx rfl (hb hby d1_15) rfl k) ?_
  refine own_pre (T' := T5) (f' := (mkF m 17 #[iv (8 : Int32), rv b1, iv (5 : Int32), iv (4 : Int32), rv w_REPEATABLE_READ] [(.ref w_SERIALIZABLE)])) (fun t k => own_ldR X5 hx hZ e5 A1 rfl (by decide) rfl (g := (mkF m 16 #[iv (8 : Int32), rv b1, iv (5 : Int32), iv (4 : Int32), rv w_REPEATABLE_READ] [(.int (4 : Int32)), (.ref b1)])) rfl rfl (hb hby d1_16) t k) ?_
  refine own_pre (T' := T5) (f' := (mkF m 19 #[iv (8 : Int32), rv b1, iv (5 : Int32), iv (4 : Int32), rv w_SERIALIZABLE] [])) (fun t k => XS.astore X5.here hx rfl (hb hby d1_17) rfl rfl (l' := #[iv (8 : Int32), rv b1, iv (5 : Int32), iv (4 : Int32), rv w_SERIALIZABLE]) rfl k) ?_
  refine own_pre (T' := T5) (f' := (mkF m 21 #[iv (8 : Int32), rv b1, iv (5 : Int32), iv (4 : Int32), rv w_SERIALIZABLE] [(.ref w_SERIALIZABLE)])) (fun t k => XS.aload X5.here hx rfl (hb hby d1_19) rfl rfl k) ?_
  obtain ⟨T6, X6, e6, st6⟩ := getF X5 hx hZ hown (host := "") (Or.inl (hw _ (List.mem_of_getElem? (i := 26) rfl))) Via.refl e5 (F_code_SERIALIZABLE.ext EX1_h0) (g := (mkF m 21 #[iv (8 : Int32), rv b1, iv (5 : Int32), iv (4 : Int32), rv w_SERIALIZABLE] [(.ref w_SERIALIZABLE)])) rfl rfl (hb hby d1_21)
  refine own_pre (T' := T6) (f' := (mkF m 24 #[iv (8 : Int32), rv b1, iv (5 : Int32), iv (4 : Int32), rv w_SERIALIZABLE] [(.int (8 : Int32))])) (fun t k => st6 t k) ?_
  refine own_pre (T' := T6) (f' := (mkF m 25 #[iv (8 : Int32), rv b1, iv (5 : Int32), iv (4 : Int32), rv w_SERIALIZABLE] [(.int (8 : Int32)), (.int (8 : Int32))])) (fun t k => XS.iloadN X6.here hx rfl (hb hby d1_24) rfl k) ?_
  refine own_pre (T' := T6) (f' := (mkF m 28 #[iv (8 : Int32), rv b1, iv (5 : Int32), iv (4 : Int32), rv w_SERIALIZABLE] [])) (fun t k => XS.icmpNo X6.here hx rfl (hb hby d1_25) rfl (teq (by decide : (8 : Int32) = (8 : Int32))).2 k) ?_
  refine own_pre (T' := T6) (f' := (mkF m 30 #[iv (8 : Int32), rv b1, iv (5 : Int32), iv (4 : Int32), rv w_SERIALIZABLE] [(.ref w_SERIALIZABLE)])) (fun t k => XS.aload X6.here hx rfl (hb hby d1_28) rfl rfl k) ?_
  exact own_retR X6 hx hlk hret (hb hby d1_30) rfl rfl rfl (by rw [e6]; exact ⟨rfl, EX1_h0, trivial, rfl⟩) (by decide) (by decide)
theorem d3_0 : decode prog_8_method_4_code 0 = .ok (.aload_n 0, 1) := by decide +kernel
theorem d3_1 : decode prog_8_method_4_code 1 = .ok (.getfield 38, 3) := by decide +kernel
theorem d3_4 : decode prog_8_method_4_code 4 = .ok (.ireturn, 1) := by decide +kernel
set_option maxRecDepth 65536 in
set_option maxHeartbeats 40000000 in
theorem own_code_DEFAULT (l : Launch) (Z : State) (a0 : Array Value) (hw : ∀ d ∈ tables_1, d.before a0 Z = true) (ws : List Jvm.Cond) (w_DEFAULT w__VALUES w_READ_UNCOMMITTED w_READ_COMMITTED w_REPEATABLE_READ w_SERIALIZABLE : Addr) (k__VALUES : ClassId) (h0 : Heap) (F : own_F Z h0 w_DEFAULT w__VALUES w_READ_UNCOMMITTED w_READ_COMMITTED w_REPEATABLE_READ w_SERIALIZABLE k__VALUES)  :
    own_C l (⟨"com/example/uniform_transactions/uniformtransactions/Isolation", "code", "()I"⟩ : MethodName) prog_8_method_4_code 1 (some .int) ws (own_R 0 0) #[(.ref w_DEFAULT)] Z h0 (own_Q0 (some (.int (-1 : Int32))) h0) := by
  have F0 := F
  obtain ⟨S_DEFAULT, E_DEFAULT, S__VALUES, E__VALUES, S_READ_UNCOMMITTED, E_READ_UNCOMMITTED, S_READ_COMMITTED, E_READ_COMMITTED, S_REPEATABLE_READ, E_REPEATABLE_READ, S_SERIALIZABLE, E_SERIALIZABLE, F_code_DEFAULT, F_code_READ_UNCOMMITTED, F_code_READ_COMMITTED, F_code_REPEATABLE_READ, F_code_SERIALIZABLE, V__VALUES⟩ := F
  refine own_enter (LS := #[rv w_DEFAULT]) (plainFor_of_name (by first | (simp [plainName, overriddenIn, x]; done) | decide +kernel)) (fun m => by first | (simp [entryFrame, mkF, argsToLocals, Value.category, maxLocals]; done) | rfl) ?_
  intro p e s m below meth c s₁ hx hby hml hown0 hnm hret hlk hZ X0 e0 hsh
  have hown : s.vm.findClass "com/example/uniform_transactions/uniformtransactions/Isolation" = some m.cls := hown0
  refine own_pre (T' := s₁) (f' := (mkF m 1 #[rv w_DEFAULT] [(.ref w_DEFAULT)])) (fun t k => XS.aloadN X0.here hx rfl (hb hby d3_0) rfl rfl k) ?_
  obtain ⟨T1, X1, e1, st1⟩ := getF X0 hx hZ hown (host := "") (Or.inl (hw _ (List.mem_of_getElem? (i := 26) rfl))) Via.refl e0 F_code_DEFAULT (g := (mkF m 1 #[rv w_DEFAULT] [(.ref w_DEFAULT)])) rfl rfl (hb hby d3_1)
  refine own_pre (T' := T1) (f' := (mkF m 4 #[rv w_DEFAULT] [(.int (-1 : Int32))])) (fun t k => st1 t k) ?_
  exact own_retI X1 hx hlk hret (hb hby d3_4) (⟨rfl, e1, rfl⟩) (by decide) (by decide)
set_option maxRecDepth 65536 in
set_option maxHeartbeats 40000000 in
theorem own_code_READ_UNCOMMITTED (l : Launch) (Z : State) (a0 : Array Value) (hw : ∀ d ∈ tables_1, d.before a0 Z = true) (ws : List Jvm.Cond) (w_DEFAULT w__VALUES w_READ_UNCOMMITTED w_READ_COMMITTED w_REPEATABLE_READ w_SERIALIZABLE : Addr) (k__VALUES : ClassId) (h0 : Heap) (F : own_F Z h0 w_DEFAULT w__VALUES w_READ_UNCOMMITTED w_READ_COMMITTED w_REPEATABLE_READ w_SERIALIZABLE k__VALUES)  :
    own_C l (⟨"com/example/uniform_transactions/uniformtransactions/Isolation", "code", "()I"⟩ : MethodName) prog_8_method_4_code 1 (some .int) ws (own_R 0 0) #[(.ref w_READ_UNCOMMITTED)] Z h0 (own_Q0 (some (.int (1 : Int32))) h0) := by
  have F0 := F
  obtain ⟨S_DEFAULT, E_DEFAULT, S__VALUES, E__VALUES, S_READ_UNCOMMITTED, E_READ_UNCOMMITTED, S_READ_COMMITTED, E_READ_COMMITTED, S_REPEATABLE_READ, E_REPEATABLE_READ, S_SERIALIZABLE, E_SERIALIZABLE, F_code_DEFAULT, F_code_READ_UNCOMMITTED, F_code_READ_COMMITTED, F_code_REPEATABLE_READ, F_code_SERIALIZABLE, V__VALUES⟩ := F
  refine own_enter (LS := #[rv w_READ_UNCOMMITTED]) (plainFor_of_name (by first | (simp [plainName, overriddenIn, x]; done) | decide +kernel)) (fun m => by first | (simp [entryFrame, mkF, argsToLocals, Value.category, maxLocals]; done) | rfl) ?_
  intro p e s m below meth c s₁ hx hby hml hown0 hnm hret hlk hZ X0 e0 hsh
  have hown : s.vm.findClass "com/example/uniform_transactions/uniformtransactions/Isolation" = some m.cls := hown0
  refine own_pre (T' := s₁) (f' := (mkF m 1 #[rv w_READ_UNCOMMITTED] [(.ref w_READ_UNCOMMITTED)])) (fun t k => XS.aloadN X0.here hx rfl (hb hby d3_0) rfl rfl k) ?_
  obtain ⟨T1, X1, e1, st1⟩ := getF X0 hx hZ hown (host := "") (Or.inl (hw _ (List.mem_of_getElem? (i := 26) rfl))) Via.refl e0 F_code_READ_UNCOMMITTED (g := (mkF m 1 #[rv w_READ_UNCOMMITTED] [(.ref w_READ_UNCOMMITTED)])) rfl rfl (hb hby d3_1)
  refine own_pre (T' := T1) (f' := (mkF m 4 #[rv w_READ_UNCOMMITTED] [(.int (1 : Int32))])) (fun t k => st1 t k) ?_
  exact own_retI X1 hx hlk hret (hb hby d3_4) (⟨rfl, e1, rfl⟩) (by decide) (by decide)
set_option maxRecDepth 65536 in
set_option maxHeartbeats 40000000 in
theorem own_code_READ_COMMITTED (l : Launch) (Z : State) (a0 : Array Value) (hw : ∀ d ∈ tables_1, d.before a0 Z = true) (ws : List Jvm.Cond) (w_DEFAULT w__VALUES w_READ_UNCOMMITTED w_READ_COMMITTED w_REPEATABLE_READ w_SERIALIZABLE : Addr) (k__VALUES : ClassId) (h0 : Heap) (F : own_F Z h0 w_DEFAULT w__VALUES w_READ_UNCOMMITTED w_READ_COMMITTED w_REPEATABLE_READ w_SERIALIZABLE k__VALUES)  :
    own_C l (⟨"com/example/uniform_transactions/uniformtransactions/Isolation", "code", "()I"⟩ : MethodName) prog_8_method_4_code 1 (some .int) ws (own_R 0 0) #[(.ref w_READ_COMMITTED)] Z h0 (own_Q0 (some (.int (2 : Int32))) h0) := by
  have F0 := F
  obtain ⟨S_DEFAULT, E_DEFAULT, S__VALUES, E__VALUES, S_READ_UNCOMMITTED, E_READ_UNCOMMITTED, S_READ_COMMITTED, E_READ_COMMITTED, S_REPEATABLE_READ, E_REPEATABLE_READ, S_SERIALIZABLE, E_SERIALIZABLE, F_code_DEFAULT, F_code_READ_UNCOMMITTED, F_code_READ_COMMITTED, F_code_REPEATABLE_READ, F_code_SERIALIZABLE, V__VALUES⟩ := F
  refine own_enter (LS := #[rv w_READ_COMMITTED]) (plainFor_of_name (by first | (simp [plainName, overriddenIn, x]; done) | decide +kernel)) (fun m => by first | (simp [entryFrame, mkF, argsToLocals, Value.category, maxLocals]; done) | rfl) ?_
  intro p e s m below meth c s₁ hx hby hml hown0 hnm hret hlk hZ X0 e0 hsh
  have hown : s.vm.findClass "com/example/uniform_transactions/uniformtransactions/Isolation" = some m.cls := hown0
  refine own_pre (T' := s₁) (f' := (mkF m 1 #[rv w_READ_COMMITTED] [(.ref w_READ_COMMITTED)])) (fun t k => XS.aloadN X0.here hx rfl (hb hby d3_0) rfl rfl k) ?_
  obtain ⟨T1, X1, e1, st1⟩ := getF X0 hx hZ hown (host := "") (Or.inl (hw _ (List.mem_of_getElem? (i := 26) rfl))) Via.refl e0 F_code_READ_COMMITTED (g := (mkF m 1 #[rv w_READ_COMMITTED] [(.ref w_READ_COMMITTED)])) rfl rfl (hb hby d3_1)
  refine own_pre (T' := T1) (f' := (mkF m 4 #[rv w_READ_COMMITTED] [(.int (2 : Int32))])) (fun t k => st1 t k) ?_
  exact own_retI X1 hx hlk hret (hb hby d3_4) (⟨rfl, e1, rfl⟩) (by decide) (by decide)
set_option maxRecDepth 65536 in
set_option maxHeartbeats 40000000 in
theorem own_code_REPEATABLE_READ (l : Launch) (Z : State) (a0 : Array Value) (hw : ∀ d ∈ tables_1, d.before a0 Z = true) (ws : List Jvm.Cond) (w_DEFAULT w__VALUES w_READ_UNCOMMITTED w_READ_COMMITTED w_REPEATABLE_READ w_SERIALIZABLE : Addr) (k__VALUES : ClassId) (h0 : Heap) (F : own_F Z h0 w_DEFAULT w__VALUES w_READ_UNCOMMITTED w_READ_COMMITTED w_REPEATABLE_READ w_SERIALIZABLE k__VALUES)  :
    own_C l (⟨"com/example/uniform_transactions/uniformtransactions/Isolation", "code", "()I"⟩ : MethodName) prog_8_method_4_code 1 (some .int) ws (own_R 0 0) #[(.ref w_REPEATABLE_READ)] Z h0 (own_Q0 (some (.int (4 : Int32))) h0) := by
  have F0 := F
  obtain ⟨S_DEFAULT, E_DEFAULT, S__VALUES, E__VALUES, S_READ_UNCOMMITTED, E_READ_UNCOMMITTED, S_READ_COMMITTED, E_READ_COMMITTED, S_REPEATABLE_READ, E_REPEATABLE_READ, S_SERIALIZABLE, E_SERIALIZABLE, F_code_DEFAULT, F_code_READ_UNCOMMITTED, F_code_READ_COMMITTED, F_code_REPEATABLE_READ, F_code_SERIALIZABLE, V__VALUES⟩ := F
  refine own_enter (LS := #[rv w_REPEATABLE_READ]) (plainFor_of_name (by first | (simp [plainName, overriddenIn, x]; done) | decide +kernel)) (fun m => by first | (simp [entryFrame, mkF, argsToLocals, Value.category, maxLocals]; done) | rfl) ?_
  intro p e s m below meth c s₁ hx hby hml hown0 hnm hret hlk hZ X0 e0 hsh
  have hown : s.vm.findClass "com/example/uniform_transactions/uniformtransactions/Isolation" = some m.cls := hown0
  refine own_pre (T' := s₁) (f' := (mkF m 1 #[rv w_REPEATABLE_READ] [(.ref w_REPEATABLE_READ)])) (fun t k => XS.aloadN X0.here hx rfl (hb hby d3_0) rfl rfl k) ?_
  obtain ⟨T1, X1, e1, st1⟩ := getF X0 hx hZ hown (host := "") (Or.inl (hw _ (List.mem_of_getElem? (i := 26) rfl))) Via.refl e0 F_code_REPEATABLE_READ (g := (mkF m 1 #[rv w_REPEATABLE_READ] [(.ref w_REPEATABLE_READ)])) rfl rfl (hb hby d3_1)
  refine own_pre (T' := T1) (f' := (mkF m 4 #[rv w_REPEATABLE_READ] [(.int (4 : Int32))])) (fun t k => st1 t k) ?_
  exact own_retI X1 hx hlk hret (hb hby d3_4) (⟨rfl, e1, rfl⟩) (by decide) (by decide)
set_option maxRecDepth 65536 in
set_option maxHeartbeats 40000000 in
theorem own_code_SERIALIZABLE (l : Launch) (Z : State) (a0 : Array Value) (hw : ∀ d ∈ tables_1, d.before a0 Z = true) (ws : List Jvm.Cond) (w_DEFAULT w__VALUES w_READ_UNCOMMITTED w_READ_COMMITTED w_REPEATABLE_READ w_SERIALIZABLE : Addr) (k__VALUES : ClassId) (h0 : Heap) (F : own_F Z h0 w_DEFAULT w__VALUES w_READ_UNCOMMITTED w_READ_COMMITTED w_REPEATABLE_READ w_SERIALIZABLE k__VALUES)  :
    own_C l (⟨"com/example/uniform_transactions/uniformtransactions/Isolation", "code", "()I"⟩ : MethodName) prog_8_method_4_code 1 (some .int) ws (own_R 0 0) #[(.ref w_SERIALIZABLE)] Z h0 (own_Q0 (some (.int (8 : Int32))) h0) := by
  have F0 := F
  obtain ⟨S_DEFAULT, E_DEFAULT, S__VALUES, E__VALUES, S_READ_UNCOMMITTED, E_READ_UNCOMMITTED, S_READ_COMMITTED, E_READ_COMMITTED, S_REPEATABLE_READ, E_REPEATABLE_READ, S_SERIALIZABLE, E_SERIALIZABLE, F_code_DEFAULT, F_code_READ_UNCOMMITTED, F_code_READ_COMMITTED, F_code_REPEATABLE_READ, F_code_SERIALIZABLE, V__VALUES⟩ := F
  refine own_enter (LS := #[rv w_SERIALIZABLE]) (plainFor_of_name (by first | (simp [plainName, overriddenIn, x]; done) | decide +kernel)) (fun m => by first | (simp [entryFrame, mkF, argsToLocals, Value.category, maxLocals]; done) | rfl) ?_
  intro p e s m below meth c s₁ hx hby hml hown0 hnm hret hlk hZ X0 e0 hsh
  have hown : s.vm.findClass "com/example/uniform_transactions/uniformtransactions/Isolation" = some m.cls := hown0
  refine own_pre (T' := s₁) (f' := (mkF m 1 #[rv w_SERIALIZABLE] [(.ref w_SERIALIZABLE)])) (fun t k => XS.aloadN X0.here hx rfl (hb hby d3_0) rfl rfl k) ?_
  obtain ⟨T1, X1, e1, st1⟩ := getF X0 hx hZ hown (host := "") (Or.inl (hw _ (List.mem_of_getElem? (i := 26) rfl))) Via.refl e0 F_code_SERIALIZABLE (g := (mkF m 1 #[rv w_SERIALIZABLE] [(.ref w_SERIALIZABLE)])) rfl rfl (hb hby d3_1)
  refine own_pre (T' := T1) (f' := (mkF m 4 #[rv w_SERIALIZABLE] [(.int (8 : Int32))])) (fun t k => st1 t k) ?_
  exact own_retI X1 hx hlk hret (hb hby d3_4) (⟨rfl, e1, rfl⟩) (by decide) (by decide)
set_option maxRecDepth 65536 in
set_option maxHeartbeats 40000000 in
theorem own_law (l : Launch) (Z : State) (a0 : Array Value) (hw : ∀ d ∈ tables_1, d.before a0 Z = true) (ws : List Jvm.Cond) (w_DEFAULT w__VALUES w_READ_UNCOMMITTED w_READ_COMMITTED w_REPEATABLE_READ w_SERIALIZABLE : Addr) (k__VALUES : ClassId) (h0 : Heap) (F : own_F Z h0 w_DEFAULT w__VALUES w_READ_UNCOMMITTED w_READ_COMMITTED w_REPEATABLE_READ w_SERIALIZABLE k__VALUES) (p1 : Int32) :
    own_C l x code maxLocals ret ws room_1 #[(.int p1)] Z h0 (fun v _ L => v = some (.int (1 : Int32)) ∧ Fr h0.size L) := by
  have F0 := F
  obtain ⟨S_DEFAULT, E_DEFAULT, S__VALUES, E__VALUES, S_READ_UNCOMMITTED, E_READ_UNCOMMITTED, S_READ_COMMITTED, E_READ_COMMITTED, S_REPEATABLE_READ, E_REPEATABLE_READ, S_SERIALIZABLE, E_SERIALIZABLE, F_code_DEFAULT, F_code_READ_UNCOMMITTED, F_code_READ_COMMITTED, F_code_REPEATABLE_READ, F_code_SERIALIZABLE, V__VALUES⟩ := F
  refine own_enter (LS := #[iv p1, .unset, .unset, .unset, .unset]) (plainFor_of_name (by first | (simp [plainName, overriddenIn, x]; done) | decide +kernel)) (fun m => by first | (simp [entryFrame, mkF, argsToLocals, Value.category, maxLocals]; done) | rfl) ?_
  intro p e s m below meth c s₁ hx hby hml hown0 hnm hret hlk hZ X0 e0 hsh
  have hown : s.vm.findClass "com/example/uniform_transactions/uniformtransactions/IsolationFromCodePinLaw" = some m.cls := hown0
  refine own_pre (T' := s₁) (f' := (mkF m 1 #[iv p1, .unset, .unset, .unset, .unset] [(.int p1)])) (fun t k => XS.iloadN X0.here hx rfl (hb hby at_0) rfl k) ?_
  refine own_pre (T' := s₁) (f' := (mkF m 3 #[iv p1, .unset, .unset, .unset, .unset] [(.int (2147483647 : Int32)), (.int p1)])) (fun t k => X0.ldcInt hx hown (mvT hZ (hw _ (List.mem_of_getElem? (i := 0) rfl))) (g := (mkF m 1 #[iv p1, .unset, .unset, .unset, .unset] [(.int p1)])) rfl (hb hby at_1) t k) ?_
  refine own_pre (T' := s₁) (f' := (mkF m 4 #[iv p1, .unset, .unset, .unset, .unset] [(.int (p1 &&& (2147483647 : Int32)))])) (fun t k => XS.iand X0.here hx rfl (hb hby at_3) rfl k) ?_
  refine own_pre (T' := s₁) (f' := (mkF m 5 #[iv p1, .unset, .unset, .unset, .unset] [(.int (5 : Int32)), (.int (p1 &&& (2147483647 : Int32)))])) (fun t k => XS.iconst X0.here hx rfl (hb hby at_4) k) ?_
  refine own_pre (T' := s₁) (f' := (mkF m 6 #[iv p1, .unset, .unset, .unset, .unset] [(.int ((p1 &&& (2147483647 : Int32)) % (5 : Int32)))])) (fun t k => iremM X0 hx rfl (hb hby at_5) rfl (by decide) k) ?_
  rcases own_r5 p1 with hj | hj | hj | hj | hj
  · rw [hj]
    refine own_pre (T' := s₁) (f' := (mkF m 7 #[iv p1, iv (0 : Int32), .unset, .unset, .unset] [])) (fun t k => XS.istoreN X0.here hx rfl (hb hby at_6) rfl (l' := #[iv p1, iv (0 : Int32), .unset, .unset, .unset]) rfl k) ?_
    refine own_pre (T' := s₁) (f' := (mkF m 8 #[iv p1, iv (0 : Int32), .unset, .unset, .unset] [(.int (0 : Int32))])) (fun t k => XS.iloadN X0.here hx rfl (hb hby at_7) rfl k) ?_
    refine own_pre (T' := s₁) (f' := (mkF m 11 #[iv p1, iv (0 : Int32), .unset, .unset, .unset] [])) (fun t k => XS.ifNo X0.here hx rfl (hb hby at_8) rfl ((if0 _ _).trans (teq (by decide : (0 : Int32) = (0 : Int32))).2) k) ?_
    refine own_pre (T' := s₁) (f' := (mkF m 12 #[iv p1, iv (0 : Int32), .unset, .unset, .unset] [(.int (-1 : Int32))])) (fun t k => XS.iconst X0.here hx rfl (hb hby at_11) k) ?_
    refine own_pre (T' := s₁) (f' := (mkF m 13 #[iv p1, iv (0 : Int32), iv (-1 : Int32), .unset, .unset] [])) (fun t k => XS.istoreN X0.here hx rfl (hb hby at_12) rfl (l' := #[iv p1, iv (0 : Int32), iv (-1 : Int32), .unset, .unset]) rfl k) ?_
    obtain ⟨T1, X1, e1, st1⟩ := getS2 X0 hx hZ hown (host := "") (Or.inl (hw _ (List.mem_of_getElem? (i := 1) rfl))) Via.refl e0 S_DEFAULT (g := (mkF m 13 #[iv p1, iv (0 : Int32), iv (-1 : Int32), .unset, .unset] [])) rfl (hb hby at_13)
    refine own_pre (T' := T1) (f' := (mkF m 16 #[iv p1, iv (0 : Int32), iv (-1 : Int32), .unset, .unset] [(.ref w_DEFAULT)])) (fun t k => st1 t k) ?_
    refine own_pre (T' := T1) (f' := (mkF m 17 #[iv p1, iv (0 : Int32), iv (-1 : Int32), rv w_DEFAULT, .unset] [])) (fun t k => XS.astoreN X1.here hx rfl (hb hby at_16) rfl rfl (l' := #[iv p1, iv (0 : Int32), iv (-1 : Int32), rv w_DEFAULT, .unset]) rfl k) ?_
    refine own_pre (T' := T1) (f' := (mkF m 69 #[iv p1, iv (0 : Int32), iv (-1 : Int32), rv w_DEFAULT, .unset] [])) (fun t k => XS.goto X1.here hx rfl (pc0 := 17) (pc' := 69) rfl (hb hby at_17) (by decide) (by decide) k) ?_
    refine own_pre (T' := T1) (f' := (mkF m 70 #[iv p1, iv (0 : Int32), iv (-1 : Int32), rv w_DEFAULT, .unset] [(.int (-1 : Int32))])) (fun t k => XS.iloadN X1.here hx rfl (hb hby at_69) rfl k) ?_
    obtain ⟨T2, h2, X2, e2, E2, A2, st2⟩ := own_grow (R' := own_RC 2 1 5 25) (v := some (.ref w_DEFAULT)) (own_callS X1 hx hZ e1 (y := (⟨"com/example/uniform_transactions/uniformtransactions/Isolation", "fromCode", "(I)Lcom/example/uniform_transactions/uniformtransactions/Isolation;"⟩ : MethodName)) hown (hw _ (List.mem_of_getElem? (i := 4) rfl)) (hw _ (List.mem_of_getElem? (i := 5) rfl)) (hw _ (List.mem_of_getElem? (i := 6) rfl)) (hw _ (List.mem_of_getElem? (i := 2) rfl)) (by decide) 0 [(.int (-1 : Int32))] [] (own_fc_m1 l Z a0 hw [] w_DEFAULT w__VALUES w_READ_UNCOMMITTED w_READ_COMMITTED w_REPEATABLE_READ w_SERIALIZABLE k__VALUES h0 F0) (by decide) (by decide) (by decide) (by decide) (g := (mkF m 70 #[iv p1, iv (0 : Int32), iv (-1 : Int32), rv w_DEFAULT, .unset] [(.int (-1 : Int32))])) rfl (by rw [hml]; rfl) (lenOf pd_1 rfl) rfl (by show 2 * 0 + _ ≤ _; exact Nat.le_of_eq rfl) (hb hby at_70))
    have EX2_h0 : Ext h0 h2 := E2
    refine own_pre (T' := T2) (f' := (mkF m 73 #[iv p1, iv (0 : Int32), iv (-1 : Int32), rv w_DEFAULT, .unset] [(.ref w_DEFAULT)])) (fun t k => st2 t k) ?_
    refine own_pre (T' := T2) (f' := (mkF m 75 #[iv p1, iv (0 : Int32), iv (-1 : Int32), rv w_DEFAULT, rv w_DEFAULT] [])) (fun t k => XS.astore X2.here hx rfl (hb hby at_73) rfl rfl (l' := #[iv p1, iv (0 : Int32), iv (-1 : Int32), rv w_DEFAULT, rv w_DEFAULT]) rfl k) ?_
    refine own_pre (T' := T2) (f' := (mkF m 77 #[iv p1, iv (0 : Int32), iv (-1 : Int32), rv w_DEFAULT, rv w_DEFAULT] [(.ref w_DEFAULT)])) (fun t k => XS.aload X2.here hx rfl (hb hby at_75) rfl rfl k) ?_
    refine own_pre (T' := T2) (f' := (mkF m 78 #[iv p1, iv (0 : Int32), iv (-1 : Int32), rv w_DEFAULT, rv w_DEFAULT] [(.ref w_DEFAULT), (.ref w_DEFAULT)])) (fun t k => XS.aloadN X2.here hx rfl (hb hby at_77) rfl rfl k) ?_
    refine own_pre (T' := T2) (f' := (mkF m 81 #[iv p1, iv (0 : Int32), iv (-1 : Int32), rv w_DEFAULT, rv w_DEFAULT] [])) (fun t k => Jvm.RoadKit.acmp (g := (mkF m 78 #[iv p1, iv (0 : Int32), iv (-1 : Int32), rv w_DEFAULT, rv w_DEFAULT] [(.ref w_DEFAULT), (.ref w_DEFAULT)])) X2 hx rfl rfl rfl (pc0 := 78) (pc' := 81) (same := true) rfl (hb hby at_78) rfl (decide_eq_true rfl) (by decide) (by decide) k) ?_
    refine own_pre (T' := T2) (f' := (mkF m 83 #[iv p1, iv (0 : Int32), iv (-1 : Int32), rv w_DEFAULT, rv w_DEFAULT] [(.ref w_DEFAULT)])) (fun t k => XS.aload X2.here hx rfl (hb hby at_81) rfl rfl k) ?_
    obtain ⟨T3, X3, e3, st3⟩ := own_pure (f := 0) (n := 0) (v := (some (.int (-1 : Int32)))) (own_callV X2 hx hZ e2 (y := (⟨"com/example/uniform_transactions/uniformtransactions/Isolation", "code", "()I"⟩ : MethodName)) hown (hw _ (List.mem_of_getElem? (i := 28) rfl)) (hw _ (List.mem_of_getElem? (i := 29) rfl)) (hw _ (List.mem_of_getElem? (i := 31) rfl)) (hw _ (List.mem_of_getElem? (i := 30) rfl)) (hw _ (List.mem_of_getElem? (i := 32) rfl)) (hw _ (List.mem_of_getElem? (i := 2) rfl)) (by decide) 0 [] [] (own_code_DEFAULT l Z a0 hw [] w_DEFAULT w__VALUES w_READ_UNCOMMITTED w_READ_COMMITTED w_REPEATABLE_READ w_SERIALIZABLE k__VALUES h2 (own_F_ext F0 EX2_h0)) (by decide) (by decide) (by decide) (by decide) (E_DEFAULT.ext EX2_h0) (g := (mkF m 83 #[iv p1, iv (0 : Int32), iv (-1 : Int32), rv w_DEFAULT, rv w_DEFAULT] [(.ref w_DEFAULT)])) rfl (by rw [hml]; rfl) (lenOf pd_2 rfl) rfl (by show 2 * 0 + _ ≤ _; exact Nat.le_of_eq rfl) (hb hby at_83))
    refine own_pre (T' := T3) (f' := (mkF m 86 #[iv p1, iv (0 : Int32), iv (-1 : Int32), rv w_DEFAULT, rv w_DEFAULT] [(.int (-1 : Int32))])) (fun t k => st3 t k) ?_
    refine own_pre (T' := T3) (f' := (mkF m 87 #[iv p1, iv (0 : Int32), iv (-1 : Int32), rv w_DEFAULT, rv w_DEFAULT] [(.int (-1 : Int32)), (.int (-1 : Int32))])) (fun t k => XS.iloadN X3.here hx rfl (hb hby at_86) rfl k) ?_
    refine own_pre (T' := T3) (f' := (mkF m 90 #[iv p1, iv (0 : Int32), iv (-1 : Int32), rv w_DEFAULT, rv w_DEFAULT] [])) (fun t k => XS.icmpNo X3.here hx rfl (hb hby at_87) rfl (teq (by decide : (-1 : Int32) = (-1 : Int32))).2 k) ?_
    refine own_pre (T' := T3) (f' := (mkF m 91 #[iv p1, iv (0 : Int32), iv (-1 : Int32), rv w_DEFAULT, rv w_DEFAULT] [(.int (1 : Int32))])) (fun t k => XS.iconst X3.here hx rfl (hb hby at_90) k) ?_
    refine own_pre (T' := T3) (f' := (mkF m 95 #[iv p1, iv (0 : Int32), iv (-1 : Int32), rv w_DEFAULT, rv w_DEFAULT] [(.int (1 : Int32))])) (fun t k => XS.goto X3.here hx rfl (pc0 := 91) (pc' := 95) rfl (hb hby at_91) (by decide) (by decide) k) ?_
    exact own_retZ X3 hx hlk hret (hb hby at_95) rfl (⟨rfl, Fr.nil _⟩) (by decide) (by decide)
  · rw [hj]
    refine own_pre (T' := s₁) (f' := (mkF m 7 #[iv p1, iv (1 : Int32), .unset, .unset, .unset] [])) (fun t k => XS.istoreN X0.here hx rfl (hb hby at_6) rfl (l' := #[iv p1, iv (1 : Int32), .unset, .unset, .unset]) rfl k) ?_
    refine own_pre (T' := s₁) (f' := (mkF m 8 #[iv p1, iv (1 : Int32), .unset, .unset, .unset] [(.int (1 : Int32))])) (fun t k => XS.iloadN X0.here hx rfl (hb hby at_7) rfl k) ?_
    refine own_pre (T' := s₁) (f' := (mkF m 20 #[iv p1, iv (1 : Int32), .unset, .unset, .unset] [])) (fun t k => XS.ifYes X0.here hx rfl (pc0 := 8) (pc' := 20) rfl (hb hby at_8) rfl ((if0 _ _).trans (feq (by decide : ¬ ((1 : Int32) = (0 : Int32)))).2) (by decide) (by decide) k) ?_
    refine own_pre (T' := s₁) (f' := (mkF m 21 #[iv p1, iv (1 : Int32), .unset, .unset, .unset] [(.int (1 : Int32))])) (fun t k => XS.iloadN X0.here hx rfl (hb hby at_20) rfl k) ?_
    refine own_pre (T' := s₁) (f' := (mkF m 22 #[iv p1, iv (1 : Int32), .unset, .unset, .unset] [(.int (1 : Int32)), (.int (1 : Int32))])) (fun t k => XS.iconst X0.here hx rfl (hb hby at_21) k) ?_
    refine own_pre (T' := s₁) (f' := (mkF m 25 #[iv p1, iv (1 : Int32), .unset, .unset, .unset] [])) (fun t k => XS.icmpNo X0.here hx rfl (hb hby at_22) rfl (teq (by decide : (1 : Int32) = (1 : Int32))).2 k) ?_
    refine own_pre (T' := s₁) (f' := (mkF m 26 #[iv p1, iv (1 : Int32), .unset, .unset, .unset] [(.int (1 : Int32))])) (fun t k => XS.iconst X0.here hx rfl (hb hby at_25) k) ?_
    refine own_pre (T' := s₁) (f' := (mkF m 27 #[iv p1, iv (1 : Int32), iv (1 : Int32), .unset, .unset] [])) (fun t k => XS.istoreN X0.here hx rfl (hb hby at_26) rfl (l' := #[iv p1, iv (1 : Int32), iv (1 : Int32), .unset, .unset]) rfl k) ?_
    obtain ⟨T4, X4, e4, st4⟩ := getS2 X0 hx hZ hown (host := "") (Or.inl (hw _ (List.mem_of_getElem? (i := 34) rfl))) Via.refl e0 S_READ_UNCOMMITTED (g := (mkF m 27 #[iv p1, iv (1 : Int32), iv (1 : Int32), .unset, .unset] [])) rfl (hb hby at_27)
    refine own_pre (T' := T4) (f' := (mkF m 30 #[iv p1, iv (1 : Int32), iv (1 : Int32), .unset, .unset] [(.ref w_READ_UNCOMMITTED)])) (fun t k => st4 t k) ?_
    refine own_pre (T' := T4) (f' := (mkF m 31 #[iv p1, iv (1 : Int32), iv (1 : Int32), rv w_READ_UNCOMMITTED, .unset] [])) (fun t k => XS.astoreN X4.here hx rfl (hb hby at_30) rfl rfl (l' := #[iv p1, iv (1 : Int32), iv (1 : Int32), rv w_READ_UNCOMMITTED, .unset]) rfl k) ?_
    refine own_pre (T' := T4) (f' := (mkF m 69 #[iv p1, iv (1 : Int32), iv (1 : Int32), rv w_READ_UNCOMMITTED, .unset] [])) (fun t k => XS.goto X4.here hx rfl (pc0 := 31) (pc' := 69) rfl (hb hby at_31) (by decide) (by decide) k) ?_
    refine own_pre (T' := T4) (f' := (mkF m 70 #[iv p1, iv (1 : Int32), iv (1 : Int32), rv w_READ_UNCOMMITTED, .unset] [(.int (1 : Int32))])) (fun t k => XS.iloadN X4.here hx rfl (hb hby at_69) rfl k) ?_
    obtain ⟨T5, h5, X5, e5, E5, A5, st5⟩ := own_grow (R' := own_RC 2 1 5 25) (v := some (.ref w_READ_UNCOMMITTED)) (own_callS X4 hx hZ e4 (y := (⟨"com/example/uniform_transactions/uniformtransactions/Isolation", "fromCode", "(I)Lcom/example/uniform_transactions/uniformtransactions/Isolation;"⟩ : MethodName)) hown (hw _ (List.mem_of_getElem? (i := 4) rfl)) (hw _ (List.mem_of_getElem? (i := 5) rfl)) (hw _ (List.mem_of_getElem? (i := 6) rfl)) (hw _ (List.mem_of_getElem? (i := 2) rfl)) (by decide) 0 [(.int (1 : Int32))] [] (own_fc_1 l Z a0 hw [] w_DEFAULT w__VALUES w_READ_UNCOMMITTED w_READ_COMMITTED w_REPEATABLE_READ w_SERIALIZABLE k__VALUES h0 F0) (by decide) (by decide) (by decide) (by decide) (g := (mkF m 70 #[iv p1, iv (1 : Int32), iv (1 : Int32), rv w_READ_UNCOMMITTED, .unset] [(.int (1 : Int32))])) rfl (by rw [hml]; rfl) (lenOf pd_1 rfl) rfl (by show 2 * 0 + _ ≤ _; exact Nat.le_of_eq rfl) (hb hby at_70))
    have EX5_h0 : Ext h0 h5 := E5
    refine own_pre (T' := T5) (f' := (mkF m 73 #[iv p1, iv (1 : Int32), iv (1 : Int32), rv w_READ_UNCOMMITTED, .unset] [(.ref w_READ_UNCOMMITTED)])) (fun t k => st5 t k) ?_
    refine own_pre (T' := T5) (f' := (mkF m 75 #[iv p1, iv (1 : Int32), iv (1 : Int32), rv w_READ_UNCOMMITTED, rv w_READ_UNCOMMITTED] [])) (fun t k => XS.astore X5.here hx rfl (hb hby at_73) rfl rfl (l' := #[iv p1, iv (1 : Int32), iv (1 : Int32), rv w_READ_UNCOMMITTED, rv w_READ_UNCOMMITTED]) rfl k) ?_
    refine own_pre (T' := T5) (f' := (mkF m 77 #[iv p1, iv (1 : Int32), iv (1 : Int32), rv w_READ_UNCOMMITTED, rv w_READ_UNCOMMITTED] [(.ref w_READ_UNCOMMITTED)])) (fun t k => XS.aload X5.here hx rfl (hb hby at_75) rfl rfl k) ?_
    refine own_pre (T' := T5) (f' := (mkF m 78 #[iv p1, iv (1 : Int32), iv (1 : Int32), rv w_READ_UNCOMMITTED, rv w_READ_UNCOMMITTED] [(.ref w_READ_UNCOMMITTED), (.ref w_READ_UNCOMMITTED)])) (fun t k => XS.aloadN X5.here hx rfl (hb hby at_77) rfl rfl k) ?_
    refine own_pre (T' := T5) (f' := (mkF m 81 #[iv p1, iv (1 : Int32), iv (1 : Int32), rv w_READ_UNCOMMITTED, rv w_READ_UNCOMMITTED] [])) (fun t k => Jvm.RoadKit.acmp (g := (mkF m 78 #[iv p1, iv (1 : Int32), iv (1 : Int32), rv w_READ_UNCOMMITTED, rv w_READ_UNCOMMITTED] [(.ref w_READ_UNCOMMITTED), (.ref w_READ_UNCOMMITTED)])) X5 hx rfl rfl rfl (pc0 := 78) (pc' := 81) (same := true) rfl (hb hby at_78) rfl (decide_eq_true rfl) (by decide) (by decide) k) ?_
    refine own_pre (T' := T5) (f' := (mkF m 83 #[iv p1, iv (1 : Int32), iv (1 : Int32), rv w_READ_UNCOMMITTED, rv w_READ_UNCOMMITTED] [(.ref w_READ_UNCOMMITTED)])) (fun t k => XS.aload X5.here hx rfl (hb hby at_81) rfl rfl k) ?_
    obtain ⟨T6, X6, e6, st6⟩ := own_pure (f := 0) (n := 0) (v := (some (.int (1 : Int32)))) (own_callV X5 hx hZ e5 (y := (⟨"com/example/uniform_transactions/uniformtransactions/Isolation", "code", "()I"⟩ : MethodName)) hown (hw _ (List.mem_of_getElem? (i := 28) rfl)) (hw _ (List.mem_of_getElem? (i := 29) rfl)) (hw _ (List.mem_of_getElem? (i := 31) rfl)) (hw _ (List.mem_of_getElem? (i := 30) rfl)) (hw _ (List.mem_of_getElem? (i := 32) rfl)) (hw _ (List.mem_of_getElem? (i := 2) rfl)) (by decide) 0 [] [] (own_code_READ_UNCOMMITTED l Z a0 hw [] w_DEFAULT w__VALUES w_READ_UNCOMMITTED w_READ_COMMITTED w_REPEATABLE_READ w_SERIALIZABLE k__VALUES h5 (own_F_ext F0 EX5_h0)) (by decide) (by decide) (by decide) (by decide) (E_READ_UNCOMMITTED.ext EX5_h0) (g := (mkF m 83 #[iv p1, iv (1 : Int32), iv (1 : Int32), rv w_READ_UNCOMMITTED, rv w_READ_UNCOMMITTED] [(.ref w_READ_UNCOMMITTED)])) rfl (by rw [hml]; rfl) (lenOf pd_2 rfl) rfl (by show 2 * 0 + _ ≤ _; exact Nat.le_of_eq rfl) (hb hby at_83))
    refine own_pre (T' := T6) (f' := (mkF m 86 #[iv p1, iv (1 : Int32), iv (1 : Int32), rv w_READ_UNCOMMITTED, rv w_READ_UNCOMMITTED] [(.int (1 : Int32))])) (fun t k => st6 t k) ?_
    refine own_pre (T' := T6) (f' := (mkF m 87 #[iv p1, iv (1 : Int32), iv (1 : Int32), rv w_READ_UNCOMMITTED, rv w_READ_UNCOMMITTED] [(.int (1 : Int32)), (.int (1 : Int32))])) (fun t k => XS.iloadN X6.here hx rfl (hb hby at_86) rfl k) ?_
    refine own_pre (T' := T6) (f' := (mkF m 90 #[iv p1, iv (1 : Int32), iv (1 : Int32), rv w_READ_UNCOMMITTED, rv w_READ_UNCOMMITTED] [])) (fun t k => XS.icmpNo X6.here hx rfl (hb hby at_87) rfl (teq (by decide : (1 : Int32) = (1 : Int32))).2 k) ?_
    refine own_pre (T' := T6) (f' := (mkF m 91 #[iv p1, iv (1 : Int32), iv (1 : Int32), rv w_READ_UNCOMMITTED, rv w_READ_UNCOMMITTED] [(.int (1 : Int32))])) (fun t k => XS.iconst X6.here hx rfl (hb hby at_90) k) ?_
    refine own_pre (T' := T6) (f' := (mkF m 95 #[iv p1, iv (1 : Int32), iv (1 : Int32), rv w_READ_UNCOMMITTED, rv w_READ_UNCOMMITTED] [(.int (1 : Int32))])) (fun t k => XS.goto X6.here hx rfl (pc0 := 91) (pc' := 95) rfl (hb hby at_91) (by decide) (by decide) k) ?_
    exact own_retZ X6 hx hlk hret (hb hby at_95) rfl (⟨rfl, Fr.nil _⟩) (by decide) (by decide)
  · rw [hj]
    refine own_pre (T' := s₁) (f' := (mkF m 7 #[iv p1, iv (2 : Int32), .unset, .unset, .unset] [])) (fun t k => XS.istoreN X0.here hx rfl (hb hby at_6) rfl (l' := #[iv p1, iv (2 : Int32), .unset, .unset, .unset]) rfl k) ?_
    refine own_pre (T' := s₁) (f' := (mkF m 8 #[iv p1, iv (2 : Int32), .unset, .unset, .unset] [(.int (2 : Int32))])) (fun t k => XS.iloadN X0.here hx rfl (hb hby at_7) rfl k) ?_
    refine own_pre (T' := s₁) (f' := (mkF m 20 #[iv p1, iv (2 : Int32), .unset, .unset, .unset] [])) (fun t k => XS.ifYes X0.here hx rfl (pc0 := 8) (pc' := 20) rfl (hb hby at_8) rfl ((if0 _ _).trans (feq (by decide : ¬ ((2 : Int32) = (0 : Int32)))).2) (by decide) (by decide) k) ?_
    refine own_pre (T' := s₁) (f' := (mkF m 21 #[iv p1, iv (2 : Int32), .unset, .unset, .unset] [(.int (2 : Int32))])) (fun t k => XS.iloadN X0.here hx rfl (hb hby at_20) rfl k) ?_
    refine own_pre (T' := s₁) (f' := (mkF m 22 #[iv p1, iv (2 : Int32), .unset, .unset, .unset] [(.int (1 : Int32)), (.int (2 : Int32))])) (fun t k => XS.iconst X0.here hx rfl (hb hby at_21) k) ?_
    refine own_pre (T' := s₁) (f' := (mkF m 34 #[iv p1, iv (2 : Int32), .unset, .unset, .unset] [])) (fun t k => XS.icmpYes X0.here hx rfl (pc0 := 22) (pc' := 34) rfl (hb hby at_22) rfl (feq (by decide : ¬ ((2 : Int32) = (1 : Int32)))).2 (by decide) (by decide) k) ?_
    refine own_pre (T' := s₁) (f' := (mkF m 35 #[iv p1, iv (2 : Int32), .unset, .unset, .unset] [(.int (2 : Int32))])) (fun t k => XS.iloadN X0.here hx rfl (hb hby at_34) rfl k) ?_
    refine own_pre (T' := s₁) (f' := (mkF m 36 #[iv p1, iv (2 : Int32), .unset, .unset, .unset] [(.int (2 : Int32)), (.int (2 : Int32))])) (fun t k => XS.iconst X0.here hx rfl (hb hby at_35) k) ?_
    refine own_pre (T' := s₁) (f' := (mkF m 39 #[iv p1, iv (2 : Int32), .unset, .unset, .unset] [])) (fun t k => XS.icmpNo X0.here hx rfl (hb hby at_36) rfl (teq (by decide : (2 : Int32) = (2 : Int32))).2 k) ?_
    refine own_pre (T' := s₁) (f' := (mkF m 40 #[iv p1, iv (2 : Int32), .unset, .unset, .unset] [(.int (2 : Int32))])) (fun t k => XS.iconst X0.here hx rfl (hb hby at_39) k) ?_
    refine own_pre (T' := s₁) (f' := (mkF m 41 #[iv p1, iv (2 : Int32), iv (2 : Int32), .unset, .unset] [])) (fun t k => XS.istoreN X0.here hx rfl (hb hby at_40) rfl (l' := #[iv p1, iv (2 : Int32), iv (2 : Int32), .unset, .unset]) rfl k) ?_
    obtain ⟨T7, X7, e7, st7⟩ := getS2 X0 hx hZ hown (host := "") (Or.inl (hw _ (List.mem_of_getElem? (i := 36) rfl))) Via.refl e0 S_READ_COMMITTED (g := (mkF m 41 #[iv p1, iv (2 : Int32), iv (2 : Int32), .unset, .unset] [])) rfl (hb hby at_41)
    refine own_pre (T' := T7) (f' := (mkF m 44 #[iv p1, iv (2 : Int32), iv (2 : Int32), .unset, .unset] [(.ref w_READ_COMMITTED)])) (fun t k => st7 t k) ?_
    refine own_pre (T' := T7) (f' := (mkF m 45 #[iv p1, iv (2 : Int32), iv (2 : Int32), rv w_READ_COMMITTED, .unset] [])) (fun t k => XS.astoreN X7.here hx rfl (hb hby at_44) rfl rfl (l' := #[iv p1, iv (2 : Int32), iv (2 : Int32), rv w_READ_COMMITTED, .unset]) rfl k) ?_
    refine own_pre (T' := T7) (f' := (mkF m 69 #[iv p1, iv (2 : Int32), iv (2 : Int32), rv w_READ_COMMITTED, .unset] [])) (fun t k => XS.goto X7.here hx rfl (pc0 := 45) (pc' := 69) rfl (hb hby at_45) (by decide) (by decide) k) ?_
    refine own_pre (T' := T7) (f' := (mkF m 70 #[iv p1, iv (2 : Int32), iv (2 : Int32), rv w_READ_COMMITTED, .unset] [(.int (2 : Int32))])) (fun t k => XS.iloadN X7.here hx rfl (hb hby at_69) rfl k) ?_
    obtain ⟨T8, h8, X8, e8, E8, A8, st8⟩ := own_grow (R' := own_RC 2 1 5 25) (v := some (.ref w_READ_COMMITTED)) (own_callS X7 hx hZ e7 (y := (⟨"com/example/uniform_transactions/uniformtransactions/Isolation", "fromCode", "(I)Lcom/example/uniform_transactions/uniformtransactions/Isolation;"⟩ : MethodName)) hown (hw _ (List.mem_of_getElem? (i := 4) rfl)) (hw _ (List.mem_of_getElem? (i := 5) rfl)) (hw _ (List.mem_of_getElem? (i := 6) rfl)) (hw _ (List.mem_of_getElem? (i := 2) rfl)) (by decide) 0 [(.int (2 : Int32))] [] (own_fc_2 l Z a0 hw [] w_DEFAULT w__VALUES w_READ_UNCOMMITTED w_READ_COMMITTED w_REPEATABLE_READ w_SERIALIZABLE k__VALUES h0 F0) (by decide) (by decide) (by decide) (by decide) (g := (mkF m 70 #[iv p1, iv (2 : Int32), iv (2 : Int32), rv w_READ_COMMITTED, .unset] [(.int (2 : Int32))])) rfl (by rw [hml]; rfl) (lenOf pd_1 rfl) rfl (by show 2 * 0 + _ ≤ _; exact Nat.le_of_eq rfl) (hb hby at_70))
    have EX8_h0 : Ext h0 h8 := E8
    refine own_pre (T' := T8) (f' := (mkF m 73 #[iv p1, iv (2 : Int32), iv (2 : Int32), rv w_READ_COMMITTED, .unset] [(.ref w_READ_COMMITTED)])) (fun t k => st8 t k) ?_
    refine own_pre (T' := T8) (f' := (mkF m 75 #[iv p1, iv (2 : Int32), iv (2 : Int32), rv w_READ_COMMITTED, rv w_READ_COMMITTED] [])) (fun t k => XS.astore X8.here hx rfl (hb hby at_73) rfl rfl (l' := #[iv p1, iv (2 : Int32), iv (2 : Int32), rv w_READ_COMMITTED, rv w_READ_COMMITTED]) rfl k) ?_
    refine own_pre (T' := T8) (f' := (mkF m 77 #[iv p1, iv (2 : Int32), iv (2 : Int32), rv w_READ_COMMITTED, rv w_READ_COMMITTED] [(.ref w_READ_COMMITTED)])) (fun t k => XS.aload X8.here hx rfl (hb hby at_75) rfl rfl k) ?_
    refine own_pre (T' := T8) (f' := (mkF m 78 #[iv p1, iv (2 : Int32), iv (2 : Int32), rv w_READ_COMMITTED, rv w_READ_COMMITTED] [(.ref w_READ_COMMITTED), (.ref w_READ_COMMITTED)])) (fun t k => XS.aloadN X8.here hx rfl (hb hby at_77) rfl rfl k) ?_
    refine own_pre (T' := T8) (f' := (mkF m 81 #[iv p1, iv (2 : Int32), iv (2 : Int32), rv w_READ_COMMITTED, rv w_READ_COMMITTED] [])) (fun t k => Jvm.RoadKit.acmp (g := (mkF m 78 #[iv p1, iv (2 : Int32), iv (2 : Int32), rv w_READ_COMMITTED, rv w_READ_COMMITTED] [(.ref w_READ_COMMITTED), (.ref w_READ_COMMITTED)])) X8 hx rfl rfl rfl (pc0 := 78) (pc' := 81) (same := true) rfl (hb hby at_78) rfl (decide_eq_true rfl) (by decide) (by decide) k) ?_
    refine own_pre (T' := T8) (f' := (mkF m 83 #[iv p1, iv (2 : Int32), iv (2 : Int32), rv w_READ_COMMITTED, rv w_READ_COMMITTED] [(.ref w_READ_COMMITTED)])) (fun t k => XS.aload X8.here hx rfl (hb hby at_81) rfl rfl k) ?_
    obtain ⟨T9, X9, e9, st9⟩ := own_pure (f := 0) (n := 0) (v := (some (.int (2 : Int32)))) (own_callV X8 hx hZ e8 (y := (⟨"com/example/uniform_transactions/uniformtransactions/Isolation", "code", "()I"⟩ : MethodName)) hown (hw _ (List.mem_of_getElem? (i := 28) rfl)) (hw _ (List.mem_of_getElem? (i := 29) rfl)) (hw _ (List.mem_of_getElem? (i := 31) rfl)) (hw _ (List.mem_of_getElem? (i := 30) rfl)) (hw _ (List.mem_of_getElem? (i := 32) rfl)) (hw _ (List.mem_of_getElem? (i := 2) rfl)) (by decide) 0 [] [] (own_code_READ_COMMITTED l Z a0 hw [] w_DEFAULT w__VALUES w_READ_UNCOMMITTED w_READ_COMMITTED w_REPEATABLE_READ w_SERIALIZABLE k__VALUES h8 (own_F_ext F0 EX8_h0)) (by decide) (by decide) (by decide) (by decide) (E_READ_COMMITTED.ext EX8_h0) (g := (mkF m 83 #[iv p1, iv (2 : Int32), iv (2 : Int32), rv w_READ_COMMITTED, rv w_READ_COMMITTED] [(.ref w_READ_COMMITTED)])) rfl (by rw [hml]; rfl) (lenOf pd_2 rfl) rfl (by show 2 * 0 + _ ≤ _; exact Nat.le_of_eq rfl) (hb hby at_83))
    refine own_pre (T' := T9) (f' := (mkF m 86 #[iv p1, iv (2 : Int32), iv (2 : Int32), rv w_READ_COMMITTED, rv w_READ_COMMITTED] [(.int (2 : Int32))])) (fun t k => st9 t k) ?_
    refine own_pre (T' := T9) (f' := (mkF m 87 #[iv p1, iv (2 : Int32), iv (2 : Int32), rv w_READ_COMMITTED, rv w_READ_COMMITTED] [(.int (2 : Int32)), (.int (2 : Int32))])) (fun t k => XS.iloadN X9.here hx rfl (hb hby at_86) rfl k) ?_
    refine own_pre (T' := T9) (f' := (mkF m 90 #[iv p1, iv (2 : Int32), iv (2 : Int32), rv w_READ_COMMITTED, rv w_READ_COMMITTED] [])) (fun t k => XS.icmpNo X9.here hx rfl (hb hby at_87) rfl (teq (by decide : (2 : Int32) = (2 : Int32))).2 k) ?_
    refine own_pre (T' := T9) (f' := (mkF m 91 #[iv p1, iv (2 : Int32), iv (2 : Int32), rv w_READ_COMMITTED, rv w_READ_COMMITTED] [(.int (1 : Int32))])) (fun t k => XS.iconst X9.here hx rfl (hb hby at_90) k) ?_
    refine own_pre (T' := T9) (f' := (mkF m 95 #[iv p1, iv (2 : Int32), iv (2 : Int32), rv w_READ_COMMITTED, rv w_READ_COMMITTED] [(.int (1 : Int32))])) (fun t k => XS.goto X9.here hx rfl (pc0 := 91) (pc' := 95) rfl (hb hby at_91) (by decide) (by decide) k) ?_
    exact own_retZ X9 hx hlk hret (hb hby at_95) rfl (⟨rfl, Fr.nil _⟩) (by decide) (by decide)
  · rw [hj]
    refine own_pre (T' := s₁) (f' := (mkF m 7 #[iv p1, iv (3 : Int32), .unset, .unset, .unset] [])) (fun t k => XS.istoreN X0.here hx rfl (hb hby at_6) rfl (l' := #[iv p1, iv (3 : Int32), .unset, .unset, .unset]) rfl k) ?_
    refine own_pre (T' := s₁) (f' := (mkF m 8 #[iv p1, iv (3 : Int32), .unset, .unset, .unset] [(.int (3 : Int32))])) (fun t k => XS.iloadN X0.here hx rfl (hb hby at_7) rfl k) ?_
    refine own_pre (T' := s₁) (f' := (mkF m 20 #[iv p1, iv (3 : Int32), .unset, .unset, .unset] [])) (fun t k => XS.ifYes X0.here hx rfl (pc0 := 8) (pc' := 20) rfl (hb hby at_8) rfl ((if0 _ _).trans (feq (by decide : ¬ ((3 : Int32) = (0 : Int32)))).2) (by decide) (by decide) k) ?_
    refine own_pre (T' := s₁) (f' := (mkF m 21 #[iv p1, iv (3 : Int32), .unset, .unset, .unset] [(.int (3 : Int32))])) (fun t k => XS.iloadN X0.here hx rfl (hb hby at_20) rfl k) ?_
    refine own_pre (T' := s₁) (f' := (mkF m 22 #[iv p1, iv (3 : Int32), .unset, .unset, .unset] [(.int (1 : Int32)), (.int (3 : Int32))])) (fun t k => XS.iconst X0.here hx rfl (hb hby at_21) k) ?_
    refine own_pre (T' := s₁) (f' := (mkF m 34 #[iv p1, iv (3 : Int32), .unset, .unset, .unset] [])) (fun t k => XS.icmpYes X0.here hx rfl (pc0 := 22) (pc' := 34) rfl (hb hby at_22) rfl (feq (by decide : ¬ ((3 : Int32) = (1 : Int32)))).2 (by decide) (by decide) k) ?_
    refine own_pre (T' := s₁) (f' := (mkF m 35 #[iv p1, iv (3 : Int32), .unset, .unset, .unset] [(.int (3 : Int32))])) (fun t k => XS.iloadN X0.here hx rfl (hb hby at_34) rfl k) ?_
    refine own_pre (T' := s₁) (f' := (mkF m 36 #[iv p1, iv (3 : Int32), .unset, .unset, .unset] [(.int (2 : Int32)), (.int (3 : Int32))])) (fun t k => XS.iconst X0.here hx rfl (hb hby at_35) k) ?_
    refine own_pre (T' := s₁) (f' := (mkF m 48 #[iv p1, iv (3 : Int32), .unset, .unset, .unset] [])) (fun t k => XS.icmpYes X0.here hx rfl (pc0 := 36) (pc' := 48) rfl (hb hby at_36) rfl (feq (by decide : ¬ ((3 : Int32) = (2 : Int32)))).2 (by decide) (by decide) k) ?_
    refine own_pre (T' := s₁) (f' := (mkF m 49 #[iv p1, iv (3 : Int32), .unset, .unset, .unset] [(.int (3 : Int32))])) (fun t k => XS.iloadN X0.here hx rfl (hb hby at_48) rfl k) ?_
    refine own_pre (T' := s₁) (f' := (mkF m 50 #[iv p1, iv (3 : Int32), .unset, .unset, .unset] [(.int (3 : Int32)), (.int (3 : Int32))])) (fun t k => XS.iconst X0.here hx rfl (hb hby at_49) k) ?_
    refine own_pre (T' := s₁) (f' := (mkF m 53 #[iv p1, iv (3 : Int32), .unset, .unset, .unset] [])) (fun t k => XS.icmpNo X0.here hx rfl (hb hby at_50) rfl (teq (by decide : (3 : Int32) = (3 : Int32))).2 k) ?_
    refine own_pre (T' := s₁) (f' := (mkF m 54 #[iv p1, iv (3 : Int32), .unset, .unset, .unset] [(.int (4 : Int32))])) (fun t k => XS.iconst X0.here hx rfl (hb hby at_53) k) ?_
    refine own_pre (T' := s₁) (f' := (mkF m 55 #[iv p1, iv (3 : Int32), iv (4 : Int32), .unset, .unset] [])) (fun t k => XS.istoreN X0.here hx rfl (hb hby at_54) rfl (l' := #[iv p1, iv (3 : Int32), iv (4 : Int32), .unset, .unset]) rfl k) ?_
    obtain ⟨T10, X10, e10, st10⟩ := getS2 X0 hx hZ hown (host := "") (Or.inl (hw _ (List.mem_of_getElem? (i := 33) rfl))) Via.refl e0 S_REPEATABLE_READ (g := (mkF m 55 #[iv p1, iv (3 : Int32), iv (4 : Int32), .unset, .unset] [])) rfl (hb hby at_55)
    refine own_pre (T' := T10) (f' := (mkF m 58 #[iv p1, iv (3 : Int32), iv (4 : Int32), .unset, .unset] [(.ref w_REPEATABLE_READ)])) (fun t k => st10 t k) ?_
    refine own_pre (T' := T10) (f' := (mkF m 59 #[iv p1, iv (3 : Int32), iv (4 : Int32), rv w_REPEATABLE_READ, .unset] [])) (fun t k => XS.astoreN X10.here hx rfl (hb hby at_58) rfl rfl (l' := #[iv p1, iv (3 : Int32), iv (4 : Int32), rv w_REPEATABLE_READ, .unset]) rfl k) ?_
    refine own_pre (T' := T10) (f' := (mkF m 69 #[iv p1, iv (3 : Int32), iv (4 : Int32), rv w_REPEATABLE_READ, .unset] [])) (fun t k => XS.goto X10.here hx rfl (pc0 := 59) (pc' := 69) rfl (hb hby at_59) (by decide) (by decide) k) ?_
    refine own_pre (T' := T10) (f' := (mkF m 70 #[iv p1, iv (3 : Int32), iv (4 : Int32), rv w_REPEATABLE_READ, .unset] [(.int (4 : Int32))])) (fun t k => XS.iloadN X10.here hx rfl (hb hby at_69) rfl k) ?_
    obtain ⟨T11, h11, X11, e11, E11, A11, st11⟩ := own_grow (R' := own_RC 2 1 5 25) (v := some (.ref w_REPEATABLE_READ)) (own_callS X10 hx hZ e10 (y := (⟨"com/example/uniform_transactions/uniformtransactions/Isolation", "fromCode", "(I)Lcom/example/uniform_transactions/uniformtransactions/Isolation;"⟩ : MethodName)) hown (hw _ (List.mem_of_getElem? (i := 4) rfl)) (hw _ (List.mem_of_getElem? (i := 5) rfl)) (hw _ (List.mem_of_getElem? (i := 6) rfl)) (hw _ (List.mem_of_getElem? (i := 2) rfl)) (by decide) 0 [(.int (4 : Int32))] [] (own_fc_4 l Z a0 hw [] w_DEFAULT w__VALUES w_READ_UNCOMMITTED w_READ_COMMITTED w_REPEATABLE_READ w_SERIALIZABLE k__VALUES h0 F0) (by decide) (by decide) (by decide) (by decide) (g := (mkF m 70 #[iv p1, iv (3 : Int32), iv (4 : Int32), rv w_REPEATABLE_READ, .unset] [(.int (4 : Int32))])) rfl (by rw [hml]; rfl) (lenOf pd_1 rfl) rfl (by show 2 * 0 + _ ≤ _; exact Nat.le_of_eq rfl) (hb hby at_70))
    have EX11_h0 : Ext h0 h11 := E11
    refine own_pre (T' := T11) (f' := (mkF m 73 #[iv p1, iv (3 : Int32), iv (4 : Int32), rv w_REPEATABLE_READ, .unset] [(.ref w_REPEATABLE_READ)])) (fun t k => st11 t k) ?_
    refine own_pre (T' := T11) (f' := (mkF m 75 #[iv p1, iv (3 : Int32), iv (4 : Int32), rv w_REPEATABLE_READ, rv w_REPEATABLE_READ] [])) (fun t k => XS.astore X11.here hx rfl (hb hby at_73) rfl rfl (l' := #[iv p1, iv (3 : Int32), iv (4 : Int32), rv w_REPEATABLE_READ, rv w_REPEATABLE_READ]) rfl k) ?_
    refine own_pre (T' := T11) (f' := (mkF m 77 #[iv p1, iv (3 : Int32), iv (4 : Int32), rv w_REPEATABLE_READ, rv w_REPEATABLE_READ] [(.ref w_REPEATABLE_READ)])) (fun t k => XS.aload X11.here hx rfl (hb hby at_75) rfl rfl k) ?_
    refine own_pre (T' := T11) (f' := (mkF m 78 #[iv p1, iv (3 : Int32), iv (4 : Int32), rv w_REPEATABLE_READ, rv w_REPEATABLE_READ] [(.ref w_REPEATABLE_READ), (.ref w_REPEATABLE_READ)])) (fun t k => XS.aloadN X11.here hx rfl (hb hby at_77) rfl rfl k) ?_
    refine own_pre (T' := T11) (f' := (mkF m 81 #[iv p1, iv (3 : Int32), iv (4 : Int32), rv w_REPEATABLE_READ, rv w_REPEATABLE_READ] [])) (fun t k => Jvm.RoadKit.acmp (g := (mkF m 78 #[iv p1, iv (3 : Int32), iv (4 : Int32), rv w_REPEATABLE_READ, rv w_REPEATABLE_READ] [(.ref w_REPEATABLE_READ), (.ref w_REPEATABLE_READ)])) X11 hx rfl rfl rfl (pc0 := 78) (pc' := 81) (same := true) rfl (hb hby at_78) rfl (decide_eq_true rfl) (by decide) (by decide) k) ?_
    refine own_pre (T' := T11) (f' := (mkF m 83 #[iv p1, iv (3 : Int32), iv (4 : Int32), rv w_REPEATABLE_READ, rv w_REPEATABLE_READ] [(.ref w_REPEATABLE_READ)])) (fun t k => XS.aload X11.here hx rfl (hb hby at_81) rfl rfl k) ?_
    obtain ⟨T12, X12, e12, st12⟩ := own_pure (f := 0) (n := 0) (v := (some (.int (4 : Int32)))) (own_callV X11 hx hZ e11 (y := (⟨"com/example/uniform_transactions/uniformtransactions/Isolation", "code", "()I"⟩ : MethodName)) hown (hw _ (List.mem_of_getElem? (i := 28) rfl)) (hw _ (List.mem_of_getElem? (i := 29) rfl)) (hw _ (List.mem_of_getElem? (i := 31) rfl)) (hw _ (List.mem_of_getElem? (i := 30) rfl)) (hw _ (List.mem_of_getElem? (i := 32) rfl)) (hw _ (List.mem_of_getElem? (i := 2) rfl)) (by decide) 0 [] [] (own_code_REPEATABLE_READ l Z a0 hw [] w_DEFAULT w__VALUES w_READ_UNCOMMITTED w_READ_COMMITTED w_REPEATABLE_READ w_SERIALIZABLE k__VALUES h11 (own_F_ext F0 EX11_h0)) (by decide) (by decide) (by decide) (by decide) (E_REPEATABLE_READ.ext EX11_h0) (g := (mkF m 83 #[iv p1, iv (3 : Int32), iv (4 : Int32), rv w_REPEATABLE_READ, rv w_REPEATABLE_READ] [(.ref w_REPEATABLE_READ)])) rfl (by rw [hml]; rfl) (lenOf pd_2 rfl) rfl (by show 2 * 0 + _ ≤ _; exact Nat.le_of_eq rfl) (hb hby at_83))
    refine own_pre (T' := T12) (f' := (mkF m 86 #[iv p1, iv (3 : Int32), iv (4 : Int32), rv w_REPEATABLE_READ, rv w_REPEATABLE_READ] [(.int (4 : Int32))])) (fun t k => st12 t k) ?_
    refine own_pre (T' := T12) (f' := (mkF m 87 #[iv p1, iv (3 : Int32), iv (4 : Int32), rv w_REPEATABLE_READ, rv w_REPEATABLE_READ] [(.int (4 : Int32)), (.int (4 : Int32))])) (fun t k => XS.iloadN X12.here hx rfl (hb hby at_86) rfl k) ?_
    refine own_pre (T' := T12) (f' := (mkF m 90 #[iv p1, iv (3 : Int32), iv (4 : Int32), rv w_REPEATABLE_READ, rv w_REPEATABLE_READ] [])) (fun t k => XS.icmpNo X12.here hx rfl (hb hby at_87) rfl (teq (by decide : (4 : Int32) = (4 : Int32))).2 k) ?_
    refine own_pre (T' := T12) (f' := (mkF m 91 #[iv p1, iv (3 : Int32), iv (4 : Int32), rv w_REPEATABLE_READ, rv w_REPEATABLE_READ] [(.int (1 : Int32))])) (fun t k => XS.iconst X12.here hx rfl (hb hby at_90) k) ?_
    refine own_pre (T' := T12) (f' := (mkF m 95 #[iv p1, iv (3 : Int32), iv (4 : Int32), rv w_REPEATABLE_READ, rv w_REPEATABLE_READ] [(.int (1 : Int32))])) (fun t k => XS.goto X12.here hx rfl (pc0 := 91) (pc' := 95) rfl (hb hby at_91) (by decide) (by decide) k) ?_
    exact own_retZ X12 hx hlk hret (hb hby at_95) rfl (⟨rfl, Fr.nil _⟩) (by decide) (by decide)
  · rw [hj]
    refine own_pre (T' := s₁) (f' := (mkF m 7 #[iv p1, iv (4 : Int32), .unset, .unset, .unset] [])) (fun t k => XS.istoreN X0.here hx rfl (hb hby at_6) rfl (l' := #[iv p1, iv (4 : Int32), .unset, .unset, .unset]) rfl k) ?_
    refine own_pre (T' := s₁) (f' := (mkF m 8 #[iv p1, iv (4 : Int32), .unset, .unset, .unset] [(.int (4 : Int32))])) (fun t k => XS.iloadN X0.here hx rfl (hb hby at_7) rfl k) ?_
    refine own_pre (T' := s₁) (f' := (mkF m 20 #[iv p1, iv (4 : Int32), .unset, .unset, .unset] [])) (fun t k => XS.ifYes X0.here hx rfl (pc0 := 8) (pc' := 20) rfl (hb hby at_8) rfl ((if0 _ _).trans (feq (by decide : ¬ ((4 : Int32) = (0 : Int32)))).2) (by decide) (by decide) k) ?_
    refine own_pre (T' := s₁) (f' := (mkF m 21 #[iv p1, iv (4 : Int32), .unset, .unset, .unset] [(.int (4 : Int32))])) (fun t k => XS.iloadN X0.here hx rfl (hb hby at_20) rfl k) ?_
    refine own_pre (T' := s₁) (f' := (mkF m 22 #[iv p1, iv (4 : Int32), .unset, .unset, .unset] [(.int (1 : Int32)), (.int (4 : Int32))])) (fun t k => XS.iconst X0.here hx rfl (hb hby at_21) k) ?_
    refine own_pre (T' := s₁) (f' := (mkF m 34 #[iv p1, iv (4 : Int32), .unset, .unset, .unset] [])) (fun t k => XS.icmpYes X0.here hx rfl (pc0 := 22) (pc' := 34) rfl (hb hby at_22) rfl (feq (by decide : ¬ ((4 : Int32) = (1 : Int32)))).2 (by decide) (by decide) k) ?_
    refine own_pre (T' := s₁) (f' := (mkF m 35 #[iv p1, iv (4 : Int32), .unset, .unset, .unset] [(.int (4 : Int32))])) (fun t k => XS.iloadN X0.here hx rfl (hb hby at_34) rfl k) ?_
    refine own_pre (T' := s₁) (f' := (mkF m 36 #[iv p1, iv (4 : Int32), .unset, .unset, .unset] [(.int (2 : Int32)), (.int (4 : Int32))])) (fun t k => XS.iconst X0.here hx rfl (hb hby at_35) k) ?_
    refine own_pre (T' := s₁) (f' := (mkF m 48 #[iv p1, iv (4 : Int32), .unset, .unset, .unset] [])) (fun t k => XS.icmpYes X0.here hx rfl (pc0 := 36) (pc' := 48) rfl (hb hby at_36) rfl (feq (by decide : ¬ ((4 : Int32) = (2 : Int32)))).2 (by decide) (by decide) k) ?_
    refine own_pre (T' := s₁) (f' := (mkF m 49 #[iv p1, iv (4 : Int32), .unset, .unset, .unset] [(.int (4 : Int32))])) (fun t k => XS.iloadN X0.here hx rfl (hb hby at_48) rfl k) ?_
    refine own_pre (T' := s₁) (f' := (mkF m 50 #[iv p1, iv (4 : Int32), .unset, .unset, .unset] [(.int (3 : Int32)), (.int (4 : Int32))])) (fun t k => XS.iconst X0.here hx rfl (hb hby at_49) k) ?_
    refine own_pre (T' := s₁) (f' := (mkF m 62 #[iv p1, iv (4 : Int32), .unset, .unset, .unset] [])) (fun t k => XS.icmpYes X0.here hx rfl (pc0 := 50) (pc' := 62) rfl (hb hby at_50) rfl (feq (by decide : ¬ ((4 : Int32) = (3 : Int32)))).2 (by decide) (by decide) k) ?_
    refine own_pre (T' := s₁) (f' := (mkF m 64 #[iv p1, iv (4 : Int32), .unset, .unset, .unset] [(.int (8 : Int32))])) (fun t k => XS.bipush X0.here hx rfl (hb hby at_62) k) ?_
    refine own_pre (T' := s₁) (f' := (mkF m 65 #[iv p1, iv (4 : Int32), iv (8 : Int32), .unset, .unset] [])) (fun t k => XS.istoreN X0.here hx rfl (hb hby at_64) rfl (l' := #[iv p1, iv (4 : Int32), iv (8 : Int32), .unset, .unset]) rfl k) ?_
    obtain ⟨T13, X13, e13, st13⟩ := getS2 X0 hx hZ hown (host := "") (Or.inl (hw _ (List.mem_of_getElem? (i := 35) rfl))) Via.refl e0 S_SERIALIZABLE (g := (mkF m 65 #[iv p1, iv (4 : Int32), iv (8 : Int32), .unset, .unset] [])) rfl (hb hby at_65)
    refine own_pre (T' := T13) (f' := (mkF m 68 #[iv p1, iv (4 : Int32), iv (8 : Int32), .unset, .unset] [(.ref w_SERIALIZABLE)])) (fun t k => st13 t k) ?_
    refine own_pre (T' := T13) (f' := (mkF m 69 #[iv p1, iv (4 : Int32), iv (8 : Int32), rv w_SERIALIZABLE, .unset] [])) (fun t k => XS.astoreN X13.here hx rfl (hb hby at_68) rfl rfl (l' := #[iv p1, iv (4 : Int32), iv (8 : Int32), rv w_SERIALIZABLE, .unset]) rfl k) ?_
    refine own_pre (T' := T13) (f' := (mkF m 70 #[iv p1, iv (4 : Int32), iv (8 : Int32), rv w_SERIALIZABLE, .unset] [(.int (8 : Int32))])) (fun t k => XS.iloadN X13.here hx rfl (hb hby at_69) rfl k) ?_
    obtain ⟨T14, h14, X14, e14, E14, A14, st14⟩ := own_grow (R' := own_RC 2 1 5 25) (v := some (.ref w_SERIALIZABLE)) (own_callS X13 hx hZ e13 (y := (⟨"com/example/uniform_transactions/uniformtransactions/Isolation", "fromCode", "(I)Lcom/example/uniform_transactions/uniformtransactions/Isolation;"⟩ : MethodName)) hown (hw _ (List.mem_of_getElem? (i := 4) rfl)) (hw _ (List.mem_of_getElem? (i := 5) rfl)) (hw _ (List.mem_of_getElem? (i := 6) rfl)) (hw _ (List.mem_of_getElem? (i := 2) rfl)) (by decide) 0 [(.int (8 : Int32))] [] (own_fc_8 l Z a0 hw [] w_DEFAULT w__VALUES w_READ_UNCOMMITTED w_READ_COMMITTED w_REPEATABLE_READ w_SERIALIZABLE k__VALUES h0 F0) (by decide) (by decide) (by decide) (by decide) (g := (mkF m 70 #[iv p1, iv (4 : Int32), iv (8 : Int32), rv w_SERIALIZABLE, .unset] [(.int (8 : Int32))])) rfl (by rw [hml]; rfl) (lenOf pd_1 rfl) rfl (by show 2 * 0 + _ ≤ _; exact Nat.le_of_eq rfl) (hb hby at_70))
    have EX14_h0 : Ext h0 h14 := E14
    refine own_pre (T' := T14) (f' := (mkF m 73 #[iv p1, iv (4 : Int32), iv (8 : Int32), rv w_SERIALIZABLE, .unset] [(.ref w_SERIALIZABLE)])) (fun t k => st14 t k) ?_
    refine own_pre (T' := T14) (f' := (mkF m 75 #[iv p1, iv (4 : Int32), iv (8 : Int32), rv w_SERIALIZABLE, rv w_SERIALIZABLE] [])) (fun t k => XS.astore X14.here hx rfl (hb hby at_73) rfl rfl (l' := #[iv p1, iv (4 : Int32), iv (8 : Int32), rv w_SERIALIZABLE, rv w_SERIALIZABLE]) rfl k) ?_
    refine own_pre (T' := T14) (f' := (mkF m 77 #[iv p1, iv (4 : Int32), iv (8 : Int32), rv w_SERIALIZABLE, rv w_SERIALIZABLE] [(.ref w_SERIALIZABLE)])) (fun t k => XS.aload X14.here hx rfl (hb hby at_75) rfl rfl k) ?_
    refine own_pre (T' := T14) (f' := (mkF m 78 #[iv p1, iv (4 : Int32), iv (8 : Int32), rv w_SERIALIZABLE, rv w_SERIALIZABLE] [(.ref w_SERIALIZABLE), (.ref w_SERIALIZABLE)])) (fun t k => XS.aloadN X14.here hx rfl (hb hby at_77) rfl rfl k) ?_
    refine own_pre (T' := T14) (f' := (mkF m 81 #[iv p1, iv (4 : Int32), iv (8 : Int32), rv w_SERIALIZABLE, rv w_SERIALIZABLE] [])) (fun t k => Jvm.RoadKit.acmp (g := (mkF m 78 #[iv p1, iv (4 : Int32), iv (8 : Int32), rv w_SERIALIZABLE, rv w_SERIALIZABLE] [(.ref w_SERIALIZABLE), (.ref w_SERIALIZABLE)])) X14 hx rfl rfl rfl (pc0 := 78) (pc' := 81) (same := true) rfl (hb hby at_78) rfl (decide_eq_true rfl) (by decide) (by decide) k) ?_
    refine own_pre (T' := T14) (f' := (mkF m 83 #[iv p1, iv (4 : Int32), iv (8 : Int32), rv w_SERIALIZABLE, rv w_SERIALIZABLE] [(.ref w_SERIALIZABLE)])) (fun t k => XS.aload X14.here hx rfl (hb hby at_81) rfl rfl k) ?_
    obtain ⟨T15, X15, e15, st15⟩ := own_pure (f := 0) (n := 0) (v := (some (.int (8 : Int32)))) (own_callV X14 hx hZ e14 (y := (⟨"com/example/uniform_transactions/uniformtransactions/Isolation", "code", "()I"⟩ : MethodName)) hown (hw _ (List.mem_of_getElem? (i := 28) rfl)) (hw _ (List.mem_of_getElem? (i := 29) rfl)) (hw _ (List.mem_of_getElem? (i := 31) rfl)) (hw _ (List.mem_of_getElem? (i := 30) rfl)) (hw _ (List.mem_of_getElem? (i := 32) rfl)) (hw _ (List.mem_of_getElem? (i := 2) rfl)) (by decide) 0 [] [] (own_code_SERIALIZABLE l Z a0 hw [] w_DEFAULT w__VALUES w_READ_UNCOMMITTED w_READ_COMMITTED w_REPEATABLE_READ w_SERIALIZABLE k__VALUES h14 (own_F_ext F0 EX14_h0)) (by decide) (by decide) (by decide) (by decide) (E_SERIALIZABLE.ext EX14_h0) (g := (mkF m 83 #[iv p1, iv (4 : Int32), iv (8 : Int32), rv w_SERIALIZABLE, rv w_SERIALIZABLE] [(.ref w_SERIALIZABLE)])) rfl (by rw [hml]; rfl) (lenOf pd_2 rfl) rfl (by show 2 * 0 + _ ≤ _; exact Nat.le_of_eq rfl) (hb hby at_83))
    refine own_pre (T' := T15) (f' := (mkF m 86 #[iv p1, iv (4 : Int32), iv (8 : Int32), rv w_SERIALIZABLE, rv w_SERIALIZABLE] [(.int (8 : Int32))])) (fun t k => st15 t k) ?_
    refine own_pre (T' := T15) (f' := (mkF m 87 #[iv p1, iv (4 : Int32), iv (8 : Int32), rv w_SERIALIZABLE, rv w_SERIALIZABLE] [(.int (8 : Int32)), (.int (8 : Int32))])) (fun t k => XS.iloadN X15.here hx rfl (hb hby at_86) rfl k) ?_
    refine own_pre (T' := T15) (f' := (mkF m 90 #[iv p1, iv (4 : Int32), iv (8 : Int32), rv w_SERIALIZABLE, rv w_SERIALIZABLE] [])) (fun t k => XS.icmpNo X15.here hx rfl (hb hby at_87) rfl (teq (by decide : (8 : Int32) = (8 : Int32))).2 k) ?_
    refine own_pre (T' := T15) (f' := (mkF m 91 #[iv p1, iv (4 : Int32), iv (8 : Int32), rv w_SERIALIZABLE, rv w_SERIALIZABLE] [(.int (1 : Int32))])) (fun t k => XS.iconst X15.here hx rfl (hb hby at_90) k) ?_
    refine own_pre (T' := T15) (f' := (mkF m 95 #[iv p1, iv (4 : Int32), iv (8 : Int32), rv w_SERIALIZABLE, rv w_SERIALIZABLE] [(.int (1 : Int32))])) (fun t k => XS.goto X15.here hx rfl (pc0 := 91) (pc' := 95) rfl (hb hby at_91) (by decide) (by decide) k) ?_
    exact own_retZ X15 hx hlk hret (hb hby at_95) rfl (⟨rfl, Fr.nil _⟩) (by decide) (by decide)
set_option maxRecDepth 65536 in
set_option maxHeartbeats 40000000 in
theorem comes_1 {Post : Tables → Env → Array Value → State → Outcome → State → Prop} (hpost : ∀ tb e args s v u, (limb_1_1.after args s (.returned v) u = true ∧ limb_1_2.after args s (.returned v) u = true ∧ True) → FrameEnd s (.returned v) u (Jvm.fieldLocs frame_1_writes args s ++ Jvm.arrayLocs frame_1_arrays args s ++ Jvm.staticLocs frame_1_statics s) 16 128 → Post tb e args s (.returned v) u) :
    ArmFor flags0 classFile x code maxLocals ret World_1 tables_1 room_1 Calls_1 rest_1 Pre_1 Post := by
  intro l hfl _ _ p e ha hc hk s m args below hf hA hF happ hP
  obtain ⟨hcalls, hrest, hpre⟩ := hP
  obtain ⟨-, -, -, hnamed, -, -, -, hat⟩ := (Spec.applies_iff hf).mp happ
  obtain ⟨hg, hn⟩ := and_e (Cond.before_iff.mp (show (Jvm.Cond.and given_1 narrow_1).before args s = true from hpre))
  obtain ⟨gv0, gr0⟩ := and_e hg
  obtain ⟨w0, rfl⟩ : ∃ w0 : Value, args = #[w0] := by
    have hs : args.size = 1 := by simpa [Cond.value, given_1] using gv0
    obtain ⟨L⟩ := args
    match L, hs with
    | [w0], _ => exact ⟨w0, rfl⟩
  have hw := fun d (hd : d ∈ tables_1) => atoms_spec (ws := Jvm.Cond.code x code maxLocals ret :: tables_1) hat d (List.mem_cons_of_mem _ hd)
  have hfit : Fit s := fun {y c} hc i hi => by
    obtain ⟨ha, rfl⟩ := Array.getElem?_eq_some_iff.mp hc
    have q := List.all_eq_true.mp ((Array.all_eq_true_iff_forall_mem.mp hF) _ (Array.getElem_mem ha)) i (List.mem_range.mpr hi)
    simpa [Array.getElem?_eq_getElem hi] using q
  obtain ⟨i0, ei0⟩ := is_v gr0
  obtain rfl : w0 = (.int i0) := Option.some.inj ei0
  obtain ⟨nw0, nr0⟩ := and_e hn
  obtain ⟨nw1, nr1⟩ := and_e nr0
  obtain ⟨nw2, nr2⟩ := and_e nr1
  obtain ⟨nw3, nr3⟩ := and_e nr2
  obtain ⟨nw4, nr4⟩ := and_e nr3
  obtain ⟨nw5, nr5⟩ := and_e nr4
  obtain ⟨nw6, nr6⟩ := and_e nr5
  obtain ⟨nw7, nr7⟩ := and_e nr6
  obtain ⟨nw8, nr8⟩ := and_e nr7
  obtain ⟨nw9, nr9⟩ := and_e nr8
  obtain ⟨nw10, nr10⟩ := and_e nr9
  obtain ⟨nw11, nr11⟩ := and_e nr10
  obtain ⟨nw12, nr12⟩ := and_e nr11
  obtain ⟨nw13, nr13⟩ := and_e nr12
  obtain ⟨nw14, nr14⟩ := and_e nr13
  obtain ⟨nw15, nr15⟩ := and_e nr14
  obtain ⟨nw16, nr16⟩ := and_e nr15
  obtain ⟨w_DEFAULT, ev_DEFAULT⟩ := exa_v nw0
  obtain ⟨w__VALUES, ev__VALUES⟩ := exa_v nw2
  obtain ⟨w_READ_UNCOMMITTED, ev_READ_UNCOMMITTED⟩ := exa_v nw5
  obtain ⟨w_READ_COMMITTED, ev_READ_COMMITTED⟩ := exa_v nw7
  obtain ⟨w_REPEATABLE_READ, ev_REPEATABLE_READ⟩ := exa_v nw9
  obtain ⟨w_SERIALIZABLE, ev_SERIALIZABLE⟩ := exa_v nw11
  obtain ⟨cl__VALUES, A__VALUES⟩ := Arr.start ev__VALUES nw1
  have L__VALUES := own_arrlen A__VALUES ev__VALUES (own_eqI nw3)
  have F : own_F s s.heap w_DEFAULT w__VALUES w_READ_UNCOMMITTED w_READ_COMMITTED w_REPEATABLE_READ w_SERIALIZABLE (cl__VALUES.cls) := ⟨Sta.start ev_DEFAULT (Or.inr ⟨(hw _ (List.mem_of_getElem? (i := 2) rfl)), (hw _ (List.mem_of_getElem? (i := 3) rfl))⟩), Exa.start ev_DEFAULT nw0, Sta.start ev__VALUES (Or.inr ⟨(hw _ (List.mem_of_getElem? (i := 2) rfl)), (hw _ (List.mem_of_getElem? (i := 11) rfl))⟩), Exa.start ev__VALUES nw2, Sta.start ev_READ_UNCOMMITTED (Or.inr ⟨(hw _ (List.mem_of_getElem? (i := 2) rfl)), (hw _ (List.mem_of_getElem? (i := 19) rfl))⟩), Exa.start ev_READ_UNCOMMITTED nw5, Sta.start ev_READ_COMMITTED (Or.inr ⟨(hw _ (List.mem_of_getElem? (i := 2) rfl)), (hw _ (List.mem_of_getElem? (i := 20) rfl))⟩), Exa.start ev_READ_COMMITTED nw7, Sta.start ev_REPEATABLE_READ (Or.inr ⟨(hw _ (List.mem_of_getElem? (i := 2) rfl)), (hw _ (List.mem_of_getElem? (i := 21) rfl))⟩), Exa.start ev_REPEATABLE_READ nw9, Sta.start ev_SERIALIZABLE (Or.inr ⟨(hw _ (List.mem_of_getElem? (i := 2) rfl)), (hw _ (List.mem_of_getElem? (i := 22) rfl))⟩), Exa.start ev_SERIALIZABLE nw11, Fld.start ((fld_at ev_DEFAULT).symm.trans (own_eqI nw13)), Fld.start ((fld_at ev_READ_UNCOMMITTED).symm.trans (own_eqI nw14)), Fld.start ((fld_at ev_READ_COMMITTED).symm.trans (own_eqI nw15)), Fld.start ((fld_at ev_REPEATABLE_READ).symm.trans (own_eqI nw16)), Fld.start ((fld_at ev_SERIALIZABLE).symm.trans (own_eqI nr16)), Arv.start hfit A__VALUES L__VALUES.1 L__VALUES.2 (by decide) rfl ⟨(elem_in (own_eqR nw4 ev_DEFAULT) ev__VALUES (Term.int_eval _) A__VALUES.1).2, (elem_in (own_eqR nw6 ev_READ_UNCOMMITTED) ev__VALUES (Term.int_eval _) A__VALUES.1).2, (elem_in (own_eqR nw8 ev_READ_COMMITTED) ev__VALUES (Term.int_eval _) A__VALUES.1).2, (elem_in (own_eqR nw10 ev_REPEATABLE_READ) ev__VALUES (Term.int_eval _) A__VALUES.1).2, (elem_in (own_eqR nw12 ev_SERIALIZABLE) ev__VALUES (Term.int_eval _) A__VALUES.1).2, trivial⟩⟩
  obtain ⟨n, o, h1, h2, h3, _, L, rfl, ⟨rfl, N⟩, hq⟩ := own_law l s _ hw tables_1 w_DEFAULT w__VALUES w_READ_UNCOMMITTED w_READ_COMMITTED w_REPEATABLE_READ w_SERIALIZABLE (cl__VALUES.cls) s.heap F i0  p e ha hc hk s m _ below hf ((Spec.applies_iff_loose hf).mp happ).1 ⟨rfl, State.Warmed39.refl s, rfl⟩ trivial
  refine ⟨n, _, h1, h2, h3, hpost _ _ _ _ _ _ ⟨Cond.after_iff.mpr rfl, Cond.after_iff.mpr (eq_i res_at (Term.int_eval (1)) rfl), trivial⟩ ⟨hq.1, hq.2.1, (hq.2.2.sift fun y hy => Or.inr (N y hy)).mono (by decide) (by decide)⟩⟩
theorem main_1_1 : Claimed_1_1 := comes_1 fun _ _ _ _ _ _ h hF => ⟨h.1, hF⟩
theorem main_1_2 : Claimed_1_2 := comes_1 fun _ _ _ _ _ _ h hF => ⟨h.2.1, hF⟩
end Jvm.Pilot.@@N@@
namespace Jvm.Pilot.@@N@@
open Jvm Jvm.ClassFile Sem Op Lib Jvm.Free Jvm.Stand Jvm.Pilot.@@N@@.Jvm.D
/-! MADE BY PROGRAM (witnessworld.py) out of the Statement's table words and the real class files: 11 classes; the members and pool entries that the words name. The judged class is class 1, her method 1. -/
namespace start1
open Jvm.ClassFile
def u (s : String) : CpInfo := .utf8 (stringToUtf16 s)
/-- a pool by its gaps: so many unusable entries, then the entry; so many at the end -/
def gap : Nat → List CpInfo → List CpInfo
  | 0, r => r
  | n + 1, r => .unusable :: gap n r
def poolList (es : List (Nat × CpInfo)) (last : Nat) : List CpInfo := es.foldr (fun e r => gap e.1 (e.2 :: r)) (gap last [])
def pool (es : List (Nat × CpInfo)) (last : Nat) : Array CpInfo := ⟨poolList es last⟩
def fileOf (pool : Array CpInfo) (this : Nat) (attrs : Array Attribute := #[]) (ms : Array MethodInfo := #[]) (fl : Nat := 33) (sup : Nat := 0) (ifs : Array Nat := #[]) (fds : Array FieldInfo := #[]) : ClassFile where
  minorVersion := 0
  majorVersion := 65
  constantPool := pool
  accessFlags := fl
  thisClass := this
  superClass := sup
  interfaces := ifs
  fields := fds
  methods := ms
  attributes := attrs
def plain (name : String) (sup : Option ClassId) : Class where
  name := name
  kind := .ordinary
  loader := none
  accessFlags := 33
  super := sup
  interfaces := #[]
  cf := none
  fields := #[]
  methods := #[]
  instanceTypes := #[]
  staticTypes := #[]
  resolved := #[]
  callSites := []
  init := .initialized
  statics := none
  mirror := none

def pool0 : Array CpInfo := pool [(5, u "<init>"), (0, u "()V"), (1, .class_ 10), (1, u "java/lang/Object"), (85, u "clone"), (0, u "()Ljava/lang/Object;")] 26

def k0m0 : Method := { name := "<init>", desc := "()V", sig := { parameters := [], returnType := none }, accessFlags := 1, code := none }
def k0m1 : Method := { name := "clone", desc := "()Ljava/lang/Object;", sig := { parameters := [], returnType := some (.object "java/lang/Object") }, accessFlags := 260, code := none }
/-- java/lang/Object -/
def k0 : Class := { plain "java/lang/Object" none with
  accessFlags := 33
  interfaces := #[]
  cf := some (fileOf pool0 8 #[] #[{ accessFlags := 1, nameIndex := 5, descriptorIndex := 6, attributes := #[] }, { accessFlags := 260, nameIndex := 96, descriptorIndex := 97, attributes := #[] }] 33 0 #[] #[])
  fields := #[]
  methods := #[k0m0, k0m1]
  instanceTypes := #[]
  staticTypes := #[]
  resolved := Array.replicate 124 none
  statics := none }

def pool1 : Array CpInfo := pool [(2, .class_ 4), (1, u "java/lang/Object"), (0, u "<init>"), (0, u "()V"), (0, .integer 2147483647), (0, .fieldref 9 10), (0, .class_ 11), (0, .nameAndType 12 13), (0, u "com/example/uniform_transactions/uniformtransactions/Isolation"), (0, u "DEFAULT"), (0, u "Lcom/example/uniform_transactions/uniformtransactions/Isolation;"), (0, .fieldref 9 15), (0, .nameAndType 16 13), (0, u "READ_UNCOMMITTED"), (0, .fieldref 9 18), (0, .nameAndType 19 13), (0, u "READ_COMMITTED"), (0, .fieldref 9 21), (0, .nameAndType 22 13), (0, u "REPEATABLE_READ"), (0, .fieldref 9 24), (0, .nameAndType 25 13), (0, u "SERIALIZABLE"), (0, .methodref 9 27), (0, .nameAndType 28 29), (0, u "fromCode"), (0, u "(I)Lcom/example/uniform_transactions/uniformtransactions/Isolation;"), (0, .methodref 9 31), (0, .nameAndType 32 33), (0, u "code"), (0, u "()I"), (0, .class_ 35), (0, u "com/example/uniform_transactions/uniformtransactions/IsolationFromCodePinLaw"), (2, u "law"), (0, u "(I)Z")] 3

def k1m0 : Method := { name := "<init>", desc := "()V", sig := { parameters := [], returnType := none }, accessFlags := 1, code := none }
def k1c1 : Code := { maxStack := 2, maxLocals := 5, code := code, exceptionTable := #[], attributes := #[] }
def k1m1 : Method := { name := "law", desc := "(I)Z", sig := { parameters := [.int], returnType := some .boolean }, accessFlags := 9, code := some k1c1 }
/-- com/example/uniform_transactions/uniformtransactions/IsolationFromCodePinLaw -/
def k1 : Class := { plain "com/example/uniform_transactions/uniformtransactions/IsolationFromCodePinLaw" (some 0) with
  accessFlags := 49
  interfaces := #[]
  cf := some (fileOf pool1 34 #[] #[{ accessFlags := 1, nameIndex := 5, descriptorIndex := 6, attributes := #[] }, { accessFlags := 9, nameIndex := 38, descriptorIndex := 39, attributes := #[] }] 49 2 #[] #[])
  fields := #[]
  methods := #[k1m0, k1m1]
  instanceTypes := #[]
  staticTypes := #[]
  resolved := Array.replicate 43 none
  statics := none }

def pool2 : Array CpInfo := pool [(1, .class_ 2), (0, u "java/lang/constant/Constable"), (0, .class_ 4), (0, u "java/lang/Object")] 6

/-- java/lang/constant/Constable -/
def k2 : Class := { plain "java/lang/constant/Constable" (some 0) with
  accessFlags := 1537
  interfaces := #[]
  cf := some (fileOf pool2 1 #[] #[] 1537 3 #[] #[])
  fields := #[]
  methods := #[]
  instanceTypes := #[]
  staticTypes := #[]
  resolved := Array.replicate 11 none
  statics := none }

def pool3 : Array CpInfo := pool [(1, .class_ 2), (0, u "java/lang/Comparable"), (0, .class_ 4), (0, u "java/lang/Object")] 7

/-- java/lang/Comparable -/
def k3 : Class := { plain "java/lang/Comparable" (some 0) with
  accessFlags := 1537
  interfaces := #[]
  cf := some (fileOf pool3 1 #[] #[] 1537 3 #[] #[])
  fields := #[]
  methods := #[]
  instanceTypes := #[]
  staticTypes := #[]
  resolved := Array.replicate 12 none
  statics := none }

def pool4 : Array CpInfo := pool [(1, .class_ 2), (0, u "java/io/Serializable"), (0, .class_ 4), (0, u "java/lang/Object")] 2

/-- java/io/Serializable -/
def k4 : Class := { plain "java/io/Serializable" (some 0) with
  accessFlags := 1537
  interfaces := #[]
  cf := some (fileOf pool4 1 #[] #[] 1537 3 #[] #[])
  fields := #[]
  methods := #[]
  instanceTypes := #[]
  staticTypes := #[]
  resolved := Array.replicate 7 none
  statics := none }

def pool5 : Array CpInfo := pool [(2, .class_ 4), (1, u "java/lang/Enum"), (0, u "name"), (0, u "Ljava/lang/String;"), (2, u "ordinal"), (0, u "I"), (1, .class_ 14), (1, u "java/lang/Object"), (4, u "hash"), (86, .class_ 108), (1, u "java/lang/Enum$EnumDesc"), (2, .class_ 112), (0, u "java/lang/constant/Constable"), (0, .class_ 114), (0, u "java/lang/Comparable"), (0, .class_ 116), (0, u "java/io/Serializable")] 87

/-- java/lang/Enum -/
def k5 : Class := { plain "java/lang/Enum" (some 0) with
  accessFlags := 1057
  interfaces := #[2, 3, 4]
  cf := some (fileOf pool5 2 #[.nestMembers #[106]] #[] 1057 12 #[111, 113, 115] #[{ accessFlags := 18, nameIndex := 5, descriptorIndex := 6, attributes := #[] }, { accessFlags := 18, nameIndex := 9, descriptorIndex := 10, attributes := #[] }, { accessFlags := 2, nameIndex := 19, descriptorIndex := 10, attributes := #[] }])
  fields := #[{ name := "name", type := (.object "java/lang/String"), accessFlags := 18, slot := 0, constantValue := 0 }, { name := "ordinal", type := .int, accessFlags := 18, slot := 1, constantValue := 0 }, { name := "hash", type := .int, accessFlags := 2, slot := 2, constantValue := 0 }]
  methods := #[]
  instanceTypes := #[(.object "java/lang/String"), .int, .int]
  staticTypes := #[]
  resolved := Array.replicate 204 none
  statics := none }

def pool6 : Array CpInfo := pool [(1, .class_ 2), (0, u "com/example/uniform_transactions/uniformtransactions/Isolation"), (2, u "DEFAULT"), (0, u "Lcom/example/uniform_transactions/uniformtransactions/Isolation;"), (2, u "READ_UNCOMMITTED"), (2, u "READ_COMMITTED"), (2, u "REPEATABLE_READ"), (2, u "SERIALIZABLE"), (0, .fieldref 1 20), (0, .nameAndType 21 22), (0, u "$VALUES"), (0, u "[Lcom/example/uniform_transactions/uniformtransactions/Isolation;"), (0, .methodref 24 25), (0, .class_ 22), (0, .nameAndType 26 27), (0, u "clone"), (0, u "()Ljava/lang/Object;"), (1, .class_ 31), (1, u "java/lang/Enum"), (6, .fieldref 1 39), (0, .nameAndType 40 41), (0, u "code"), (0, u "I"), (0, .methodref 1 43), (0, .nameAndType 44 45), (0, u "values"), (0, u "()[Lcom/example/uniform_transactions/uniformtransactions/Isolation;"), (26, u "()I"), (0, u "fromCode"), (0, u "(I)Lcom/example/uniform_transactions/uniformtransactions/Isolation;")] 21

def k6c0 : Code := { maxStack := 1, maxLocals := 0, code := prog_8_method_1_code, exceptionTable := #[], attributes := #[] }
def k6m0 : Method := { name := "values", desc := "()[Lcom/example/uniform_transactions/uniformtransactions/Isolation;", sig := { parameters := [], returnType := some (.array (.object "com/example/uniform_transactions/uniformtransactions/Isolation")) }, accessFlags := 9, code := some k6c0 }
def k6c1 : Code := { maxStack := 1, maxLocals := 1, code := prog_8_method_4_code, exceptionTable := #[], attributes := #[] }
def k6m1 : Method := { name := "code", desc := "()I", sig := { parameters := [], returnType := some .int }, accessFlags := 1, code := some k6c1 }
def k6c2 : Code := { maxStack := 3, maxLocals := 5, code := prog_8_method_5_code, exceptionTable := #[], attributes := #[] }
def k6m2 : Method := { name := "fromCode", desc := "(I)Lcom/example/uniform_transactions/uniformtransactions/Isolation;", sig := { parameters := [.int], returnType := some (.object "com/example/uniform_transactions/uniformtransactions/Isolation") }, accessFlags := 9, code := some k6c2 }
/-- com/example/uniform_transactions/uniformtransactions/Isolation -/
def k6 : Class := { plain "com/example/uniform_transactions/uniformtransactions/Isolation" (some 5) with
  accessFlags := 16433
  interfaces := #[]
  cf := some (fileOf pool6 1 #[] #[{ accessFlags := 9, nameIndex := 44, descriptorIndex := 45, attributes := #[] }, { accessFlags := 1, nameIndex := 40, descriptorIndex := 72, attributes := #[] }, { accessFlags := 9, nameIndex := 73, descriptorIndex := 74, attributes := #[] }] 16433 29 #[] #[{ accessFlags := 16409, nameIndex := 5, descriptorIndex := 6, attributes := #[] }, { accessFlags := 16409, nameIndex := 9, descriptorIndex := 6, attributes := #[] }, { accessFlags := 16409, nameIndex := 12, descriptorIndex := 6, attributes := #[] }, { accessFlags := 16409, nameIndex := 15, descriptorIndex := 6, attributes := #[] }, { accessFlags := 16409, nameIndex := 18, descriptorIndex := 6, attributes := #[] }, { accessFlags := 18, nameIndex := 40, descriptorIndex := 41, attributes := #[] }, { accessFlags := 4122, nameIndex := 21, descriptorIndex := 22, attributes := #[] }])
  fields := #[{ name := "DEFAULT", type := (.object "com/example/uniform_transactions/uniformtransactions/Isolation"), accessFlags := 16409, slot := 0, constantValue := 0 }, { name := "READ_UNCOMMITTED", type := (.object "com/example/uniform_transactions/uniformtransactions/Isolation"), accessFlags := 16409, slot := 1, constantValue := 0 }, { name := "READ_COMMITTED", type := (.object "com/example/uniform_transactions/uniformtransactions/Isolation"), accessFlags := 16409, slot := 2, constantValue := 0 }, { name := "REPEATABLE_READ", type := (.object "com/example/uniform_transactions/uniformtransactions/Isolation"), accessFlags := 16409, slot := 3, constantValue := 0 }, { name := "SERIALIZABLE", type := (.object "com/example/uniform_transactions/uniformtransactions/Isolation"), accessFlags := 16409, slot := 4, constantValue := 0 }, { name := "code", type := .int, accessFlags := 18, slot := 3, constantValue := 0 }, { name := "$VALUES", type := (.array (.object "com/example/uniform_transactions/uniformtransactions/Isolation")), accessFlags := 4122, slot := 5, constantValue := 0 }]
  methods := #[k6m0, k6m1, k6m2]
  instanceTypes := #[(.object "java/lang/String"), .int, .int, .int]
  staticTypes := #[(.object "com/example/uniform_transactions/uniformtransactions/Isolation"), (.object "com/example/uniform_transactions/uniformtransactions/Isolation"), (.object "com/example/uniform_transactions/uniformtransactions/Isolation"), (.object "com/example/uniform_transactions/uniformtransactions/Isolation"), (.object "com/example/uniform_transactions/uniformtransactions/Isolation"), (.array (.object "com/example/uniform_transactions/uniformtransactions/Isolation"))]
  resolved := Array.replicate 96 none
  statics := some 0 }

def pool7 : Array CpInfo := pool [(1, .class_ 2), (0, u "java/lang/Cloneable"), (0, .class_ 4), (0, u "java/lang/Object")] 2

/-- java/lang/Cloneable -/
def k7 : Class := { plain "java/lang/Cloneable" (some 0) with
  accessFlags := 1537
  interfaces := #[]
  cf := some (fileOf pool7 1 #[] #[] 1537 3 #[] #[])
  fields := #[]
  methods := #[]
  instanceTypes := #[]
  staticTypes := #[]
  resolved := Array.replicate 7 none
  statics := none }

/-- the primitive byte -/
def k8 : Class := { plain "byte" none with kind := .primitive 'B', accessFlags := 0x411 }
/-- [B -/
def k9 : Class := { plain "[B" (some 0) with kind := .array 8 .byte, interfaces := #[7, 4], accessFlags := 1041 }

/-- [Lcom/example/uniform_transactions/uniformtransactions/Isolation; -/
def k10 : Class := { plain "[Lcom/example/uniform_transactions/uniformtransactions/Isolation;" (some 0) with kind := .array 6 (.object "com/example/uniform_transactions/uniformtransactions/Isolation"), interfaces := #[7, 4], accessFlags := 1041 }

def heap : Heap := #[{ cls := 6, slots := #[.ref 2, .ref 3, .ref 4, .ref 5, .ref 6, .ref 1], vm := .statics 6 },
  { cls := 10, slots := #[.ref 2, .ref 3, .ref 4, .ref 5, .ref 6], vm := .none },
  { cls := 6, slots := #[.null, .int 0, .int 0, .int (-1)], vm := .none },
  { cls := 6, slots := #[.null, .int 0, .int 0, .int 1], vm := .none },
  { cls := 6, slots := #[.null, .int 0, .int 0, .int 2], vm := .none },
  { cls := 6, slots := #[.null, .int 0, .int 0, .int 4], vm := .none },
  { cls := 6, slots := #[.null, .int 0, .int 0, .int 8], vm := .none }]
def classes : Array Class := #[k0, k1, k2, k3, k4, k5, k6, k7, k8, k9, k10]
def interned : List (Array UInt16 × Addr) := []
def slotsUsed : Nat := 31
def theMethod : MethodId := ⟨1, 1⟩
def args0 : Array Value := #[.int 5]
def aboutOver (below : List Frame) : State where
  vm := { classes := classes, interned := interned.toArray }
  heap := heap
  slotsUsed := slotsUsed
  threads := #[{ frames := .invoking theMethod args0 :: below }]
def below0 : List Frame := [.native { method := ⟨0, 0⟩, args := #[] }]
def about1 : State := aboutOver below0
def p0 : Program := .bare "" "" ""
def e0 : Env := launch0.env 0 0 0
theorem w_frames : about1.frames = Frame.invoking theMethod args0 :: below0 := rfl
set_option maxRecDepth 65536 in
theorem w_args : argsFit about1.vm theMethod args0 = true := by decide +kernel
set_option maxRecDepth 65536 in
theorem w_heap : heapFits about1 = true := by decide +kernel
set_option maxRecDepth 65536 in
theorem w_runnable : about1.curStatus? = some .runnable := by decide +kernel
set_option maxRecDepth 65536 in
theorem w_alone : about1.alone = true := by decide +kernel
set_option maxRecDepth 65536 in
theorem w_named : about1.methodNamed? x = some theMethod := by decide +kernel
set_option maxRecDepth 65536 in
theorem w_hears : about1.hears theMethod below0 = true := by decide +kernel
set_option maxRecDepth 65536 in
theorem w_ripe : about1.ripe theMethod args0 below0 = true := by decide +kernel
theorem w_running : about1.status = .running := rfl
set_option maxRecDepth 65536 in
theorem w_room : about1.hasRoom e0.platform room_1 = true :=
  launch0.hasRoom_least _ room_1 (by decide +kernel) (by decide +kernel) (by decide +kernel) (by decide +kernel) (by decide +kernel) (by decide +kernel)
theorem allAtoms_all (ts : List Jvm.Cond) (a : Array Jvm.Value) (st : Jvm.State) : (allAtoms ts).before a st = ts.all (fun c => c.before a st) := by
  induction ts with
  | nil => rfl
  | cons c t ih =>
    show (Jvm.Cond.and c (allAtoms t)).before a st = _
    rw [Jvm.Cond.before_and, ih, List.all_cons]
def words1 : List Jvm.Cond := Jvm.Cond.code x code maxLocals ret :: tables_1
/-- a 'code' word, met by the world's own term for the bytes: nothing is compared byte by byte -/
theorem code_word {y : MethodName} {bytes : ByteArray} {mx : Nat} {rt : Option FieldType} {a : Array Value} {s : State} {m : MethodId} {meth : Method} {c : Code} (h1 : s.methodNamed? y = some m) (h2 : s.vm.method? m = some meth) (h3 : meth.code = some c) (h4 : c.code = bytes)
    (h5 : (c.maxLocals == mx && c.exceptionTable.isEmpty && decide (c.maxStack ≤ mostOperands) && decide (meth.sig.returnType = rt) && !meth.locks && decide (parseMethodDescriptor y.desc = some meth.sig)) = true) : (Jvm.Cond.code y bytes mx rt).before a s = true := by
  simp only [Bool.and_eq_true, beq_iff_eq, Bool.not_eq_true', decide_eq_true_eq] at h5
  obtain ⟨⟨⟨⟨⟨g1, g2⟩, g3⟩, g4⟩, g5⟩, g6⟩ := h5
  simp [Cond.before, Cond.holds, Cond.value, h1, h2, h3, h4, g1, g2, g3, g4, g5, g6]
def isCode : Jvm.Cond → Bool
  | .code _ _ _ _ => true
  | _ => false
theorem all_split {L : List Jvm.Cond} {P : Jvm.Cond → Bool} (h1 : L.all (fun c => isCode c || P c) = true) (h2 : ∀ c ∈ L.filter isCode, P c = true) : L.all P = true := by
  refine List.all_eq_true.mpr fun c hc => ?_
  have h := List.all_eq_true.mp h1 c hc
  rcases Bool.eq_false_or_eq_true (isCode c) with hi | hi
  · exact h2 c (List.mem_filter.mpr ⟨hc, hi⟩)
  · simpa [hi] using h
set_option maxRecDepth 65536 in
theorem w_c0 : (Jvm.Cond.code x code maxLocals ret).before args0 about1 = true := code_word (m := ⟨1, 1⟩) (meth := k1m1) (c := k1c1) (by decide +kernel) rfl rfl rfl (by decide +kernel)
set_option maxRecDepth 65536 in
theorem w_c1 : (Jvm.Cond.code ({ cls := "com/example/uniform_transactions/uniformtransactions/Isolation", name := "fromCode", desc := "(I)Lcom/example/uniform_transactions/uniformtransactions/Isolation;" } : Jvm.MethodName) prog_8_method_5_code (5 : Nat) (Option.some (Jvm.ClassFile.FieldType.object "com/example/uniform_transactions/uniformtransactions/Isolation"))).before args0 about1 = true := code_word (m := ⟨6, 2⟩) (meth := k6m2) (c := k6c2) (by decide +kernel) rfl rfl rfl (by decide +kernel)
set_option maxRecDepth 65536 in
theorem w_c2 : (Jvm.Cond.code ({ cls := "com/example/uniform_transactions/uniformtransactions/Isolation", name := "values", desc := "()[Lcom/example/uniform_transactions/uniformtransactions/Isolation;" } : Jvm.MethodName) prog_8_method_1_code (0 : Nat) (Option.some (Jvm.ClassFile.FieldType.array (Jvm.ClassFile.FieldType.object "com/example/uniform_transactions/uniformtransactions/Isolation")))).before args0 about1 = true := code_word (m := ⟨6, 0⟩) (meth := k6m0) (c := k6c0) (by decide +kernel) rfl rfl rfl (by decide +kernel)
set_option maxRecDepth 65536 in
theorem w_c3 : (Jvm.Cond.code ({ cls := "com/example/uniform_transactions/uniformtransactions/Isolation", name := "code", desc := "()I" } : Jvm.MethodName) prog_8_method_4_code (1 : Nat) (Option.some Jvm.ClassFile.FieldType.int)).before args0 about1 = true := code_word (m := ⟨6, 1⟩) (meth := k6m1) (c := k6c1) (by decide +kernel) rfl rfl rfl (by decide +kernel)
def codes1 : List Jvm.Cond := [Jvm.Cond.code x code maxLocals ret, Jvm.Cond.code ({ cls := "com/example/uniform_transactions/uniformtransactions/Isolation", name := "fromCode", desc := "(I)Lcom/example/uniform_transactions/uniformtransactions/Isolation;" } : Jvm.MethodName) prog_8_method_5_code (5 : Nat) (Option.some (Jvm.ClassFile.FieldType.object "com/example/uniform_transactions/uniformtransactions/Isolation")), Jvm.Cond.code ({ cls := "com/example/uniform_transactions/uniformtransactions/Isolation", name := "values", desc := "()[Lcom/example/uniform_transactions/uniformtransactions/Isolation;" } : Jvm.MethodName) prog_8_method_1_code (0 : Nat) (Option.some (Jvm.ClassFile.FieldType.array (Jvm.ClassFile.FieldType.object "com/example/uniform_transactions/uniformtransactions/Isolation"))), Jvm.Cond.code ({ cls := "com/example/uniform_transactions/uniformtransactions/Isolation", name := "code", desc := "()I" } : Jvm.MethodName) prog_8_method_4_code (1 : Nat) (Option.some Jvm.ClassFile.FieldType.int)]
set_option maxRecDepth 65536 in
theorem codes_eq : words1.filter isCode = codes1 := rfl
theorem w_codes : ∀ c ∈ words1.filter isCode, c.before args0 about1 = true := by
  rw [codes_eq]
  intro c hc
  simp only [codes1, List.mem_cons, List.not_mem_nil, or_false] at hc
  rcases hc with rfl | rfl | rfl | rfl
  · exact w_c0
  · exact w_c1
  · exact w_c2
  · exact w_c3
set_option maxRecDepth 65536 in
theorem w_t1 : (words1.take 24).all (fun c => isCode c || c.before args0 about1) = true := by decide +kernel
set_option maxRecDepth 65536 in
theorem w_t2 : (words1.drop 24).all (fun c => isCode c || c.before args0 about1) = true := by decide +kernel
theorem w_tables : (allAtoms (Jvm.Cond.code x code maxLocals ret :: tables_1)).before args0 about1 = true := by
  rw [allAtoms_all]
  show words1.all (fun c => c.before args0 about1) = true
  refine all_split ?_ w_codes
  rw [← List.take_append_drop 24 words1, List.all_append, w_t1, w_t2]
  rfl
set_option maxRecDepth 65536 in
theorem w_case : (Jvm.Cond.and given_1 narrow_1).before args0 about1 = true := by decide +kernel
theorem w_applies : (headSpec (Jvm.Cond.code x code maxLocals ret :: tables_1) room_1).applies x e0.platform about1 = true :=
  (Spec.applies_iff w_frames).mpr ⟨w_running, w_runnable, w_alone, w_named, w_hears, w_ripe, w_room, w_tables⟩
theorem atStart : AtStart classFile x code maxLocals ret World_1 tables_1 room_1 Calls_1 rest_1 Pre_1 launch0 p0 e0 about1 theMethod args0 below0 :=
  ⟨lists_1, trivial, launch0.admits_env _ _ _, launch0.least_env, fairChoices_fair.cas, fairChoices_fair.clock, w_frames, w_args, w_heap, w_applies, trivial, trivial, w_case⟩
end start1
theorem witness_1 : WitnessClaimed_1 := ⟨start1.p0, start1.e0, start1.about1, start1.theMethod, start1.args0, start1.below0, start1.atStart⟩
end Jvm.Pilot.@@N@@
