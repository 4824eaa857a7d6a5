import JvmDerived
import JvmDerived.Pilot.@@N@@Statement
import JvmDerived.Pilot.@@N@@Code
set_option linter.unusedVariables false
set_option linter.unusedSimpArgs false
namespace Jvm.Pilot.@@N@@
open Jvm Jvm.ClassFile Sem Op Lib Jvm.Free Jvm.Stand Jvm.LawKit Jvm.RoadKit Bundle Jvm.Pilot.@@N@@.Jvm.D
section OwnKit
variable {p : Program} {l : Launch} {e : Env} {R : Room} {s : State} {m : MethodId} {args : Array Value} {below : List Frame} {meth : Method} {c : Code} {T : State} {locs : List Loc} {cells slots : Nat} {Z : State} {a0 : Array Value} {h : Heap} {Qr : Option Value → Heap → List Loc → Prop}
/-- from this frame on the run ends, and Q holds of the end -/
def own_G (tb : Tables) (e : Env) (below : List Frame) (T : State) (f : JFrame) (Qe : Outcome → State → Prop) : Prop := ∃ s₂ o, Steps tb e below (T.setTop f) s₂ ∧ s₂.status = .running ∧ Ended s₂ below o ∧ Qe o s₂
theorem own_pre {tb : Tables} {T' : State} {f f' : JFrame} {Qe : Outcome → State → Prop} (k1 : ∀ t, Steps tb e below (T'.setTop f') t → Steps tb e below (T.setTop f) t) (k2 : own_G tb e below T' f' Qe) : own_G tb e below T f Qe := by
  obtain ⟨s2, o, h1, h2⟩ := k2
  exact ⟨s2, o, k1 _ h1, h2⟩
/-- the end of a body: it returned v with Qr; the frame -/
abbrev own_P (R : Room) (s : State) (Qr : Option Value → Heap → List Loc → Prop) : Outcome → State → Prop := fun o U' => ∃ v L, o = .returned v ∧ Qr v U'.heap L ∧ FrameEnd s o U' L R.cells R.slots
/-- a body's contract -/
abbrev own_C (l : Launch) (y : MethodName) (code : ByteArray) (ml : Nat) (ret : Option FieldType) (ws : List Jvm.Cond) (R : Room) (as : Array Value) (Z : State) (h0 : Heap) (Qr : Option Value → Heap → List Loc → Prop) : Prop :=
  MetFree l y (head1 (Jvm.Cond.code y code ml ret :: ws) R) (fun a U => a = as ∧ Z.Warmed39 U.vm ∧ U.heap = h0) (fun _ _ _ _ _ => True) (fun _ U o U' => ∃ v L, o = .returned v ∧ Qr v U'.heap L ∧ FrameEnd U o U' L R.cells R.slots)
theorem own_enter {y : MethodName} {code : ByteArray} {ml : Nat} {ret : Option FieldType} {ws : List Jvm.Cond} {as : Array Value} {LS : Array Slot} {h0 : Heap} (hp : plainFor y = true) (hef : ∀ m, entryFrame m as ml = mkF m 0 LS [])
    (body : ∀ (p : Program) (e : Env) (s : State) (m : MethodId) (below : List Frame) (meth : Method) (c : Code) (s₁ : State), p.tables.exec = Jvm.exec → c.code = code → c.maxLocals = ml → s.vm.findClass y.cls = some m.cls → meth.name = y.name → meth.sig.returnType = ret → meth.locks = false → Z.Warmed39 s.vm → Stand p l e R s m as below meth c s₁ [] 0 0 → s₁.heap = h0 → s.heap = h0 → own_G p.tables e below s₁ (mkF m 0 LS []) (own_P R s Qr)) : own_C l y code ml ret ws R as Z h0 Qr := by
  refine MetFree.of_bodySF hp hisR ?_
  intro p e s m args below meth c s₁ Bd hml0 hP hK
  obtain ⟨rfl, hZ, hh⟩ := hP
  have e0 : s₁.heap = h0 := by rw [← hh, Bd.state]; rfl
  obtain ⟨s2, o, h1, h2⟩ := body p e s m below meth c s₁ Bd.exec Bd.bytes hml0 (findClass_of_methodNamed Bd.named) (name_of_methodNamed Bd.named Bd.method).1 Bd.returns Bd.notSynchronized hZ (Stand.of_body Bd) e0 hh
  exact ⟨s2, o, castTop (hef m) h1, h2⟩
theorem own_retZ (X : Stand p l e R s m args below meth c T locs cells slots) (hx : p.tables.exec = Jvm.exec) (hlk : meth.locks = false) {pc : Nat} {Ls : Array Slot} {z z' : Int32} {rest : List Value} (hret : meth.sig.returnType = some .boolean) (hd : decode c.code pc = .ok (.ireturn, 1)) (hz : nar .boolean z = z')
    (hQ : Qr (some (.int z')) T.heap locs) (hc : cells ≤ R.cells) (hs : slots ≤ R.slots) : own_G p.tables e below T (mkF m pc Ls (.int z :: rest)) (own_P R s Qr) := by
  subst hz
  obtain ⟨fs, hr, hrun, hended, hW, hsame⟩ := X.leave (v := some (.int (nar .boolean z))) (fun h => by rw [hret] at h; cases h) hlk
  exact ⟨_, _, retN X hx hret (by simp) hd hr, hrun, hended, _, _, rfl, hQ, ⟨_, rfl⟩, hW, hsame.mono hc hs⟩
theorem own_retI (X : Stand p l e R s m args below meth c T locs cells slots) (hx : p.tables.exec = Jvm.exec) (hlk : meth.locks = false) {pc : Nat} {Ls : Array Slot} {z : Int32} {rest : List Value} (hret : meth.sig.returnType = some .int) (hd : decode c.code pc = .ok (.ireturn, 1))
    (hQ : Qr (some (.int z)) T.heap locs) (hc : cells ≤ R.cells) (hs : slots ≤ R.slots) : own_G p.tables e below T (mkF m pc Ls (.int z :: rest)) (own_P R s Qr) := by
  obtain ⟨fs, hr, hrun, hended, hW, hsame⟩ := X.leave (v := some (.int z)) (fun h => by rw [hret] at h; cases h) hlk
  exact ⟨_, _, retOut X hx hret rfl (Or.inl ⟨rfl, Or.inl rfl, _, rfl⟩) hd hr, hrun, hended, _, _, rfl, hQ, ⟨_, rfl⟩, hW, hsame.mono hc hs⟩
theorem own_retR (X : Stand p l e R s m args below meth c T locs cells slots) (hx : p.tables.exec = Jvm.exec) (hlk : meth.locks = false) {pc : Nat} {Ls : Array Slot} {w : Value} {t : FieldType} {rest : List Value} (hret : meth.sig.returnType = some t) (hd : decode c.code pc = .ok (.areturn, 1)) (hn : narrow t w = w) (ht : t.isReference = true) (hw : w.isRef = true)
    (hQ : Qr (some w) T.heap locs) (hc : cells ≤ R.cells) (hs : slots ≤ R.slots) : own_G p.tables e below T (mkF m pc Ls (w :: rest)) (own_P R s Qr) := by
  obtain ⟨fs, hr, hrun, hended, hW, hsame⟩ := X.leave (v := some w) (fun h => by rw [hret] at h; cases h) hlk
  exact ⟨_, _, retOut X hx hret hn (Or.inr (Or.inr (Or.inr (Or.inr ⟨rfl, ht, hw⟩)))) hd hr, hrun, hended, _, _, rfl, hQ, ⟨_, rfl⟩, hW, hsame.mono hc hs⟩
theorem own_ret0 (X : Stand p l e R s m args below meth c T locs cells slots) (hx : p.tables.exec = Jvm.exec) (hlk : meth.locks = false) {pc : Nat} {Ls : Array Slot} (hret : meth.sig.returnType = none) (hd : decode c.code pc = .ok (.return_, 1))
    (hQ : Qr none T.heap locs) (hc : cells ≤ R.cells) (hs : slots ≤ R.slots) : own_G p.tables e below T (mkF m pc Ls []) (own_P R s Qr) := by
  obtain ⟨fs, hr, hrun, hended, hW, hsame⟩ := X.leave (v := none) (fun _ => rfl) hlk
  exact ⟨_, _, X.returnOut hx hret hd hr, hrun, hended, _, _, rfl, hQ, ⟨_, rfl⟩, hW, hsame.mono hc hs⟩
theorem own_callV (X : Stand p l e R s m args below meth c T locs cells slots) (hx : p.tables.exec = Jvm.exec) (hZ : Z.Warmed39 s.vm) (eT : T.heap = h) {own C : String} {index : Nat} {y : MethodName} {bytes : ByteArray} {maxL : Nat} {ret : Option FieldType} {R' : Room} {b : Addr} {Qc : Option Value → Heap → List Loc → Prop}
    (hown : s.vm.findClass own = some m.cls) (w1 : (Jvm.Cond.methodLink own index y).before a0 Z = true) (w2 : (Jvm.Cond.declares y).before a0 Z = true) (w3 : (Jvm.Cond.selects C y y).before a0 Z = true) (w4 : (Jvm.Cond.instanceMethod y).before a0 Z = true) (w5 : (Jvm.Cond.code y bytes maxL ret).before a0 Z = true) (w6 : (Jvm.Cond.initialized y.cls).before a0 Z = true)
    (hy : y.cls ≠ "java/lang/invoke/MethodHandle" ∧ y.cls ≠ "java/lang/invoke/VarHandle") (W : Nat) (argsL rest : List Value) (hM : own_C l y bytes maxL ret [] R' (.ref b :: argsL).toArray Z h Qc) (hf : R'.frames + 1 ≤ R.frames) (hl : W + (maxL + 11) + R'.locals ≤ R.locals) (hc : cells + R'.cells ≤ R.cells) (hs : slots + R'.slots ≤ R.slots)
    (E : Exa Z h b C) {g : JFrame} (hg : g.method = m) (hsize : g.locals.size = c.maxLocals) (hlen : ∀ sig, parseMethodDescriptor y.desc = some sig → argsL.length = sig.parameters.length) (hstack : g.stack = argsL.reverse ++ .ref b :: rest) (hW : 2 * g.monitorRoom + (rest.map fun v => v.category).sum ≤ W) (hd : decode c.code g.pc = .ok (.invokevirtual index, 3)) :
    ∃ (T' : State) (L : List Loc) (v : Option Value), Stand p l e R s m args below meth c T' (locs ++ L) (cells + R'.cells) (slots + R'.slots) ∧ Qc v T'.heap L ∧ ∀ target, Steps p.tables e below (T'.setTop { g with pc := g.pc + 3, stack := v.toList ++ rest }) target → Steps p.tables e below (T.setTop g) target := by
  obtain ⟨cq, kq, qa, qb, qc⟩ := isOf hZ eT E
  obtain ⟨v, _, ⟨T2, L2, k2, n2⟩, -, X2, ⟨Lc, hQ, l2, y2, z2⟩, st⟩ := X.virtualBack hx (y := y) (z := y) hown (mvT hZ w1) (mvT hZ w2) (notFace_of_selects (args := #[]) (mvT hZ w3)) (mvT hZ w3) (mvT hZ w4) hy (backOf (W := W) hM hZ w5 w6 hf hl) qa qc (g := g) hg hsize (Steps.refl _) (argsL := argsL) (rest := rest) hlen hstack hW hd (fun _ _ => ⟨rfl, eT, hc, hs⟩)
  dsimp only [Pt.U, Pt.locs, Pt.cells, Pt.slots] at X2 l2 y2 z2 st hQ
  subst l2 y2 z2
  exact ⟨T2, Lc, v, X2, hQ, fun t k => st.trans k⟩
theorem own_callU (X : Stand p l e R s m args below meth c T locs cells slots) (hx : p.tables.exec = Jvm.exec) (hZ : Z.Warmed39 s.vm) (eT : T.heap = h) {own C owner : String} {index : Nat} {y z : MethodName} {bytes : ByteArray} {maxL : Nat} {ret : Option FieldType} {R' : Room} {b : Addr} {Qc : Option Value → Heap → List Loc → Prop}
    (hown : s.vm.findClass own = some m.cls) (w1 : (Jvm.Cond.methodLink own index z).before a0 Z = true) (w0 : (Jvm.Cond.sameMethod z.cls owner z.name z.desc).before a0 Z = true) (w2 : (Jvm.Cond.declares ⟨owner, z.name, z.desc⟩).before a0 Z = true) (w3 : (Jvm.Cond.selects C z y).before a0 Z = true) (w4 : (Jvm.Cond.instanceMethod y).before a0 Z = true) (w5 : (Jvm.Cond.code y bytes maxL ret).before a0 Z = true) (w6 : (Jvm.Cond.initialized y.cls).before a0 Z = true)
    (hy : owner ≠ "java/lang/invoke/MethodHandle" ∧ owner ≠ "java/lang/invoke/VarHandle") (W : Nat) (argsL rest : List Value) (hM : own_C l y bytes maxL ret [] R' (.ref b :: argsL).toArray Z h Qc) (hf : R'.frames + 1 ≤ R.frames) (hl : W + (maxL + 11) + R'.locals ≤ R.locals) (hc : cells + R'.cells ≤ R.cells) (hs : slots + R'.slots ≤ R.slots)
    (E : Exa Z h b C) {g : JFrame} (hg : g.method = m) (hsize : g.locals.size = c.maxLocals) (hlen : ∀ sig, parseMethodDescriptor z.desc = some sig → argsL.length = sig.parameters.length) (hstack : g.stack = argsL.reverse ++ .ref b :: rest) (hW : 2 * g.monitorRoom + (rest.map fun v => v.category).sum ≤ W) (hd : decode c.code g.pc = .ok (.invokevirtual index, 3)) :
    ∃ (T' : State) (L : List Loc) (v : Option Value), Stand p l e R s m args below meth c T' (locs ++ L) (cells + R'.cells) (slots + R'.slots) ∧ Qc v T'.heap L ∧ ∀ target, Steps p.tables e below (T'.setTop { g with pc := g.pc + 3, stack := v.toList ++ rest }) target → Steps p.tables e below (T.setTop g) target := by
  obtain ⟨cq, kq, qa, qb, qc⟩ := isOf hZ eT E
  obtain ⟨v, _, ⟨T2, L2, k2, n2⟩, -, X2, ⟨Lc, hQ, l2, y2, z2⟩, st⟩ := X.virtualBackUp hx (x := z) (y := y) hown (mvT hZ w1) (mvT hZ w0) (mvT hZ w2) hy (mvT hZ w3) (mvT hZ w4) (backOf (W := W) hM hZ w5 w6 hf hl) qa qc (g := g) hg hsize (Steps.refl _) (argsL := argsL) (rest := rest) hlen hstack hW hd (fun _ _ => ⟨rfl, eT, hc, hs⟩)
  dsimp only [Pt.U, Pt.locs, Pt.cells, Pt.slots] at X2 l2 y2 z2 st hQ
  subst l2 y2 z2
  exact ⟨T2, Lc, v, X2, hQ, fun t k => st.trans k⟩
theorem own_callS (X : Stand p l e R s m args below meth c T locs cells slots) (hx : p.tables.exec = Jvm.exec) (hZ : Z.Warmed39 s.vm) (eT : T.heap = h) {own : String} {index : Nat} {y : MethodName} {bytes : ByteArray} {maxL : Nat} {ret : Option FieldType} {R' : Room} {Qc : Option Value → Heap → List Loc → Prop}
    (hown : s.vm.findClass own = some m.cls) (w1 : (Jvm.Cond.methodLink own index y).before a0 Z = true) (w2 : (Jvm.Cond.static y).before a0 Z = true) (w5 : (Jvm.Cond.code y bytes maxL ret).before a0 Z = true) (w6 : (Jvm.Cond.initialized y.cls).before a0 Z = true)
    (hy : y.cls ≠ "java/lang/invoke/MethodHandle" ∧ y.cls ≠ "java/lang/invoke/VarHandle") (W : Nat) (argsL rest : List Value) (hM : own_C l y bytes maxL ret [] R' argsL.toArray Z h Qc) (hf : R'.frames + 1 ≤ R.frames) (hl : W + (maxL + 11) + R'.locals ≤ R.locals) (hc : cells + R'.cells ≤ R.cells) (hs : slots + R'.slots ≤ R.slots)
    {g : JFrame} (hg : g.method = m) (hsize : g.locals.size = c.maxLocals) (hlen : ∀ sig, parseMethodDescriptor y.desc = some sig → argsL.length = sig.parameters.length) (hstack : g.stack = argsL.reverse ++ rest) (hW : 2 * g.monitorRoom + (rest.map fun v => v.category).sum ≤ W) (hd : decode c.code g.pc = .ok (.invokestatic index, 3)) :
    ∃ (T' : State) (L : List Loc) (v : Option Value), Stand p l e R s m args below meth c T' (locs ++ L) (cells + R'.cells) (slots + R'.slots) ∧ Qc v T'.heap L ∧ ∀ target, Steps p.tables e below (T'.setTop { g with pc := g.pc + 3, stack := v.toList ++ rest }) target → Steps p.tables e below (T.setTop g) target := by
  obtain ⟨v, _, ⟨T2, L2, k2, n2⟩, -, X2, ⟨Lc, hQ, l2, y2, z2⟩, st⟩ := Jvm.LawKit.callS X hx (y := y) hown (mvT hZ w1) (mvT hZ w2) (mvT hZ w6) (mvT hZ w5) hy (backOf (W := W) hM hZ w5 w6 hf hl) (g := g) hg hsize (argsL := argsL) (rest := rest) hlen hstack hW hd (fun _ _ => ⟨rfl, eT, hc, hs⟩)
  dsimp only [Pt.U, Pt.locs, Pt.cells, Pt.slots] at X2 l2 y2 z2 st hQ
  subst l2 y2 z2
  exact ⟨T2, Lc, v, X2, hQ, st⟩
theorem own_callI (X : Stand p l e R s m args below meth c T locs cells slots) (hx : p.tables.exec = Jvm.exec) (hZ : Z.Warmed39 s.vm) (eT : T.heap = h) {own : String} {index : Nat} {y : MethodName} {bytes : ByteArray} {maxL : Nat} {R' : Room} {b : Addr} {Qc : Option Value → Heap → List Loc → Prop} (hy1 : y.name = "<init>")
    (hown : s.vm.findClass own = some m.cls) (w1 : (Jvm.Cond.methodLink own index y).before a0 Z = true) (w4 : (Jvm.Cond.instanceMethod y).before a0 Z = true) (w5 : (Jvm.Cond.code y bytes maxL none).before a0 Z = true) (w6 : (Jvm.Cond.initialized y.cls).before a0 Z = true)
    (hy : y.cls ≠ "java/lang/invoke/MethodHandle" ∧ y.cls ≠ "java/lang/invoke/VarHandle") (W : Nat) (argsL rest : List Value) (hM : own_C l y bytes maxL none [] R' (.ref b :: argsL).toArray Z h Qc) (hf : R'.frames + 1 ≤ R.frames) (hl : W + (maxL + 11) + R'.locals ≤ R.locals) (hc : cells + R'.cells ≤ R.cells) (hs : slots + R'.slots ≤ R.slots)
    {g : JFrame} (hg : g.method = m) (hsize : g.locals.size = c.maxLocals) (hlen : ∀ sig, parseMethodDescriptor y.desc = some sig → argsL.length = sig.parameters.length) (hstack : g.stack = argsL.reverse ++ .ref b :: rest) (hW : 2 * g.monitorRoom + (rest.map fun v => v.category).sum ≤ W) (hd : decode c.code g.pc = .ok (.invokespecial index, 3)) :
    ∃ (T' : State) (L : List Loc) (v : Option Value), Stand p l e R s m args below meth c T' (locs ++ L) (cells + R'.cells) (slots + R'.slots) ∧ Qc v T'.heap L ∧ ∀ target, Steps p.tables e below (T'.setTop { g with pc := g.pc + 3, stack := v.toList ++ rest }) target → Steps p.tables e below (T.setTop g) target := by
  obtain ⟨v, _, ⟨T2, L2, k2, n2⟩, -, X2, ⟨Lc, hQ, l2, y2, z2⟩, st⟩ := X.specialBack hx (y := y) hy1 hown (mvT hZ w1) (mvT hZ w4) (mvT hZ w5) hy (backOf (W := W) hM hZ w5 w6 hf hl) (g := g) hg hsize (Steps.refl _) (a := b) (argsL := argsL) (rest := rest) hlen hstack hW hd (fun _ _ => ⟨rfl, eT, hc, hs⟩)
  dsimp only [Pt.U, Pt.locs, Pt.cells, Pt.slots] at X2 l2 y2 z2 st hQ
  subst l2 y2 z2
  exact ⟨T2, Lc, v, X2, hQ, fun t k => st.trans k⟩
/-- a callee that leaves the heap alone: what it returns -/
abbrev own_Q0 (v : Option Value) (h0 : Heap) : Option Value → Heap → List Loc → Prop := fun v' h' L => v' = v ∧ h' = h0 ∧ L = []
abbrev own_R (f n : Nat) : Room := { frames := f, cells := 0, slots := 0, locals := n }
theorem own_pure {f n : Nat} {v : Option Value} {h0 : Heap} {P : State → Option Value → Prop}
    (q : ∃ (T' : State) (L : List Loc) (v' : Option Value), Stand p l e R s m args below meth c T' (locs ++ L) (cells + (own_R f n).cells) (slots + (own_R f n).slots) ∧ own_Q0 v h0 v' T'.heap L ∧ P T' v') : ∃ T', Stand p l e R s m args below meth c T' locs cells slots ∧ T'.heap = h0 ∧ P T' v := by
  obtain ⟨T', L, v', X, ⟨rfl, hh, rfl⟩, k⟩ := q
  rw [List.append_nil] at X
  exact ⟨T', X, hh, k⟩
theorem own_eqI {ar : Array Value} {first st : State} {o : Option Outcome} {idx : List Nat} {t : Term} {n : Int32} (q : (Jvm.Cond.eq t (.int n)).value ar first o st idx = some true) : t.eval ar first o idx st = some (.int n) := by
  simp only [Jvm.Cond.value, Term.eval] at q
  cases ht : t.eval ar first o idx st with
  | none => simp [ht] at q
  | some x => cases x <;> simp [ht] at q ⊢; exact q
theorem own_eqR {ar : Array Value} {first st : State} {o : Option Outcome} {idx : List Nat} {t u : Term} {b : Addr} (q : (Jvm.Cond.eq t u).value ar first o st idx = some true) (hu : u.eval ar first o idx st = some (.ref b)) : t.eval ar first o idx st = some (.ref b) := by
  cases ht : t.eval ar first o idx st with
  | none => simp [Jvm.Cond.value, ht] at q
  | some x => cases x <;> simp [Jvm.Cond.value, ht, hu] at q ⊢; exact q
theorem own_arrlen {ar : Array Value} {st : State} {t : Term} {a : Addr} {cl : Cell} {ty : FieldType} {n : Int32} (A : Arr st st.heap a cl ty) (ht : t.eval ar st none [] st = some (.ref a)) (hl : (Term.length t).eval ar st none [] st = some (.int n)) : cl.slots.size < 2 ^ 31 ∧ cl.slots.size.toInt32 = n := by
  have ha : st.arrayAt? a = some cl := Arr.fin (Vm.Alike.refl _) A
  by_cases q : cl.slots.size < 2 ^ 31
  · rw [len_f ht ha q] at hl
    exact ⟨q, Value.int.inj (Option.some.inj hl)⟩
  · simp [Term.eval, ht, ha, q] at hl
theorem own_neI {a b : Int32} (q : a ≠ b) : (Value.int a) ≠ (Value.int b) := fun z => q (Value.int.inj z)
end OwnKit
section OwnHeap
variable {p : Program} {l : Launch} {e : Env} {R : Room} {s : State} {m : MethodId} {args : Array Value} {below : List Frame} {meth : Method} {c : Code} {T : State} {locs : List Loc} {cells slots : Nat} {Z : State} {a0 : Array Value} {h h' h0 : Heap}
theorem own_extR : Ext h h := ⟨Nat.le_refl _, fun _ _ q => q⟩
theorem own_extE (A : Ext h0 h) (B : Ext h h') : Ext h0 h' := ⟨Nat.le_trans A.1 B.1, fun x c q => B.2 _ _ (A.2 _ _ q)⟩
theorem own_extW {a : Addr} {sl : Nat} {v : Value} (A : Ext h0 h) (W : Wr h h' a sl v) (q : h0.size ≤ a) : Ext h0 h' :=
  ⟨Nat.le_trans A.1 (Keep.of_wr W).1, fun x c hc => (Keep.of_wr W).2.1 x c (A.2 x c hc) fun z => by
    cases List.mem_singleton.mp z; exact absurd (Array.getElem?_eq_some_iff.mp hc).1 (Nat.not_lt.mpr q)⟩
theorem own_stR (X : Stand p l e R s m args below meth c T locs cells slots) (hx : p.tables.exec = Jvm.exec) (hZ : Z.Warmed39 s.vm) (eT : T.heap = h) {a y : Addr} {k : ClassId} {ty : FieldType} {z j : Int32} {vs : List Value} {dv : Value} {C : String} (V : Arv Z h a k ty z vs dv) (hty : ty.isReference = true) (hf : fits ty (.ref y) = true) (O : Ovr Z k C) (E : Exa Z h y C)
    (i : Nat) (hi : j.toNatClampNeg = i) (hl : i < vs.length) (hb : ¬ j < 0 ∧ j < z) (ha : s.heap.size ≤ a) {g : JFrame} (hg : g.method = m) {rest : List Value} (hs : g.stack = .ref y :: .int j :: .ref a :: rest) (hd : decode c.code g.pc = .ok (.aastore, 1)) :
    ∃ T' h', Stand p l e R s m args below meth c T' locs cells slots ∧ T'.heap = h' ∧ Wr h h' a j.toNatClampNeg (.ref y) ∧ Arv Z h' a k ty z (vs.set i (.ref y)) dv ∧ ∀ target, Steps p.tables e below (T'.setTop { g with pc := g.pc + 1, stack := rest }) target → Steps p.tables e below (T.setTop g) target := by
  obtain ⟨cl, A, q1, S, q3, H, G⟩ := V
  obtain ⟨T', h', X', e', W, st⟩ := stR X hx hZ eT A (inb_of S hb) hty (Sto.ofV A q1 O (Ins.self E)) hg hs hd
  exact ⟨T', h', X'.forget (fun y hy => by cases List.mem_singleton.mp hy; exact ha), e', W, Arv.set A q1 S q3 H G hf W i hi hl, st⟩
theorem own_stZ (X : Stand p l e R s m args below meth c T locs cells slots) (hx : p.tables.exec = Jvm.exec) (hZ : Z.Warmed39 s.vm) (eT : T.heap = h) {a : Addr} {k : ClassId} {z j x : Int32} {vs : List Value} {dv : Value} (V : Arv Z h a k .boolean z vs dv)
    (i : Nat) (hi : j.toNatClampNeg = i) (hl : i < vs.length) (hb : ¬ j < 0 ∧ j < z) (ha : s.heap.size ≤ a) {g : JFrame} (hg : g.method = m) {rest : List Value} (hs : g.stack = .int x :: .int j :: .ref a :: rest) (hd : decode c.code g.pc = .ok (.bastore, 1)) :
    ∃ T' h', Stand p l e R s m args below meth c T' locs cells slots ∧ T'.heap = h' ∧ Wr h h' a j.toNatClampNeg (.int (nar .boolean x)) ∧ Arv Z h' a k .boolean z (vs.set i (.int (nar .boolean x))) dv ∧ ∀ target, Steps p.tables e below (T'.setTop { g with pc := g.pc + 1, stack := rest }) target → Steps p.tables e below (T.setTop g) target := by
  obtain ⟨cl, A, q1, S, q3, H, G⟩ := V
  obtain ⟨T', h', X', e', W, st⟩ := stZ X hx hZ eT A (inb_of S hb) hg hs hd
  exact ⟨T', h', X'.forget (fun y hy => by cases List.mem_singleton.mp hy; exact ha), e', W, Arv.set A q1 S q3 H G (fits_nar_bool x) W i hi hl, st⟩
theorem own_stI (X : Stand p l e R s m args below meth c T locs cells slots) (hx : p.tables.exec = Jvm.exec) (hZ : Z.Warmed39 s.vm) (eT : T.heap = h) {a : Addr} {k : ClassId} {z j x : Int32} {vs : List Value} {dv : Value} (V : Arv Z h a k .int z vs dv)
    (i : Nat) (hi : j.toNatClampNeg = i) (hl : i < vs.length) (hb : ¬ j < 0 ∧ j < z) {g : JFrame} (hg : g.method = m) {rest : List Value} (hs : g.stack = .int x :: .int j :: .ref a :: rest) (hd : decode c.code g.pc = .ok (.iastore, 1)) :
    ∃ T' h', Stand p l e R s m args below meth c T' (locs ++ [⟨a, j.toNatClampNeg⟩]) cells slots ∧ T'.heap = h' ∧ Wr h h' a j.toNatClampNeg (.int x) ∧ Arv Z h' a k .int z (vs.set i (.int x)) dv ∧ ∀ target, Steps p.tables e below (T'.setTop { g with pc := g.pc + 1, stack := rest }) target → Steps p.tables e below (T.setTop g) target := by
  obtain ⟨cl, A, q1, S, q3, H, G⟩ := V
  obtain ⟨T', h', X', e', W, st⟩ := stI X hx hZ eT A (inb_of S hb) hg hs hd
  exact ⟨T', h', X', e', W, Arv.set A q1 S q3 H G rfl W i hi hl, st⟩
theorem own_ldR (X : Stand p l e R s m args below meth c T locs cells slots) (hx : p.tables.exec = Jvm.exec) (hZ : Z.Warmed39 s.vm) (eT : T.heap = h) {a : Addr} {k : ClassId} {ty : FieldType} {z j : Int32} {vs : List Value} {dv v : Value} (V : Arv Z h a k ty z vs dv) (hty : ty.isReference = true) (hb : ¬ j < 0 ∧ j < z) (hv : vs.getD j.toNatClampNeg dv = v)
    {g : JFrame} (hg : g.method = m) {rest : List Value} (hs : g.stack = .int j :: .ref a :: rest) (hd : decode c.code g.pc = .ok (.aaload, 1)) : ∀ target, Steps p.tables e below (T.setTop { g with pc := g.pc + 1, stack := v :: rest }) target → Steps p.tables e below (T.setTop g) target := by
  obtain ⟨cl, A, q1, S, q3, H, G⟩ := V
  intro t k
  exact X.aaload hx (by rw [eT]; exact A.1) (State.isArrayOf_alike hZ.alike A.2.1) hty A.2.2 (inb_of S hb) (H.at (inb_of S hb) hv) hg hs hd t k
theorem own_ldZ (X : Stand p l e R s m args below meth c T locs cells slots) (hx : p.tables.exec = Jvm.exec) (hZ : Z.Warmed39 s.vm) (eT : T.heap = h) {a : Addr} {k : ClassId} {z j : Int32} {vs : List Value} {dv v : Value} (V : Arv Z h a k .boolean z vs dv) (hb : ¬ j < 0 ∧ j < z) (hv : vs.getD j.toNatClampNeg dv = v)
    {g : JFrame} (hg : g.method = m) {rest : List Value} (hs : g.stack = .int j :: .ref a :: rest) (hd : decode c.code g.pc = .ok (.baload, 1)) : ∀ target, Steps p.tables e below (T.setTop { g with pc := g.pc + 1, stack := v :: rest }) target → Steps p.tables e below (T.setTop g) target := by
  obtain ⟨cl, A, q1, S, q3, H, G⟩ := V
  intro t k
  exact X.baloadBooleans hx (by rw [eT]; exact A.1) (State.isArrayOf_alike hZ.alike A.2.1) A.2.2 (inb_of S hb) (H.at (inb_of S hb) hv) hg hs hd t k
theorem own_ldI (X : Stand p l e R s m args below meth c T locs cells slots) (hx : p.tables.exec = Jvm.exec) (hZ : Z.Warmed39 s.vm) (eT : T.heap = h) {a : Addr} {k : ClassId} {z j : Int32} {vs : List Value} {dv v : Value} (V : Arv Z h a k .int z vs dv) (hb : ¬ j < 0 ∧ j < z) (hv : vs.getD j.toNatClampNeg dv = v)
    {g : JFrame} (hg : g.method = m) {rest : List Value} (hs : g.stack = .int j :: .ref a :: rest) (hd : decode c.code g.pc = .ok (.iaload, 1)) : ∀ target, Steps p.tables e below (T.setTop { g with pc := g.pc + 1, stack := v :: rest }) target → Steps p.tables e below (T.setTop g) target := by
  obtain ⟨cl, A, q1, S, q3, H, G⟩ := V
  intro t k
  exact X.iaload hx (by rw [eT]; exact A.1) (State.isArrayOf_alike hZ.alike A.2.1) A.2.2 (inb_of S hb) (H.at (inb_of S hb) hv) hg hs hd t k
theorem own_len (X : Stand p l e R s m args below meth c T locs cells slots) (hx : p.tables.exec = Jvm.exec) (hZ : Z.Warmed39 s.vm) (eT : T.heap = h) {a : Addr} {k : ClassId} {ty : FieldType} {z : Int32} {vs : List Value} {dv : Value} (V : Arv Z h a k ty z vs dv)
    {g : JFrame} (hg : g.method = m) {rest : List Value} (hs : g.stack = .ref a :: rest) (hd : decode c.code g.pc = .ok (.arraylength, 1)) : ∀ target, Steps p.tables e below (T.setTop { g with pc := g.pc + 1, stack := .int z :: rest }) target → Steps p.tables e below (T.setTop g) target := by
  obtain ⟨cl, A, q1, S, q3, H, G⟩ := V
  intro t k
  refine X.arraylength hx (by rw [eT]; exact A.1) (State.isArrayOf_alike hZ.alike A.2.1) hg hs hd t ?_
  rw [len_of S q3]; exact k
theorem own_extK {ws : List Addr} (A : Ext h0 h) (K : Keep h h' ws) (q : ∀ x ∈ ws, h0.size ≤ x) : Ext h0 h' :=
  ⟨Nat.le_trans A.1 K.1, fun x c hc => K.2.1 x c (A.2 x c hc) fun z => absurd (Array.getElem?_eq_some_iff.mp hc).1 (Nat.not_lt.mpr (q x z))⟩
theorem own_ltT {z k : Int32} {b : Int} (hu : z.toInt < b) (q : b ≤ k.toInt) : z < k := Int32.lt_iff_toInt_lt.mpr (by omega)
theorem own_ltF {z k : Int32} {a : Int} (hl : a ≤ z.toInt) (q : k.toInt ≤ a) : ¬ z < k := fun y => by have := Int32.lt_iff_toInt_lt.mp y; omega
theorem own_gtT {z k : Int32} {a : Int} (hl : a ≤ z.toInt) (q : k.toInt < a) : k < z := Int32.lt_iff_toInt_lt.mpr (by omega)
theorem own_gtF {z k : Int32} {b : Int} (hu : z.toInt < b) (q : b ≤ k.toInt + 1) : ¬ k < z := fun y => by have := Int32.lt_iff_toInt_lt.mp y; omega
theorem own_eqT {z k : Int32} {a b : Int} (hl : a ≤ z.toInt) (hu : z.toInt < b) (q1 : a = k.toInt) (q2 : b = k.toInt + 1) : z = k := Int32.toInt_inj.mp (by omega)
theorem own_eqL {z k : Int32} {a : Int} (hl : a ≤ z.toInt) (q : k.toInt < a) : ¬ z = k := fun y => by subst y; omega
theorem own_eqU {z k : Int32} {b : Int} (hu : z.toInt < b) (q : b ≤ k.toInt) : ¬ z = k := fun y => by subst y; omega
/-- a callee that makes cells and leaves the old ones alone -/
abbrev own_QA (v : Option Value) (h0 : Heap) (A : Heap → Prop) : Option Value → Heap → List Loc → Prop := fun v' h' L => v' = v ∧ Ext h0 h' ∧ A h' ∧ L = []
abbrev own_RC (f k n lo : Nat) : Room := { frames := f, cells := k, slots := n, locals := lo }
theorem own_grow {R' : Room} {v : Option Value} {A : Heap → Prop} {P : State → Option Value → Prop}
    (q : ∃ (T' : State) (L : List Loc) (v' : Option Value), Stand p l e R s m args below meth c T' (locs ++ L) (cells + R'.cells) (slots + R'.slots) ∧ own_QA v h A v' T'.heap L ∧ P T' v') : ∃ T' h', Stand p l e R s m args below meth c T' locs (cells + R'.cells) (slots + R'.slots) ∧ T'.heap = h' ∧ Ext h h' ∧ A h' ∧ P T' v := by
  obtain ⟨T', L, v', X, ⟨rfl, hh, hA, rfl⟩, k⟩ := q
  rw [List.append_nil] at X
  exact ⟨T', _, X, rfl, hh, hA, k⟩
end OwnHeap
section OwnAnchors
variable {p : Program} {l : Launch} {e : Env} {R : Room} {s : State} {m : MethodId} {args : Array Value} {below : List Frame} {meth : Method} {c : Code} {T : State} {locs : List Loc} {cells slots : Nat} {Z : State} {a0 : Array Value} {h h' hB : Heap} {o P O : Addr} {pv fv : Value} {kP kO : ClassId} {vs us ys : List Value} {sz tk x : Int32}
/-- an Anchors object: its fields; what stood in hB stands -/
def own_Ob (Z : State) (hB h : Heap) (o : Addr) (pv fv : Value) (sz tk : Int32) : Prop :=
  Ext hB h ∧ hB.size ≤ o ∧ Exa Z h o "com/example/orthonorm/orthonorm/sanskrit/Anchors" ∧ Fld Z h o "com/example/orthonorm/orthonorm/sanskrit/Anchors" "places" "[I" pv ∧ Fld Z h o "com/example/orthonorm/orthonorm/sanskrit/Anchors" "offsets" "[I" fv ∧ Fld Z h o "com/example/orthonorm/orthonorm/sanskrit/Anchors" "size" "I" (.int sz) ∧ Fld Z h o "com/example/orthonorm/orthonorm/sanskrit/Anchors" "taken" "I" (.int tk)
def own_sn (Z : State) : Prop := Jvm.RoadKit.slotOf Z "com/example/orthonorm/orthonorm/sanskrit/Anchors" "places" "[I" ≠ Jvm.RoadKit.slotOf Z "com/example/orthonorm/orthonorm/sanskrit/Anchors" "offsets" "[I" ∧ Jvm.RoadKit.slotOf Z "com/example/orthonorm/orthonorm/sanskrit/Anchors" "places" "[I" ≠ Jvm.RoadKit.slotOf Z "com/example/orthonorm/orthonorm/sanskrit/Anchors" "size" "I" ∧ Jvm.RoadKit.slotOf Z "com/example/orthonorm/orthonorm/sanskrit/Anchors" "places" "[I" ≠ Jvm.RoadKit.slotOf Z "com/example/orthonorm/orthonorm/sanskrit/Anchors" "taken" "I" ∧ Jvm.RoadKit.slotOf Z "com/example/orthonorm/orthonorm/sanskrit/Anchors" "offsets" "[I" ≠ Jvm.RoadKit.slotOf Z "com/example/orthonorm/orthonorm/sanskrit/Anchors" "size" "I" ∧ Jvm.RoadKit.slotOf Z "com/example/orthonorm/orthonorm/sanskrit/Anchors" "offsets" "[I" ≠ Jvm.RoadKit.slotOf Z "com/example/orthonorm/orthonorm/sanskrit/Anchors" "taken" "I" ∧ Jvm.RoadKit.slotOf Z "com/example/orthonorm/orthonorm/sanskrit/Anchors" "size" "I" ≠ Jvm.RoadKit.slotOf Z "com/example/orthonorm/orthonorm/sanskrit/Anchors" "taken" "I"
theorem own_snI (hw : ∀ d ∈ tables_1, d.before a0 Z = true) : own_sn Z :=
  have lp : Laid Z a0 "com/example/orthonorm/orthonorm/sanskrit/Anchors" "com/example/orthonorm/orthonorm/sanskrit/Anchors" "places" "[I" := Or.inl (hw _ (List.mem_of_getElem? (i := 14) rfl))
  have lo : Laid Z a0 "com/example/orthonorm/orthonorm/sanskrit/Anchors" "com/example/orthonorm/orthonorm/sanskrit/Anchors" "offsets" "[I" := Or.inl (hw _ (List.mem_of_getElem? (i := 16) rfl))
  have ls : Laid Z a0 "com/example/orthonorm/orthonorm/sanskrit/Anchors" "com/example/orthonorm/orthonorm/sanskrit/Anchors" "size" "I" := Or.inl (hw _ (List.mem_of_getElem? (i := 25) rfl))
  have lt : Laid Z a0 "com/example/orthonorm/orthonorm/sanskrit/Anchors" "com/example/orthonorm/orthonorm/sanskrit/Anchors" "taken" "I" := Or.inl (hw _ (List.mem_of_getElem? (i := 23) rfl))
  ⟨slot_ne lp lo (by decide) (t := (.array .int)) (t' := (.array .int)) (by decide) (by decide), slot_ne lp ls (by decide) (t := (.array .int)) (t' := .int) (by decide) (by decide), slot_ne lp lt (by decide) (t := (.array .int)) (t' := .int) (by decide) (by decide), slot_ne lo ls (by decide) (t := (.array .int)) (t' := .int) (by decide) (by decide), slot_ne lo lt (by decide) (t := (.array .int)) (t' := .int) (by decide) (by decide), slot_ne ls lt (by decide) (t := .int) (t' := .int) (by decide) (by decide)⟩
theorem own_Ob_wp (n : own_sn Z) (B : own_Ob Z hB h o pv fv sz tk) {w : Value} (W : Wr h h' o (Jvm.RoadKit.slotOf Z "com/example/orthonorm/orthonorm/sanskrit/Anchors" "places" "[I") w) : own_Ob Z hB h' o w fv sz tk := by
  obtain ⟨b1, b2, b3, b4, b5, b6, b7⟩ := B
  exact ⟨own_extW b1 W b2, b2, b3.wr W, b4.same W, b5.other W (Or.inr n.1.symm), b6.other W (Or.inr n.2.1.symm), b7.other W (Or.inr n.2.2.1.symm)⟩
theorem own_Ob_wo (n : own_sn Z) (B : own_Ob Z hB h o pv fv sz tk) {w : Value} (W : Wr h h' o (Jvm.RoadKit.slotOf Z "com/example/orthonorm/orthonorm/sanskrit/Anchors" "offsets" "[I") w) : own_Ob Z hB h' o pv w sz tk := by
  obtain ⟨b1, b2, b3, b4, b5, b6, b7⟩ := B
  exact ⟨own_extW b1 W b2, b2, b3.wr W, b4.other W (Or.inr n.1), b5.same W, b6.other W (Or.inr n.2.2.2.1.symm), b7.other W (Or.inr n.2.2.2.2.1.symm)⟩
theorem own_Ob_ws (n : own_sn Z) (B : own_Ob Z hB h o pv fv sz tk) (W : Wr h h' o (Jvm.RoadKit.slotOf Z "com/example/orthonorm/orthonorm/sanskrit/Anchors" "size" "I") (.int x)) : own_Ob Z hB h' o pv fv x tk := by
  obtain ⟨b1, b2, b3, b4, b5, b6, b7⟩ := B
  exact ⟨own_extW b1 W b2, b2, b3.wr W, b4.other W (Or.inr n.2.1), b5.other W (Or.inr n.2.2.2.1), b6.same W, b7.other W (Or.inr n.2.2.2.2.2.symm)⟩
theorem own_Ob_wt (n : own_sn Z) (B : own_Ob Z hB h o pv fv sz tk) (W : Wr h h' o (Jvm.RoadKit.slotOf Z "com/example/orthonorm/orthonorm/sanskrit/Anchors" "taken" "I") (.int x)) : own_Ob Z hB h' o pv fv sz x := by
  obtain ⟨b1, b2, b3, b4, b5, b6, b7⟩ := B
  exact ⟨own_extW b1 W b2, b2, b3.wr W, b4.other W (Or.inr n.2.2.1), b5.other W (Or.inr n.2.2.2.2.1), b6.other W (Or.inr n.2.2.2.2.2), b7.same W⟩
theorem own_Ob_arr (B : own_Ob Z hB h o pv fv sz tk) {a : Addr} {sl : Nat} {w : Value} (W : Wr h h' a sl w) (ge : hB.size ≤ a) (ne : o ≠ a) : own_Ob Z hB h' o pv fv sz tk := by
  obtain ⟨b1, b2, b3, b4, b5, b6, b7⟩ := B
  exact ⟨own_extW b1 W ge, b2, b3.wr W, b4.other W (Or.inl ne), b5.other W (Or.inl ne), b6.other W (Or.inl ne), b7.other W (Or.inl ne)⟩
theorem own_Ob_ext (B : own_Ob Z hB h o pv fv sz tk) (E : Ext h h') : own_Ob Z hB h' o pv fv sz tk := by
  obtain ⟨b1, b2, b3, b4, b5, b6, b7⟩ := B
  exact ⟨own_extE b1 E, b2, b3.ext E, b4.ext E, b5.ext E, b6.ext E, b7.ext E⟩
theorem own_Ob_X (B : own_Ob Z hB h o pv fv sz tk) : Ext hB h := B.1
theorem own_Ob_g (B : own_Ob Z hB h o pv fv sz tk) : hB.size ≤ o := B.2.1
theorem own_Ob_E (B : own_Ob Z hB h o pv fv sz tk) : Exa Z h o "com/example/orthonorm/orthonorm/sanskrit/Anchors" := B.2.2.1
theorem own_Ob_p (B : own_Ob Z hB h o pv fv sz tk) : Fld Z h o "com/example/orthonorm/orthonorm/sanskrit/Anchors" "places" "[I" pv := B.2.2.2.1
theorem own_Ob_o (B : own_Ob Z hB h o pv fv sz tk) : Fld Z h o "com/example/orthonorm/orthonorm/sanskrit/Anchors" "offsets" "[I" fv := B.2.2.2.2.1
theorem own_Ob_s (B : own_Ob Z hB h o pv fv sz tk) : Fld Z h o "com/example/orthonorm/orthonorm/sanskrit/Anchors" "size" "I" (.int sz) := B.2.2.2.2.2.1
theorem own_Ob_t (B : own_Ob Z hB h o pv fv sz tk) : Fld Z h o "com/example/orthonorm/orthonorm/sanskrit/Anchors" "taken" "I" (.int tk) := B.2.2.2.2.2.2
/-- the object with its two arrays of eight -/
def own_An (Z : State) (hB h : Heap) (o P O : Addr) (kP kO : ClassId) (vs us : List Value) (sz tk : Int32) : Prop :=
  own_Ob Z hB h o (.ref P) (.ref O) sz tk ∧ (hB.size ≤ P ∧ hB.size ≤ O ∧ P ≠ O ∧ o ≠ P ∧ o ≠ O) ∧ Arv Z h P kP .int (8 : Int32) vs (.int (0 : Int32)) ∧ Arv Z h O kO .int (8 : Int32) us (.int (0 : Int32))
theorem own_An_ws (n : own_sn Z) (A : own_An Z hB h o P O kP kO vs us sz tk) (W : Wr h h' o (Jvm.RoadKit.slotOf Z "com/example/orthonorm/orthonorm/sanskrit/Anchors" "size" "I") (.int x)) : own_An Z hB h' o P O kP kO vs us x tk :=
  ⟨own_Ob_ws n A.1 W, A.2.1, A.2.2.1.other W A.2.1.2.2.2.1.symm, A.2.2.2.other W A.2.1.2.2.2.2.symm⟩
theorem own_An_wt (n : own_sn Z) (A : own_An Z hB h o P O kP kO vs us sz tk) (W : Wr h h' o (Jvm.RoadKit.slotOf Z "com/example/orthonorm/orthonorm/sanskrit/Anchors" "taken" "I") (.int x)) : own_An Z hB h' o P O kP kO vs us sz x :=
  ⟨own_Ob_wt n A.1 W, A.2.1, A.2.2.1.other W A.2.1.2.2.2.1.symm, A.2.2.2.other W A.2.1.2.2.2.2.symm⟩
theorem own_An_aP (A : own_An Z hB h o P O kP kO vs us sz tk) {sl : Nat} {w : Value} (W : Wr h h' P sl w) (V : Arv Z h' P kP .int (8 : Int32) ys (.int (0 : Int32))) : own_An Z hB h' o P O kP kO ys us sz tk :=
  ⟨own_Ob_arr A.1 W A.2.1.1 A.2.1.2.2.2.1, A.2.1, V, A.2.2.2.other W A.2.1.2.2.1.symm⟩
theorem own_An_aO (A : own_An Z hB h o P O kP kO vs us sz tk) {sl : Nat} {w : Value} (W : Wr h h' O sl w) (V : Arv Z h' O kO .int (8 : Int32) ys (.int (0 : Int32))) : own_An Z hB h' o P O kP kO vs ys sz tk :=
  ⟨own_Ob_arr A.1 W A.2.1.2.1 A.2.1.2.2.2.2, A.2.1, A.2.2.1.other W A.2.1.2.2.1, V⟩
theorem own_An_vp (A : own_An Z hB h o P O kP kO vs us sz tk) : Arv Z h P kP .int (8 : Int32) vs (.int (0 : Int32)) := A.2.2.1
theorem own_An_vo (A : own_An Z hB h o P O kP kO vs us sz tk) : Arv Z h O kO .int (8 : Int32) us (.int (0 : Int32)) := A.2.2.2
end OwnAnchors
section OwnShort
variable {p : Program} {l : Launch} {e : Env} {R : Room} {s : State} {m : MethodId} {args : Array Value} {below : List Frame} {meth : Method} {c : Code} {T : State} {locs : List Loc} {cells slots : Nat} {Qe : Outcome → State → Prop} {pc pc' : Nat} {Ls : Array Slot} {st rest : List Value}
theorem oI1 (X : Stand p l e R s m args below meth c T locs cells slots) (hx : p.tables.exec = Jvm.exec) {k : Fin 4} {v : Int32} (hd : decode c.code pc = .ok (.iload_n k, 1)) (hp : pc + 1 = pc') (hl : Ls[k.val]? = some (.val (.int v))) (q : own_G p.tables e below T (mkF m pc' Ls (.int v :: st)) Qe) : own_G p.tables e below T (mkF m pc Ls st) Qe := by
  subst hp; exact own_pre (fun t k => XS.iloadN X.here hx rfl hd hl k) q
theorem oI2 (X : Stand p l e R s m args below meth c T locs cells slots) (hx : p.tables.exec = Jvm.exec) {k : Nat} {v : Int32} (hd : decode c.code pc = .ok (.iload k, 2)) (hp : pc + 2 = pc') (hl : Ls[k]? = some (.val (.int v))) (q : own_G p.tables e below T (mkF m pc' Ls (.int v :: st)) Qe) : own_G p.tables e below T (mkF m pc Ls st) Qe := by
  subst hp; exact own_pre (fun t k => XS.iload X.here hx rfl hd hl k) q
theorem oA1 (X : Stand p l e R s m args below meth c T locs cells slots) (hx : p.tables.exec = Jvm.exec) {k : Fin 4} {v : Value} (hd : decode c.code pc = .ok (.aload_n k, 1)) (hp : pc + 1 = pc') (hl : Ls[k.val]? = some (.val v)) (hv : v.isRef = true) (q : own_G p.tables e below T (mkF m pc' Ls (v :: st)) Qe) : own_G p.tables e below T (mkF m pc Ls st) Qe := by
  subst hp; exact own_pre (fun t k => XS.aloadN X.here hx rfl hd hl hv k) q
theorem oA2 (X : Stand p l e R s m args below meth c T locs cells slots) (hx : p.tables.exec = Jvm.exec) {k : Nat} {v : Value} (hd : decode c.code pc = .ok (.aload k, 2)) (hp : pc + 2 = pc') (hl : Ls[k]? = some (.val v)) (hv : v.isRef = true) (q : own_G p.tables e below T (mkF m pc' Ls (v :: st)) Qe) : own_G p.tables e below T (mkF m pc Ls st) Qe := by
  subst hp; exact own_pre (fun t k => XS.aload X.here hx rfl hd hl hv k) q
theorem oC (X : Stand p l e R s m args below meth c T locs cells slots) (hx : p.tables.exec = Jvm.exec) {i : Int} (v : Int32) (hd : decode c.code pc = .ok (.iconst i, 1)) (hp : pc + 1 = pc') (hv : Int32.ofInt i = v) (q : own_G p.tables e below T (mkF m pc' Ls (.int v :: st)) Qe) : own_G p.tables e below T (mkF m pc Ls st) Qe := by
  subst hp hv; exact own_pre (fun t k => XS.iconst X.here hx rfl hd k) q
theorem oG (X : Stand p l e R s m args below meth c T locs cells slots) (hx : p.tables.exec = Jvm.exec) {o : Int} (hd : decode c.code pc = .ok (.goto o, 3)) (ho : 0 ≤ (pc : Int) + o) (hp : ((pc : Int) + o).toNat = pc') (q : own_G p.tables e below T (mkF m pc' Ls st) Qe) : own_G p.tables e below T (mkF m pc Ls st) Qe :=
  own_pre (fun t k => XS.goto X.here hx rfl (pc0 := pc) (pc' := pc') rfl hd ho hp k) q
theorem oN (X : Stand p l e R s m args below meth c T locs cells slots) (hx : p.tables.exec = Jvm.exec) {cd : ClassFile.Cond} {o : Int} {x y : Int32} (hd : decode c.code pc = .ok (.if_icmp cd o, 3)) (hp : pc + 3 = pc') (hc : if_icmp.holds cd x y = false) (q : own_G p.tables e below T (mkF m pc' Ls rest) Qe) : own_G p.tables e below T (mkF m pc Ls (.int y :: .int x :: rest)) Qe := by
  subst hp; exact own_pre (fun t k => XS.icmpNo X.here hx rfl hd rfl hc k) q
theorem oY (X : Stand p l e R s m args below meth c T locs cells slots) (hx : p.tables.exec = Jvm.exec) {cd : ClassFile.Cond} {o : Int} {x y : Int32} (hd : decode c.code pc = .ok (.if_icmp cd o, 3)) (hc : if_icmp.holds cd x y = true) (ho : 0 ≤ (pc : Int) + o) (hp : ((pc : Int) + o).toNat = pc') (q : own_G p.tables e below T (mkF m pc' Ls rest) Qe) : own_G p.tables e below T (mkF m pc Ls (.int y :: .int x :: rest)) Qe :=
  own_pre (fun t k => XS.icmpYes X.here hx rfl (pc0 := pc) (pc' := pc') rfl hd rfl hc ho hp k) q
theorem oN0 (X : Stand p l e R s m args below meth c T locs cells slots) (hx : p.tables.exec = Jvm.exec) {cd : ClassFile.Cond} {o : Int} {x : Int32} (hd : decode c.code pc = .ok (.ifCond cd o, 3)) (hp : pc + 3 = pc') (hc : ifCond.holds cd x = false) (q : own_G p.tables e below T (mkF m pc' Ls rest) Qe) : own_G p.tables e below T (mkF m pc Ls (.int x :: rest)) Qe := by
  subst hp; exact own_pre (fun t k => XS.ifNo X.here hx rfl hd rfl hc k) q
theorem oY0 (X : Stand p l e R s m args below meth c T locs cells slots) (hx : p.tables.exec = Jvm.exec) {cd : ClassFile.Cond} {o : Int} {x : Int32} (hd : decode c.code pc = .ok (.ifCond cd o, 3)) (hc : ifCond.holds cd x = true) (ho : 0 ≤ (pc : Int) + o) (hp : ((pc : Int) + o).toNat = pc') (q : own_G p.tables e below T (mkF m pc' Ls rest) Qe) : own_G p.tables e below T (mkF m pc Ls (.int x :: rest)) Qe :=
  own_pre (fun t k => XS.ifYes X.here hx rfl (pc0 := pc) (pc' := pc') rfl hd rfl hc ho hp k) q
theorem oD (X : Stand p l e R s m args below meth c T locs cells slots) (hx : p.tables.exec = Jvm.exec) {v : Value} (hd : decode c.code pc = .ok (.dup, 1)) (hp : pc + 1 = pc') (hc : v.category = 1) (q : own_G p.tables e below T (mkF m pc' Ls (v :: v :: rest)) Qe) : own_G p.tables e below T (mkF m pc Ls (v :: rest)) Qe := by
  subst hp; exact own_pre (fun t k => XS.dup X.here hx rfl hd rfl hc k) q
end OwnShort

theorem pd_0 : parseMethodDescriptor "(II)I" = some ⟨[.int, .int], some .int⟩ := by decide +kernel
theorem pd_1 : parseMethodDescriptor "([II)[I" = some ⟨[(.array .int), .int], some (.array .int)⟩ := by decide +kernel
theorem pd_2 : parseMethodDescriptor "()V" = some ⟨[], none⟩ := by decide +kernel
theorem pd_3 : parseMethodDescriptor "(I)I" = some ⟨[.int], some .int⟩ := by decide +kernel
theorem pd_4 : parseMethodDescriptor "()I" = some ⟨[], some .int⟩ := by decide +kernel
theorem pd_5 : parseMethodDescriptor "(II)V" = some ⟨[.int, .int], none⟩ := by decide +kernel
theorem own_c4 (z : Int32) (q0 : 0 ≤ z.toInt) (q1 : z.toInt < 4) : z = (0 : Int32) ∨ z = (1 : Int32) ∨ z = (2 : Int32) ∨ z = (3 : Int32) := by
  simp only [← Int32.toInt_inj, show (0 : Int32).toInt = 0 from rfl, show (1 : Int32).toInt = 1 from rfl, show (2 : Int32).toInt = 2 from rfl, show (3 : Int32).toInt = 3 from rfl]
  omega
theorem own_m4 (z : Int32) : z &&& (3 : Int32) = (0 : Int32) ∨ z &&& (3 : Int32) = (1 : Int32) ∨ z &&& (3 : Int32) = (2 : Int32) ∨ z &&& (3 : Int32) = (3 : Int32) := by
  have q := c_mask z (3 : Int32) 2 (by decide) (by decide)
  exact own_c4 _ (by omega) (by omega)
theorem own_nl {a b q : Int32} (h1 : a < b) (h2 : ¬ (a < q)) : ¬ (b < q) := fun y => by
  rw [Int32.lt_iff_toInt_lt] at h1 h2 y; omega
theorem own_lne {a b : Int32} (h : a < b) : ¬ (a = b) := fun y => by
  subst y; rw [Int32.lt_iff_toInt_lt] at h; omega
theorem own_step {z d : Int32} (h0 : 0 ≤ z.toInt) (h1 : z.toInt ≤ 1073741900) : z.toInt < ((z + (1 : Int32)) + (d &&& (3 : Int32))).toInt ∧ ((z + (1 : Int32)) + (d &&& (3 : Int32))).toInt ≤ z.toInt + 4 := by
  have q2 := c_iadd (z + (1 : Int32)) (d &&& (3 : Int32))
  have q3 := c_iadd z (1 : Int32)
  have q4 := c_mask d (3 : Int32) 2 (by decide) (by decide)
  have q5 : (1 : Int32).toInt = 1 := rfl
  have q6 := rng32 (z + (1 : Int32))
  have q7 := rng32 ((z + (1 : Int32)) + (d &&& (3 : Int32)))
  omega
theorem own_chain (b d f : Int32) : (b &&& (1073741823 : Int32)) < (((b &&& (1073741823 : Int32)) + (1 : Int32)) + (d &&& (3 : Int32))) ∧ (((b &&& (1073741823 : Int32)) + (1 : Int32)) + (d &&& (3 : Int32))) < (((((b &&& (1073741823 : Int32)) + (1 : Int32)) + (d &&& (3 : Int32))) + (1 : Int32)) + (f &&& (3 : Int32))) := by
  have q := c_mask b (1073741823 : Int32) 30 (by decide) (by decide)
  have r := own_step (z := b &&& (1073741823 : Int32)) (d := d) (by omega) (by omega)
  have r2 := own_step (z := ((b &&& (1073741823 : Int32)) + (1 : Int32)) + (d &&& (3 : Int32))) (d := f) (by omega) (by omega)
  exact ⟨Int32.lt_iff_toInt_lt.mpr r.1, Int32.lt_iff_toInt_lt.mpr r2.1⟩
def own_F (Z : State) (h : Heap) (w_NO_ANCHORS : Addr) (k_NO_ANCHORS : ClassId) : Prop :=
  Sta Z h "com/example/orthonorm/orthonorm/sanskrit/Anchors" "NO_ANCHORS" "[I" (.ref w_NO_ANCHORS) ∧
  Exa Z h w_NO_ANCHORS "[I" ∧
  Arv Z h w_NO_ANCHORS k_NO_ANCHORS .int (0 : Int32) [] (.int (0 : Int32))
theorem own_F_ext {Z : State} {h h' : Heap} {w_NO_ANCHORS : Addr} {k_NO_ANCHORS : ClassId} (F : own_F Z h w_NO_ANCHORS k_NO_ANCHORS) (X : Ext h h') : own_F Z h' w_NO_ANCHORS k_NO_ANCHORS := by
  obtain ⟨S_NO_ANCHORS, E_NO_ANCHORS, V_NO_ANCHORS⟩ := F
  exact ⟨S_NO_ANCHORS.ext X, E_NO_ANCHORS.ext X, V_NO_ANCHORS.ext X⟩
theorem d6_0 : decode jdk_29_method_65_code 0 = .ok (.iload_n 0, 1) := by decide +kernel
theorem d6_1 : decode jdk_29_method_65_code 1 = .ok (.iload_n 1, 1) := by decide +kernel
theorem d6_2 : decode jdk_29_method_65_code 2 = .ok (.if_icmp .lt 7, 3) := by decide +kernel
theorem d6_5 : decode jdk_29_method_65_code 5 = .ok (.iload_n 0, 1) := by decide +kernel
theorem d6_6 : decode jdk_29_method_65_code 6 = .ok (.goto 4, 3) := by decide +kernel
theorem d6_10 : decode jdk_29_method_65_code 10 = .ok (.ireturn, 1) := by decide +kernel
set_option maxRecDepth 65536 in
set_option maxHeartbeats 40000000 in
theorem own_max (l : Launch) (Z : State) (a0 : Array Value) (hw : ∀ d ∈ tables_1, d.before a0 Z = true) (ws : List Jvm.Cond) (w_NO_ANCHORS : Addr) (k_NO_ANCHORS : ClassId) (h0 : Heap) (F : own_F Z h0 w_NO_ANCHORS k_NO_ANCHORS)  :
    own_C l (⟨"java/lang/Math", "max", "(II)I"⟩ : MethodName) jdk_29_method_65_code 2 (some .int) ws (own_R 0 0) #[(.int (8 : Int32)), (.int (0 : Int32))] Z h0 (own_Q0 (some (.int (8 : Int32))) h0) := by
  have F0 := F
  obtain ⟨S_NO_ANCHORS, E_NO_ANCHORS, V_NO_ANCHORS⟩ := F
  refine own_enter (LS := #[iv (8 : Int32), iv (0 : Int32)]) (Jvm.Free.JP.mathPlain rfl (by decide +kernel)) (fun m => by first | (simp [entryFrame, mkF, argsToLocals, Value.category, maxLocals]; done) | rfl) ?_
  intro p e s m below meth c s₁ hx hby hml hown0 hnm hret hlk hZ X0 e0 hsh
  have hown : s.vm.findClass "java/lang/Math" = some m.cls := hown0
  refine oI1 X0 hx (hb hby d6_0) (pc' := 1) rfl rfl ?_
  refine oI1 X0 hx (hb hby d6_1) (pc' := 2) rfl rfl ?_
  refine oN X0 hx (hb hby d6_2) (pc' := 5) rfl (flt (by decide : ¬ ((8 : Int32) < (0 : Int32)))).1 ?_
  refine oI1 X0 hx (hb hby d6_5) (pc' := 6) rfl rfl ?_
  refine oG X0 hx (hb hby d6_6) (pc' := 10) (by decide) (by decide) ?_
  exact own_retI X0 hx hlk hret (hb hby d6_10) (⟨rfl, e0, rfl⟩) (by decide) (by decide)
theorem d8_0 : decode jdk_29_method_69_code 0 = .ok (.iload_n 0, 1) := by decide +kernel
theorem d8_1 : decode jdk_29_method_69_code 1 = .ok (.iload_n 1, 1) := by decide +kernel
theorem d8_2 : decode jdk_29_method_69_code 2 = .ok (.if_icmp .gt 7, 3) := by decide +kernel
theorem d8_5 : decode jdk_29_method_69_code 5 = .ok (.iload_n 0, 1) := by decide +kernel
theorem d8_6 : decode jdk_29_method_69_code 6 = .ok (.goto 4, 3) := by decide +kernel
theorem d8_10 : decode jdk_29_method_69_code 10 = .ok (.ireturn, 1) := by decide +kernel
set_option maxRecDepth 65536 in
set_option maxHeartbeats 40000000 in
theorem own_min (l : Launch) (Z : State) (a0 : Array Value) (hw : ∀ d ∈ tables_1, d.before a0 Z = true) (ws : List Jvm.Cond) (w_NO_ANCHORS : Addr) (k_NO_ANCHORS : ClassId) (h0 : Heap) (F : own_F Z h0 w_NO_ANCHORS k_NO_ANCHORS)  :
    own_C l (⟨"java/lang/Math", "min", "(II)I"⟩ : MethodName) jdk_29_method_69_code 2 (some .int) ws (own_R 0 0) #[(.int (0 : Int32)), (.int (8 : Int32))] Z h0 (own_Q0 (some (.int (0 : Int32))) h0) := by
  have F0 := F
  obtain ⟨S_NO_ANCHORS, E_NO_ANCHORS, V_NO_ANCHORS⟩ := F
  refine own_enter (LS := #[iv (0 : Int32), iv (8 : Int32)]) (Jvm.Free.JP.mathPlain rfl (by decide +kernel)) (fun m => by first | (simp [entryFrame, mkF, argsToLocals, Value.category, maxLocals]; done) | rfl) ?_
  intro p e s m below meth c s₁ hx hby hml hown0 hnm hret hlk hZ X0 e0 hsh
  have hown : s.vm.findClass "java/lang/Math" = some m.cls := hown0
  refine oI1 X0 hx (hb hby d8_0) (pc' := 1) rfl rfl ?_
  refine oI1 X0 hx (hb hby d8_1) (pc' := 2) rfl rfl ?_
  refine oN X0 hx (hb hby d8_2) (pc' := 5) rfl (flt (by decide : ¬ ((8 : Int32) < (0 : Int32)))).2.2.1 ?_
  refine oI1 X0 hx (hb hby d8_5) (pc' := 6) rfl rfl ?_
  refine oG X0 hx (hb hby d8_6) (pc' := 10) (by decide) (by decide) ?_
  exact own_retI X0 hx hlk hret (hb hby d8_10) (⟨rfl, e0, rfl⟩) (by decide) (by decide)
theorem d7_0 : decode jdk_65_method_123_code 0 = .ok (.iload_n 1, 1) := by decide +kernel
theorem d7_1 : decode jdk_65_method_123_code 1 = .ok (.aload_n 0, 1) := by decide +kernel
theorem d7_2 : decode jdk_65_method_123_code 2 = .ok (.arraylength, 1) := by decide +kernel
theorem d7_3 : decode jdk_65_method_123_code 3 = .ok (.if_icmp .ne 11, 3) := by decide +kernel
theorem d7_14 : decode jdk_65_method_123_code 14 = .ok (.iload_n 1, 1) := by decide +kernel
theorem d7_15 : decode jdk_65_method_123_code 15 = .ok (.newarray .int, 2) := by decide +kernel
theorem d7_17 : decode jdk_65_method_123_code 17 = .ok (.astore_n 2, 1) := by decide +kernel
theorem d7_18 : decode jdk_65_method_123_code 18 = .ok (.aload_n 0, 1) := by decide +kernel
theorem d7_19 : decode jdk_65_method_123_code 19 = .ok (.iconst 0, 1) := by decide +kernel
theorem d7_20 : decode jdk_65_method_123_code 20 = .ok (.aload_n 2, 1) := by decide +kernel
theorem d7_21 : decode jdk_65_method_123_code 21 = .ok (.iconst 0, 1) := by decide +kernel
theorem d7_22 : decode jdk_65_method_123_code 22 = .ok (.aload_n 0, 1) := by decide +kernel
theorem d7_23 : decode jdk_65_method_123_code 23 = .ok (.arraylength, 1) := by decide +kernel
theorem d7_24 : decode jdk_65_method_123_code 24 = .ok (.iload_n 1, 1) := by decide +kernel
theorem d7_25 : decode jdk_65_method_123_code 25 = .ok (.invokestatic 304, 3) := by decide +kernel
theorem d7_28 : decode jdk_65_method_123_code 28 = .ok (.invokestatic 150, 3) := by decide +kernel
theorem d7_31 : decode jdk_65_method_123_code 31 = .ok (.aload_n 2, 1) := by decide +kernel
theorem d7_32 : decode jdk_65_method_123_code 32 = .ok (.areturn, 1) := by decide +kernel
set_option maxRecDepth 65536 in
set_option maxHeartbeats 40000000 in
theorem own_copy (l : Launch) (Z : State) (a0 : Array Value) (hw : ∀ d ∈ tables_1, d.before a0 Z = true) (ws : List Jvm.Cond) (w_NO_ANCHORS : Addr) (k_NO_ANCHORS : ClassId) (h0 : Heap) (F : own_F Z h0 w_NO_ANCHORS k_NO_ANCHORS)  :
    own_C l (⟨"java/util/Arrays", "copyOf", "([II)[I"⟩ : MethodName) jdk_65_method_123_code 3 (some (.array .int)) ws (own_RC 1 1 8 40) #[(.ref w_NO_ANCHORS), (.int (8 : Int32))] Z h0 (own_QA (some (.ref h0.size)) h0 (fun h' => ∃ k, Arv Z h' h0.size k .int (8 : Int32) [(.int (0 : Int32)), (.int (0 : Int32)), (.int (0 : Int32)), (.int (0 : Int32)), (.int (0 : Int32)), (.int (0 : Int32)), (.int (0 : Int32)), (.int (0 : Int32))] (.int (0 : Int32)))) := by
  have F0 := F
  obtain ⟨S_NO_ANCHORS, E_NO_ANCHORS, V_NO_ANCHORS⟩ := F
  refine own_enter (LS := #[rv w_NO_ANCHORS, iv (8 : Int32), .unset]) (plainFor_of_name (by first | (simp [plainName, overriddenIn, x]; done) | decide +kernel)) (fun m => by first | (simp [entryFrame, mkF, argsToLocals, Value.category, maxLocals]; done) | rfl) ?_
  intro p e s m below meth c s₁ hx hby hml hown0 hnm hret hlk hZ X0 e0 hsh
  have hown : s.vm.findClass "java/util/Arrays" = some m.cls := hown0
  refine oI1 X0 hx (hb hby d7_0) (pc' := 1) rfl rfl ?_
  refine oA1 X0 hx (hb hby d7_1) (pc' := 2) rfl rfl rfl ?_
  refine own_pre (T' := s₁) (f' := (mkF m 3 #[rv w_NO_ANCHORS, iv (8 : Int32), .unset] [(.int (0 : Int32)), (.int (8 : Int32))])) (fun t k => own_len X0 hx hZ e0 V_NO_ANCHORS (g := (mkF m 2 #[rv w_NO_ANCHORS, iv (8 : Int32), .unset] [(.ref w_NO_ANCHORS), (.int (8 : Int32))])) rfl rfl (hb hby d7_2) t k) ?_
  refine oY X0 hx (hb hby d7_3) (pc' := 14) (feq (by decide : ¬ ((8 : Int32) = (0 : Int32)))).2 (by decide) (by decide) ?_
  refine oI1 X0 hx (hb hby d7_14) (pc' := 15) rfl rfl ?_
  obtain ⟨T1, h1, k1, X1, e1, E1, A1, st1⟩ := newP X0 hx hZ (hw _ (List.mem_of_getElem? (i := 1) rfl)) e0 (g := (mkF m 15 #[rv w_NO_ANCHORS, iv (8 : Int32), .unset] [(.int (8 : Int32))])) rfl (hb hby d7_15) rfl (by decide) (cap := 8) (by decide) (by decide) (by decide) (by decide)
  obtain ⟨b1, g1⟩ : ∃ z, z = h0.size := ⟨_, rfl⟩
  rw [← g1] at A1 st1
  have V1 : Arv Z h1 b1 k1 .int (8 : Int32) [(.int (0 : Int32)), (.int (0 : Int32)), (.int (0 : Int32)), (.int (0 : Int32)), (.int (0 : Int32)), (.int (0 : Int32)), (.int (0 : Int32)), (.int (0 : Int32))] (.int (0 : Int32)) := (Arv.new A1 (by decide)).pad (pad_rep [] (.int (0 : Int32)) 8)
  have ge1_h0 : h0.size ≤ b1 := by rw [g1]; exact Nat.le_refl _
  have EX1_h0 : Ext h0 h1 := E1
  refine own_pre (T' := T1) (f' := (mkF m 17 #[rv w_NO_ANCHORS, iv (8 : Int32), .unset] [(.ref b1)])) (fun t k => st1 t k) ?_
  refine own_pre (T' := T1) (f' := (mkF m 18 #[rv w_NO_ANCHORS, iv (8 : Int32), rv b1] [])) (fun t k => XS.astoreN X1.here hx rfl (hb hby d7_17) rfl rfl (l' := #[rv w_NO_ANCHORS, iv (8 : Int32), rv b1]) rfl k) ?_
  refine oA1 X1 hx (hb hby d7_18) (pc' := 19) rfl rfl rfl ?_
  refine oC X1 hx (0 : Int32) (hb hby d7_19) (pc' := 20) rfl rfl ?_
  refine oA1 X1 hx (hb hby d7_20) (pc' := 21) rfl rfl rfl ?_
  refine oC X1 hx (0 : Int32) (hb hby d7_21) (pc' := 22) rfl rfl ?_
  refine oA1 X1 hx (hb hby d7_22) (pc' := 23) rfl rfl rfl ?_
  refine own_pre (T' := T1) (f' := (mkF m 24 #[rv w_NO_ANCHORS, iv (8 : Int32), rv b1] [(.int (0 : Int32)), (.int (0 : Int32)), (.ref b1), (.int (0 : Int32)), (.ref w_NO_ANCHORS)])) (fun t k => own_len X1 hx hZ e1 (V_NO_ANCHORS.ext EX1_h0) (g := (mkF m 23 #[rv w_NO_ANCHORS, iv (8 : Int32), rv b1] [(.ref w_NO_ANCHORS), (.int (0 : Int32)), (.ref b1), (.int (0 : Int32)), (.ref w_NO_ANCHORS)])) rfl rfl (hb hby d7_23) t k) ?_
  refine oI1 X1 hx (hb hby d7_24) (pc' := 25) rfl rfl ?_
  obtain ⟨T2, X2, e2, st2⟩ := own_pure (f := 0) (n := 0) (v := (some (.int (0 : Int32)))) (own_callS X1 hx hZ e1 (y := (⟨"java/lang/Math", "min", "(II)I"⟩ : MethodName)) hown (hw _ (List.mem_of_getElem? (i := 46) rfl)) (hw _ (List.mem_of_getElem? (i := 47) rfl)) (hw _ (List.mem_of_getElem? (i := 48) rfl)) (hw _ (List.mem_of_getElem? (i := 40) rfl)) (by decide) 4 [(.int (0 : Int32)), (.int (8 : Int32))] [(.int (0 : Int32)), (.ref b1), (.int (0 : Int32)), (.ref w_NO_ANCHORS)] (own_min l Z a0 hw [] w_NO_ANCHORS k_NO_ANCHORS h1 (own_F_ext F0 EX1_h0)) (by decide) (by decide) (by decide) (by decide) (g := (mkF m 25 #[rv w_NO_ANCHORS, iv (8 : Int32), rv b1] [(.int (8 : Int32)), (.int (0 : Int32)), (.int (0 : Int32)), (.ref b1), (.int (0 : Int32)), (.ref w_NO_ANCHORS)])) rfl (by rw [hml]; rfl) (lenOf pd_0 rfl) rfl (by show 2 * 0 + _ ≤ _; exact Nat.le_of_eq rfl) (hb hby d7_25))
  refine own_pre (T' := T2) (f' := (mkF m 28 #[rv w_NO_ANCHORS, iv (8 : Int32), rv b1] [(.int (0 : Int32)), (.int (0 : Int32)), (.ref b1), (.int (0 : Int32)), (.ref w_NO_ANCHORS)])) (fun t k => st2 t k) ?_
  obtain ⟨T3, h3, L3, Y3a, e3, N3, K3, Y3, st3⟩ := cpA X2 hx hZ hown (hw _ (List.mem_of_getElem? (i := 49) rfl)) (hw _ (List.mem_of_getElem? (i := 52) rfl)) (hw _ (List.mem_of_getElem? (i := 50) rfl)) (hw _ (List.mem_of_getElem? (i := 51) rfl)) e2 (V_NO_ANCHORS.ext EX1_h0) V1 (Or.inl ⟨rfl, rfl⟩) (by decide) (by decide) (by decide) (by decide) (by decide) (us := []) rfl (by decide) (n0 := h0.size) (Fr.nil _) ge1_h0 (g := (mkF m 28 #[rv w_NO_ANCHORS, iv (8 : Int32), rv b1] [(.int (0 : Int32)), (.int (0 : Int32)), (.ref b1), (.int (0 : Int32)), (.ref w_NO_ANCHORS)])) rfl (by rw [hml]; rfl) rfl (hb hby d7_28) (by decide) (W := 0) (by show 2 * 0 + _ ≤ _; exact Nat.le_of_eq rfl) (by decide)
  have X3 := Stand.forget (locs := []) (extra := L3) Y3a (fun y hy => by rw [hsh]; exact N3 y hy)
  have V3 : Arv Z h3 b1 k1 .int (8 : Int32) [(.int (0 : Int32)), (.int (0 : Int32)), (.int (0 : Int32)), (.int (0 : Int32)), (.int (0 : Int32)), (.int (0 : Int32)), (.int (0 : Int32)), (.int (0 : Int32))] (.int (0 : Int32)) := Y3
  have EX3_h0 : Ext h0 h3 := own_extK EX1_h0 K3 (allS ge1_h0 all0)
  refine own_pre (T' := T3) (f' := (mkF m 31 #[rv w_NO_ANCHORS, iv (8 : Int32), rv b1] [])) (fun t k => st3 t k) ?_
  refine oA1 X3 hx (hb hby d7_31) (pc' := 32) rfl rfl rfl ?_
  subst g1
  exact own_retR X3 hx hlk hret (hb hby d7_32) rfl rfl rfl (by rw [e3]; exact ⟨rfl, EX3_h0, ⟨_, V3⟩, rfl⟩) (by decide) (by decide)
theorem d1_0 : decode prog_37_method_1_code 0 = .ok (.aload_n 0, 1) := by decide +kernel
theorem d1_1 : decode prog_37_method_1_code 1 = .ok (.invokespecial 1, 3) := by decide +kernel
theorem d1_4 : decode prog_37_method_1_code 4 = .ok (.aload_n 0, 1) := by decide +kernel
theorem d1_5 : decode prog_37_method_1_code 5 = .ok (.getstatic 7, 3) := by decide +kernel
theorem d1_8 : decode prog_37_method_1_code 8 = .ok (.putfield 13, 3) := by decide +kernel
theorem d1_11 : decode prog_37_method_1_code 11 = .ok (.aload_n 0, 1) := by decide +kernel
theorem d1_12 : decode prog_37_method_1_code 12 = .ok (.getstatic 7, 3) := by decide +kernel
theorem d1_15 : decode prog_37_method_1_code 15 = .ok (.putfield 16, 3) := by decide +kernel
theorem d1_18 : decode prog_37_method_1_code 18 = .ok (.return_, 1) := by decide +kernel
set_option maxRecDepth 65536 in
set_option maxHeartbeats 40000000 in
theorem own_init (l : Launch) (Z : State) (a0 : Array Value) (hw : ∀ d ∈ tables_1, d.before a0 Z = true) (ws : List Jvm.Cond) (w_NO_ANCHORS : Addr) (k_NO_ANCHORS : ClassId) (h0 : Heap) (F : own_F Z h0 w_NO_ANCHORS k_NO_ANCHORS) (hB : Heap) (Fb : own_F Z hB w_NO_ANCHORS k_NO_ANCHORS) (o : Addr)  (B0 : own_Ob Z hB h0 o .null .null (0 : Int32) (0 : Int32)) :
    own_C l (⟨"com/example/orthonorm/orthonorm/sanskrit/Anchors", "<init>", "()V"⟩ : MethodName) prog_37_method_1_code 1 none ws (own_RC 1 0 0 12) #[(.ref o)] Z h0 (fun v h' L => v = none ∧ Fr hB.size L ∧ own_Ob Z hB h' o (.ref w_NO_ANCHORS) (.ref w_NO_ANCHORS) (0 : Int32) (0 : Int32)) := by
  have F0 := F
  obtain ⟨S_NO_ANCHORS, E_NO_ANCHORS, V_NO_ANCHORS⟩ := F
  refine own_enter (LS := #[rv o]) (plainFor_of_name (by first | (simp [plainName, overriddenIn, x]; done) | decide +kernel)) (fun m => by first | (simp [entryFrame, mkF, argsToLocals, Value.category, maxLocals]; done) | rfl) ?_
  intro p e s m below meth c s₁ hx hby hml hown0 hnm hret hlk hZ X0 e0 hsh
  have hown : s.vm.findClass "com/example/orthonorm/orthonorm/sanskrit/Anchors" = some m.cls := hown0
  have sn := own_snI hw
  have N0 := Fr.nil hB.size
  refine oA1 X0 hx (hb hby d1_0) (pc' := 1) rfl rfl rfl ?_
  obtain ⟨T1, X1, e1, st1⟩ := initO X0 hx hZ hown (hw _ (List.mem_of_getElem? (i := 8) rfl)) (hw _ (List.mem_of_getElem? (i := 9) rfl)) (hw _ (List.mem_of_getElem? (i := 10) rfl)) e0 (g := (mkF m 1 #[rv o] [(.ref o)])) rfl (by rw [hml]; rfl) rfl (hb hby d1_1) (by decide) (W := 0) (by show 2 * 0 + _ ≤ _; exact Nat.le_of_eq rfl) (by decide)
  refine own_pre (T' := T1) (f' := (mkF m 4 #[rv o] [])) (fun t k => st1 t k) ?_
  refine oA1 X1 hx (hb hby d1_4) (pc' := 5) rfl rfl rfl ?_
  obtain ⟨T2, X2, e2, st2⟩ := getS2 X1 hx hZ hown (host := "") (Or.inl (hw _ (List.mem_of_getElem? (i := 11) rfl))) Via.refl e1 (own_F_ext Fb (own_Ob_X B0)).1 (g := (mkF m 5 #[rv o] [(.ref o)])) rfl (hb hby d1_5)
  refine own_pre (T' := T2) (f' := (mkF m 8 #[rv o] [(.ref w_NO_ANCHORS), (.ref o)])) (fun t k => st2 t k) ?_
  obtain ⟨T3, h3, X3, e3, W3, st3⟩ := putF X2 hx hZ hown (host := "") (Or.inl (hw _ (List.mem_of_getElem? (i := 13) rfl))) Via.refl e2 (own_Ob_p B0) (own_Ob_E B0) (Or.inl (hw _ (List.mem_of_getElem? (i := 14) rfl))) (hw _ (List.mem_of_getElem? (i := 3) rfl)) (ty := (.array .int)) (by decide) rfl rfl (g := (mkF m 8 #[rv o] [(.ref w_NO_ANCHORS), (.ref o)])) rfl rfl (hb hby d1_8)
  have N3 := Fr.snoc X3 N0 (own_Ob_g B0)
  have B3 : own_Ob Z hB h3 o (.ref w_NO_ANCHORS) .null (0 : Int32) (0 : Int32) := own_Ob_wp sn B0 W3
  refine own_pre (T' := T3) (f' := (mkF m 11 #[rv o] [])) (fun t k => st3 t k) ?_
  refine oA1 X3 hx (hb hby d1_11) (pc' := 12) rfl rfl rfl ?_
  obtain ⟨T4, X4, e4, st4⟩ := getS2 X3 hx hZ hown (host := "") (Or.inl (hw _ (List.mem_of_getElem? (i := 11) rfl))) Via.refl e3 (own_F_ext Fb (own_Ob_X B3)).1 (g := (mkF m 12 #[rv o] [(.ref o)])) rfl (hb hby d1_12)
  refine own_pre (T' := T4) (f' := (mkF m 15 #[rv o] [(.ref w_NO_ANCHORS), (.ref o)])) (fun t k => st4 t k) ?_
  obtain ⟨T5, h5, X5, e5, W5, st5⟩ := putF X4 hx hZ hown (host := "") (Or.inl (hw _ (List.mem_of_getElem? (i := 15) rfl))) Via.refl e4 (own_Ob_o B3) (own_Ob_E B3) (Or.inl (hw _ (List.mem_of_getElem? (i := 16) rfl))) (hw _ (List.mem_of_getElem? (i := 3) rfl)) (ty := (.array .int)) (by decide) rfl rfl (g := (mkF m 15 #[rv o] [(.ref w_NO_ANCHORS), (.ref o)])) rfl rfl (hb hby d1_15)
  have N5 := Fr.snoc X5 N3 (own_Ob_g B3)
  have B5 : own_Ob Z hB h5 o (.ref w_NO_ANCHORS) (.ref w_NO_ANCHORS) (0 : Int32) (0 : Int32) := own_Ob_wo sn B3 W5
  refine own_pre (T' := T5) (f' := (mkF m 18 #[rv o] [])) (fun t k => st5 t k) ?_
  exact own_ret0 X5 hx hlk hret (hb hby d1_18) (by rw [e5]; exact ⟨rfl, N5, B5⟩) (by decide) (by decide)
theorem d5_0 : decode prog_37_method_2_code 0 = .ok (.aload_n 0, 1) := by decide +kernel
theorem d5_1 : decode prog_37_method_2_code 1 = .ok (.getfield 19, 3) := by decide +kernel
theorem d5_4 : decode prog_37_method_2_code 4 = .ok (.aload_n 0, 1) := by decide +kernel
theorem d5_5 : decode prog_37_method_2_code 5 = .ok (.getfield 23, 3) := by decide +kernel
theorem d5_8 : decode prog_37_method_2_code 8 = .ok (.if_icmp .le 31, 3) := by decide +kernel
theorem d5_39 : decode prog_37_method_2_code 39 = .ok (.aload_n 0, 1) := by decide +kernel
theorem d5_40 : decode prog_37_method_2_code 40 = .ok (.getfield 19, 3) := by decide +kernel
theorem d5_43 : decode prog_37_method_2_code 43 = .ok (.aload_n 0, 1) := by decide +kernel
theorem d5_44 : decode prog_37_method_2_code 44 = .ok (.getfield 13, 3) := by decide +kernel
theorem d5_47 : decode prog_37_method_2_code 47 = .ok (.arraylength, 1) := by decide +kernel
theorem d5_48 : decode prog_37_method_2_code 48 = .ok (.if_icmp .ne 39, 3) := by decide +kernel
theorem d5_51 : decode prog_37_method_2_code 51 = .ok (.bipush 8, 2) := by decide +kernel
theorem d5_53 : decode prog_37_method_2_code 53 = .ok (.aload_n 0, 1) := by decide +kernel
theorem d5_54 : decode prog_37_method_2_code 54 = .ok (.getfield 19, 3) := by decide +kernel
theorem d5_57 : decode prog_37_method_2_code 57 = .ok (.iconst 2, 1) := by decide +kernel
theorem d5_58 : decode prog_37_method_2_code 58 = .ok (.imul, 1) := by decide +kernel
theorem d5_59 : decode prog_37_method_2_code 59 = .ok (.invokestatic 26, 3) := by decide +kernel
theorem d5_62 : decode prog_37_method_2_code 62 = .ok (.istore_n 3, 1) := by decide +kernel
theorem d5_63 : decode prog_37_method_2_code 63 = .ok (.aload_n 0, 1) := by decide +kernel
theorem d5_64 : decode prog_37_method_2_code 64 = .ok (.aload_n 0, 1) := by decide +kernel
theorem d5_65 : decode prog_37_method_2_code 65 = .ok (.getfield 13, 3) := by decide +kernel
theorem d5_68 : decode prog_37_method_2_code 68 = .ok (.iload_n 3, 1) := by decide +kernel
theorem d5_69 : decode prog_37_method_2_code 69 = .ok (.invokestatic 32, 3) := by decide +kernel
theorem d5_72 : decode prog_37_method_2_code 72 = .ok (.putfield 13, 3) := by decide +kernel
theorem d5_75 : decode prog_37_method_2_code 75 = .ok (.aload_n 0, 1) := by decide +kernel
theorem d5_76 : decode prog_37_method_2_code 76 = .ok (.aload_n 0, 1) := by decide +kernel
theorem d5_77 : decode prog_37_method_2_code 77 = .ok (.getfield 16, 3) := by decide +kernel
theorem d5_80 : decode prog_37_method_2_code 80 = .ok (.iload_n 3, 1) := by decide +kernel
theorem d5_81 : decode prog_37_method_2_code 81 = .ok (.invokestatic 32, 3) := by decide +kernel
theorem d5_84 : decode prog_37_method_2_code 84 = .ok (.putfield 16, 3) := by decide +kernel
theorem d5_87 : decode prog_37_method_2_code 87 = .ok (.aload_n 0, 1) := by decide +kernel
theorem d5_88 : decode prog_37_method_2_code 88 = .ok (.getfield 13, 3) := by decide +kernel
theorem d5_91 : decode prog_37_method_2_code 91 = .ok (.aload_n 0, 1) := by decide +kernel
theorem d5_92 : decode prog_37_method_2_code 92 = .ok (.getfield 19, 3) := by decide +kernel
theorem d5_95 : decode prog_37_method_2_code 95 = .ok (.iload_n 1, 1) := by decide +kernel
theorem d5_96 : decode prog_37_method_2_code 96 = .ok (.iastore, 1) := by decide +kernel
theorem d5_97 : decode prog_37_method_2_code 97 = .ok (.aload_n 0, 1) := by decide +kernel
theorem d5_98 : decode prog_37_method_2_code 98 = .ok (.getfield 16, 3) := by decide +kernel
theorem d5_101 : decode prog_37_method_2_code 101 = .ok (.aload_n 0, 1) := by decide +kernel
theorem d5_102 : decode prog_37_method_2_code 102 = .ok (.getfield 19, 3) := by decide +kernel
theorem d5_105 : decode prog_37_method_2_code 105 = .ok (.iload_n 2, 1) := by decide +kernel
theorem d5_106 : decode prog_37_method_2_code 106 = .ok (.iastore, 1) := by decide +kernel
theorem d5_107 : decode prog_37_method_2_code 107 = .ok (.aload_n 0, 1) := by decide +kernel
theorem d5_108 : decode prog_37_method_2_code 108 = .ok (.dup, 1) := by decide +kernel
theorem d5_109 : decode prog_37_method_2_code 109 = .ok (.getfield 19, 3) := by decide +kernel
theorem d5_112 : decode prog_37_method_2_code 112 = .ok (.iconst 1, 1) := by decide +kernel
theorem d5_113 : decode prog_37_method_2_code 113 = .ok (.iadd, 1) := by decide +kernel
theorem d5_114 : decode prog_37_method_2_code 114 = .ok (.putfield 19, 3) := by decide +kernel
theorem d5_117 : decode prog_37_method_2_code 117 = .ok (.return_, 1) := by decide +kernel
set_option maxRecDepth 65536 in
set_option maxHeartbeats 40000000 in
theorem own_add1 (l : Launch) (Z : State) (a0 : Array Value) (hw : ∀ d ∈ tables_1, d.before a0 Z = true) (ws : List Jvm.Cond) (w_NO_ANCHORS : Addr) (k_NO_ANCHORS : ClassId) (h0 : Heap) (F : own_F Z h0 w_NO_ANCHORS k_NO_ANCHORS) (hB : Heap) (Fb : own_F Z hB w_NO_ANCHORS k_NO_ANCHORS) (o : Addr) (x1 x2 : Int32) (B0 : own_Ob Z hB h0 o (.ref w_NO_ANCHORS) (.ref w_NO_ANCHORS) (0 : Int32) (0 : Int32)) :
    own_C l (⟨"com/example/orthonorm/orthonorm/sanskrit/Anchors", "add", "(II)V"⟩ : MethodName) prog_37_method_2_code 4 none ws (own_RC 2 2 16 60) #[(.ref o), (.int x1), (.int x2)] Z h0 (fun v h' L => v = none ∧ Fr hB.size L ∧ ∃ P O kP kO, own_An Z hB h' o P O kP kO [(.int x1), (.int (0 : Int32)), (.int (0 : Int32)), (.int (0 : Int32)), (.int (0 : Int32)), (.int (0 : Int32)), (.int (0 : Int32)), (.int (0 : Int32))] [(.int x2), (.int (0 : Int32)), (.int (0 : Int32)), (.int (0 : Int32)), (.int (0 : Int32)), (.int (0 : Int32)), (.int (0 : Int32)), (.int (0 : Int32))] (1 : Int32) (0 : Int32)) := by
  have F0 := F
  obtain ⟨S_NO_ANCHORS, E_NO_ANCHORS, V_NO_ANCHORS⟩ := F
  refine own_enter (LS := #[rv o, iv x1, iv x2, .unset]) (plainFor_of_name (by first | (simp [plainName, overriddenIn, x]; done) | decide +kernel)) (fun m => by first | (simp [entryFrame, mkF, argsToLocals, Value.category, maxLocals]; done) | rfl) ?_
  intro p e s m below meth c s₁ hx hby hml hown0 hnm hret hlk hZ X0 e0 hsh
  have hown : s.vm.findClass "com/example/orthonorm/orthonorm/sanskrit/Anchors" = some m.cls := hown0
  have sn := own_snI hw
  have N0 := Fr.nil hB.size
  refine oA1 X0 hx (hb hby d5_0) (pc' := 1) rfl rfl rfl ?_
  obtain ⟨T1, X1, e1, st1⟩ := getF X0 hx hZ hown (host := "") (Or.inl (hw _ (List.mem_of_getElem? (i := 24) rfl))) Via.refl e0 (own_Ob_s B0) (g := (mkF m 1 #[rv o, iv x1, iv x2, .unset] [(.ref o)])) rfl rfl (hb hby d5_1)
  refine own_pre (T' := T1) (f' := (mkF m 4 #[rv o, iv x1, iv x2, .unset] [(.int (0 : Int32))])) (fun t k => st1 t k) ?_
  refine oA1 X1 hx (hb hby d5_4) (pc' := 5) rfl rfl rfl ?_
  obtain ⟨T2, X2, e2, st2⟩ := getF X1 hx hZ hown (host := "") (Or.inl (hw _ (List.mem_of_getElem? (i := 22) rfl))) Via.refl e1 (own_Ob_t B0) (g := (mkF m 5 #[rv o, iv x1, iv x2, .unset] [(.ref o), (.int (0 : Int32))])) rfl rfl (hb hby d5_5)
  refine own_pre (T' := T2) (f' := (mkF m 8 #[rv o, iv x1, iv x2, .unset] [(.int (0 : Int32)), (.int (0 : Int32))])) (fun t k => st2 t k) ?_
  refine oY X2 hx (hb hby d5_8) (pc' := 39) (flt (by decide : ¬ ((0 : Int32) < (0 : Int32)))).2.2.2 (by decide) (by decide) ?_
  refine oA1 X2 hx (hb hby d5_39) (pc' := 40) rfl rfl rfl ?_
  obtain ⟨T3, X3, e3, st3⟩ := getF X2 hx hZ hown (host := "") (Or.inl (hw _ (List.mem_of_getElem? (i := 24) rfl))) Via.refl e2 (own_Ob_s B0) (g := (mkF m 40 #[rv o, iv x1, iv x2, .unset] [(.ref o)])) rfl rfl (hb hby d5_40)
  refine own_pre (T' := T3) (f' := (mkF m 43 #[rv o, iv x1, iv x2, .unset] [(.int (0 : Int32))])) (fun t k => st3 t k) ?_
  refine oA1 X3 hx (hb hby d5_43) (pc' := 44) rfl rfl rfl ?_
  obtain ⟨T4, X4, e4, st4⟩ := getF X3 hx hZ hown (host := "") (Or.inl (hw _ (List.mem_of_getElem? (i := 13) rfl))) Via.refl e3 (own_Ob_p B0) (g := (mkF m 44 #[rv o, iv x1, iv x2, .unset] [(.ref o), (.int (0 : Int32))])) rfl rfl (hb hby d5_44)
  refine own_pre (T' := T4) (f' := (mkF m 47 #[rv o, iv x1, iv x2, .unset] [(.ref w_NO_ANCHORS), (.int (0 : Int32))])) (fun t k => st4 t k) ?_
  refine own_pre (T' := T4) (f' := (mkF m 48 #[rv o, iv x1, iv x2, .unset] [(.int (0 : Int32)), (.int (0 : Int32))])) (fun t k => own_len X4 hx hZ e4 (own_F_ext Fb (own_Ob_X B0)).2.2 (g := (mkF m 47 #[rv o, iv x1, iv x2, .unset] [(.ref w_NO_ANCHORS), (.int (0 : Int32))])) rfl rfl (hb hby d5_47) t k) ?_
  refine oN X4 hx (hb hby d5_48) (pc' := 51) rfl (teq (by decide : (0 : Int32) = (0 : Int32))).2 ?_
  refine own_pre (T' := T4) (f' := (mkF m 53 #[rv o, iv x1, iv x2, .unset] [(.int (8 : Int32))])) (fun t k => XS.bipush X4.here hx rfl (hb hby d5_51) k) ?_
  refine oA1 X4 hx (hb hby d5_53) (pc' := 54) rfl rfl rfl ?_
  obtain ⟨T5, X5, e5, st5⟩ := getF X4 hx hZ hown (host := "") (Or.inl (hw _ (List.mem_of_getElem? (i := 24) rfl))) Via.refl e4 (own_Ob_s B0) (g := (mkF m 54 #[rv o, iv x1, iv x2, .unset] [(.ref o), (.int (8 : Int32))])) rfl rfl (hb hby d5_54)
  refine own_pre (T' := T5) (f' := (mkF m 57 #[rv o, iv x1, iv x2, .unset] [(.int (0 : Int32)), (.int (8 : Int32))])) (fun t k => st5 t k) ?_
  refine oC X5 hx (2 : Int32) (hb hby d5_57) (pc' := 58) rfl rfl ?_
  refine own_pre (T' := T5) (f' := (mkF m 59 #[rv o, iv x1, iv x2, .unset] [(.int ((0 : Int32) * (2 : Int32))), (.int (8 : Int32))])) (fun t k => XS.imul X5.here hx rfl (hb hby d5_58) rfl k) ?_
  rw [show ((0 : Int32) * (2 : Int32)) = (0 : Int32) from by decide]
  obtain ⟨T6, X6, e6, st6⟩ := own_pure (f := 0) (n := 0) (v := (some (.int (8 : Int32)))) (own_callS X5 hx hZ e5 (y := (⟨"java/lang/Math", "max", "(II)I"⟩ : MethodName)) hown (hw _ (List.mem_of_getElem? (i := 38) rfl)) (hw _ (List.mem_of_getElem? (i := 39) rfl)) (hw _ (List.mem_of_getElem? (i := 41) rfl)) (hw _ (List.mem_of_getElem? (i := 40) rfl)) (by decide) 0 [(.int (8 : Int32)), (.int (0 : Int32))] [] (own_max l Z a0 hw [] w_NO_ANCHORS k_NO_ANCHORS h0 (own_F_ext Fb (own_Ob_X B0))) (by decide) (by decide) (by decide) (by decide) (g := (mkF m 59 #[rv o, iv x1, iv x2, .unset] [(.int (0 : Int32)), (.int (8 : Int32))])) rfl (by rw [hml]; rfl) (lenOf pd_0 rfl) rfl (by show 2 * 0 + _ ≤ _; exact Nat.le_of_eq rfl) (hb hby d5_59))
  refine own_pre (T' := T6) (f' := (mkF m 62 #[rv o, iv x1, iv x2, .unset] [(.int (8 : Int32))])) (fun t k => st6 t k) ?_
  refine own_pre (T' := T6) (f' := (mkF m 63 #[rv o, iv x1, iv x2, iv (8 : Int32)] [])) (fun t k => XS.istoreN X6.here hx rfl (hb hby d5_62) rfl (l' := #[rv o, iv x1, iv x2, iv (8 : Int32)]) rfl k) ?_
  refine oA1 X6 hx (hb hby d5_63) (pc' := 64) rfl rfl rfl ?_
  refine oA1 X6 hx (hb hby d5_64) (pc' := 65) rfl rfl rfl ?_
  obtain ⟨T7, X7, e7, st7⟩ := getF X6 hx hZ hown (host := "") (Or.inl (hw _ (List.mem_of_getElem? (i := 13) rfl))) Via.refl e6 (own_Ob_p B0) (g := (mkF m 65 #[rv o, iv x1, iv x2, iv (8 : Int32)] [(.ref o), (.ref o)])) rfl rfl (hb hby d5_65)
  refine own_pre (T' := T7) (f' := (mkF m 68 #[rv o, iv x1, iv x2, iv (8 : Int32)] [(.ref w_NO_ANCHORS), (.ref o)])) (fun t k => st7 t k) ?_
  refine oI1 X7 hx (hb hby d5_68) (pc' := 69) rfl rfl ?_
  obtain ⟨T8, h8, X8, e8, E8, A8, st8⟩ := own_grow (R' := own_RC 1 1 8 40) (v := some (.ref h0.size)) (own_callS X7 hx hZ e7 (y := (⟨"java/util/Arrays", "copyOf", "([II)[I"⟩ : MethodName)) hown (hw _ (List.mem_of_getElem? (i := 42) rfl)) (hw _ (List.mem_of_getElem? (i := 43) rfl)) (hw _ (List.mem_of_getElem? (i := 45) rfl)) (hw _ (List.mem_of_getElem? (i := 44) rfl)) (by decide) 1 [(.ref w_NO_ANCHORS), (.int (8 : Int32))] [(.ref o)] (own_copy l Z a0 hw [] w_NO_ANCHORS k_NO_ANCHORS h0 (own_F_ext Fb (own_Ob_X B0))) (by decide) (by decide) (by decide) (by decide) (g := (mkF m 69 #[rv o, iv x1, iv x2, iv (8 : Int32)] [(.int (8 : Int32)), (.ref w_NO_ANCHORS), (.ref o)])) rfl (by rw [hml]; rfl) (lenOf pd_1 rfl) rfl (by show 2 * 0 + _ ≤ _; exact Nat.le_of_eq rfl) (hb hby d5_69))
  obtain ⟨b8, g8⟩ : ∃ z, z = h0.size := ⟨_, rfl⟩
  rw [← g8] at A8 st8
  obtain ⟨k8, Vb8⟩ := A8
  have ne8 : o ≠ b8 := Nat.ne_of_lt (Nat.lt_of_lt_of_le (own_Ob_E B0).lt (Nat.le_of_eq g8.symm))
  have ge8 : hB.size ≤ b8 := Nat.le_trans (own_Ob_X B0).1 (Nat.le_of_eq g8.symm)
  have B8 : own_Ob Z hB h8 o (.ref w_NO_ANCHORS) (.ref w_NO_ANCHORS) (0 : Int32) (0 : Int32) := own_Ob_ext B0 E8
  refine own_pre (T' := T8) (f' := (mkF m 72 #[rv o, iv x1, iv x2, iv (8 : Int32)] [(.ref b8), (.ref o)])) (fun t k => st8 t k) ?_
  obtain ⟨T9, h9, X9, e9, W9, st9⟩ := putF X8 hx hZ hown (host := "") (Or.inl (hw _ (List.mem_of_getElem? (i := 13) rfl))) Via.refl e8 (own_Ob_p B8) (own_Ob_E B8) (Or.inl (hw _ (List.mem_of_getElem? (i := 14) rfl))) (hw _ (List.mem_of_getElem? (i := 3) rfl)) (ty := (.array .int)) (by decide) rfl rfl (g := (mkF m 72 #[rv o, iv x1, iv x2, iv (8 : Int32)] [(.ref b8), (.ref o)])) rfl rfl (hb hby d5_72)
  have N9 := Fr.snoc X9 N0 (own_Ob_g B8)
  have B9 : own_Ob Z hB h9 o (.ref b8) (.ref w_NO_ANCHORS) (0 : Int32) (0 : Int32) := own_Ob_wp sn B8 W9
  have Vb8_9 := Vb8.other W9 (Ne.symm ne8)
  refine own_pre (T' := T9) (f' := (mkF m 75 #[rv o, iv x1, iv x2, iv (8 : Int32)] [])) (fun t k => st9 t k) ?_
  refine oA1 X9 hx (hb hby d5_75) (pc' := 76) rfl rfl rfl ?_
  refine oA1 X9 hx (hb hby d5_76) (pc' := 77) rfl rfl rfl ?_
  obtain ⟨T10, X10, e10, st10⟩ := getF X9 hx hZ hown (host := "") (Or.inl (hw _ (List.mem_of_getElem? (i := 15) rfl))) Via.refl e9 (own_Ob_o B9) (g := (mkF m 77 #[rv o, iv x1, iv x2, iv (8 : Int32)] [(.ref o), (.ref o)])) rfl rfl (hb hby d5_77)
  refine own_pre (T' := T10) (f' := (mkF m 80 #[rv o, iv x1, iv x2, iv (8 : Int32)] [(.ref w_NO_ANCHORS), (.ref o)])) (fun t k => st10 t k) ?_
  refine oI1 X10 hx (hb hby d5_80) (pc' := 81) rfl rfl ?_
  obtain ⟨T11, h11, X11, e11, E11, A11, st11⟩ := own_grow (R' := own_RC 1 1 8 40) (v := some (.ref h9.size)) (own_callS X10 hx hZ e10 (y := (⟨"java/util/Arrays", "copyOf", "([II)[I"⟩ : MethodName)) hown (hw _ (List.mem_of_getElem? (i := 42) rfl)) (hw _ (List.mem_of_getElem? (i := 43) rfl)) (hw _ (List.mem_of_getElem? (i := 45) rfl)) (hw _ (List.mem_of_getElem? (i := 44) rfl)) (by decide) 1 [(.ref w_NO_ANCHORS), (.int (8 : Int32))] [(.ref o)] (own_copy l Z a0 hw [] w_NO_ANCHORS k_NO_ANCHORS h9 (own_F_ext Fb (own_Ob_X B9))) (by decide) (by decide) (by decide) (by decide) (g := (mkF m 81 #[rv o, iv x1, iv x2, iv (8 : Int32)] [(.int (8 : Int32)), (.ref w_NO_ANCHORS), (.ref o)])) rfl (by rw [hml]; rfl) (lenOf pd_1 rfl) rfl (by show 2 * 0 + _ ≤ _; exact Nat.le_of_eq rfl) (hb hby d5_81))
  obtain ⟨b11, g11⟩ : ∃ z, z = h9.size := ⟨_, rfl⟩
  rw [← g11] at A11 st11
  obtain ⟨k11, Vb11⟩ := A11
  have ne11 : o ≠ b11 := Nat.ne_of_lt (Nat.lt_of_lt_of_le (own_Ob_E B9).lt (Nat.le_of_eq g11.symm))
  have ge11 : hB.size ≤ b11 := Nat.le_trans (own_Ob_X B9).1 (Nat.le_of_eq g11.symm)
  have nf11 : b8 ≠ b11 := Nat.ne_of_lt (Nat.lt_of_lt_of_le (Arv.lt Vb8_9) (Nat.le_of_eq g11.symm))
  have Vb8_11 := Vb8_9.ext E11
  have B11 : own_Ob Z hB h11 o (.ref b8) (.ref w_NO_ANCHORS) (0 : Int32) (0 : Int32) := own_Ob_ext B9 E11
  refine own_pre (T' := T11) (f' := (mkF m 84 #[rv o, iv x1, iv x2, iv (8 : Int32)] [(.ref b11), (.ref o)])) (fun t k => st11 t k) ?_
  obtain ⟨T12, h12, X12, e12, W12, st12⟩ := putF X11 hx hZ hown (host := "") (Or.inl (hw _ (List.mem_of_getElem? (i := 15) rfl))) Via.refl e11 (own_Ob_o B11) (own_Ob_E B11) (Or.inl (hw _ (List.mem_of_getElem? (i := 16) rfl))) (hw _ (List.mem_of_getElem? (i := 3) rfl)) (ty := (.array .int)) (by decide) rfl rfl (g := (mkF m 84 #[rv o, iv x1, iv x2, iv (8 : Int32)] [(.ref b11), (.ref o)])) rfl rfl (hb hby d5_84)
  have N12 := Fr.snoc X12 N9 (own_Ob_g B11)
  have B12 : own_Ob Z hB h12 o (.ref b8) (.ref b11) (0 : Int32) (0 : Int32) := own_Ob_wo sn B11 W12
  have Vb8_12 := Vb8_11.other W12 (Ne.symm ne8)
  have Vb11_12 := Vb11.other W12 (Ne.symm ne11)
  refine own_pre (T' := T12) (f' := (mkF m 87 #[rv o, iv x1, iv x2, iv (8 : Int32)] [])) (fun t k => st12 t k) ?_
  have C12 : own_An Z hB h12 o b8 b11 k8 k11 [(.int (0 : Int32)), (.int (0 : Int32)), (.int (0 : Int32)), (.int (0 : Int32)), (.int (0 : Int32)), (.int (0 : Int32)), (.int (0 : Int32)), (.int (0 : Int32))] [(.int (0 : Int32)), (.int (0 : Int32)), (.int (0 : Int32)), (.int (0 : Int32)), (.int (0 : Int32)), (.int (0 : Int32)), (.int (0 : Int32)), (.int (0 : Int32))] (0 : Int32) (0 : Int32) := ⟨B12, ⟨ge8, ge11, nf11, ne8, ne11⟩, Vb8_12, Vb11_12⟩
  refine oA1 X12 hx (hb hby d5_87) (pc' := 88) rfl rfl rfl ?_
  obtain ⟨T13, X13, e13, st13⟩ := getF X12 hx hZ hown (host := "") (Or.inl (hw _ (List.mem_of_getElem? (i := 13) rfl))) Via.refl e12 (own_Ob_p C12.1) (g := (mkF m 88 #[rv o, iv x1, iv x2, iv (8 : Int32)] [(.ref o)])) rfl rfl (hb hby d5_88)
  refine own_pre (T' := T13) (f' := (mkF m 91 #[rv o, iv x1, iv x2, iv (8 : Int32)] [(.ref b8)])) (fun t k => st13 t k) ?_
  refine oA1 X13 hx (hb hby d5_91) (pc' := 92) rfl rfl rfl ?_
  obtain ⟨T14, X14, e14, st14⟩ := getF X13 hx hZ hown (host := "") (Or.inl (hw _ (List.mem_of_getElem? (i := 24) rfl))) Via.refl e13 (own_Ob_s C12.1) (g := (mkF m 92 #[rv o, iv x1, iv x2, iv (8 : Int32)] [(.ref o), (.ref b8)])) rfl rfl (hb hby d5_92)
  refine own_pre (T' := T14) (f' := (mkF m 95 #[rv o, iv x1, iv x2, iv (8 : Int32)] [(.int (0 : Int32)), (.ref b8)])) (fun t k => st14 t k) ?_
  refine oI1 X14 hx (hb hby d5_95) (pc' := 96) rfl rfl ?_
  obtain ⟨T15, h15, X15, e15, W15, Y15, st15⟩ := own_stI X14 hx hZ e14 (own_An_vp C12) 0 rfl (Nat.le_of_ble_eq_true rfl) (by decide) (g := (mkF m 96 #[rv o, iv x1, iv x2, iv (8 : Int32)] [(.int x1), (.int (0 : Int32)), (.ref b8)])) rfl rfl (hb hby d5_96)
  have N15 := Fr.snoc X15 N12 C12.2.1.1
  have B15 : own_An Z hB h15 o b8 b11 k8 k11 [(.int x1), (.int (0 : Int32)), (.int (0 : Int32)), (.int (0 : Int32)), (.int (0 : Int32)), (.int (0 : Int32)), (.int (0 : Int32)), (.int (0 : Int32))] [(.int (0 : Int32)), (.int (0 : Int32)), (.int (0 : Int32)), (.int (0 : Int32)), (.int (0 : Int32)), (.int (0 : Int32)), (.int (0 : Int32)), (.int (0 : Int32))] (0 : Int32) (0 : Int32) := own_An_aP C12 W15 Y15
  refine own_pre (T' := T15) (f' := (mkF m 97 #[rv o, iv x1, iv x2, iv (8 : Int32)] [])) (fun t k => st15 t k) ?_
  refine oA1 X15 hx (hb hby d5_97) (pc' := 98) rfl rfl rfl ?_
  obtain ⟨T16, X16, e16, st16⟩ := getF X15 hx hZ hown (host := "") (Or.inl (hw _ (List.mem_of_getElem? (i := 15) rfl))) Via.refl e15 (own_Ob_o B15.1) (g := (mkF m 98 #[rv o, iv x1, iv x2, iv (8 : Int32)] [(.ref o)])) rfl rfl (hb hby d5_98)
  refine own_pre (T' := T16) (f' := (mkF m 101 #[rv o, iv x1, iv x2, iv (8 : Int32)] [(.ref b11)])) (fun t k => st16 t k) ?_
  refine oA1 X16 hx (hb hby d5_101) (pc' := 102) rfl rfl rfl ?_
  obtain ⟨T17, X17, e17, st17⟩ := getF X16 hx hZ hown (host := "") (Or.inl (hw _ (List.mem_of_getElem? (i := 24) rfl))) Via.refl e16 (own_Ob_s B15.1) (g := (mkF m 102 #[rv o, iv x1, iv x2, iv (8 : Int32)] [(.ref o), (.ref b11)])) rfl rfl (hb hby d5_102)
  refine own_pre (T' := T17) (f' := (mkF m 105 #[rv o, iv x1, iv x2, iv (8 : Int32)] [(.int (0 : Int32)), (.ref b11)])) (fun t k => st17 t k) ?_
  refine oI1 X17 hx (hb hby d5_105) (pc' := 106) rfl rfl ?_
  obtain ⟨T18, h18, X18, e18, W18, Y18, st18⟩ := own_stI X17 hx hZ e17 (own_An_vo B15) 0 rfl (Nat.le_of_ble_eq_true rfl) (by decide) (g := (mkF m 106 #[rv o, iv x1, iv x2, iv (8 : Int32)] [(.int x2), (.int (0 : Int32)), (.ref b11)])) rfl rfl (hb hby d5_106)
  have N18 := Fr.snoc X18 N15 B15.2.1.2.1
  have B18 : own_An Z hB h18 o b8 b11 k8 k11 [(.int x1), (.int (0 : Int32)), (.int (0 : Int32)), (.int (0 : Int32)), (.int (0 : Int32)), (.int (0 : Int32)), (.int (0 : Int32)), (.int (0 : Int32))] [(.int x2), (.int (0 : Int32)), (.int (0 : Int32)), (.int (0 : Int32)), (.int (0 : Int32)), (.int (0 : Int32)), (.int (0 : Int32)), (.int (0 : Int32))] (0 : Int32) (0 : Int32) := own_An_aO B15 W18 Y18
  refine own_pre (T' := T18) (f' := (mkF m 107 #[rv o, iv x1, iv x2, iv (8 : Int32)] [])) (fun t k => st18 t k) ?_
  refine oA1 X18 hx (hb hby d5_107) (pc' := 108) rfl rfl rfl ?_
  refine oD X18 hx (hb hby d5_108) (pc' := 109) rfl rfl ?_
  obtain ⟨T19, X19, e19, st19⟩ := getF X18 hx hZ hown (host := "") (Or.inl (hw _ (List.mem_of_getElem? (i := 24) rfl))) Via.refl e18 (own_Ob_s B18.1) (g := (mkF m 109 #[rv o, iv x1, iv x2, iv (8 : Int32)] [(.ref o), (.ref o)])) rfl rfl (hb hby d5_109)
  refine own_pre (T' := T19) (f' := (mkF m 112 #[rv o, iv x1, iv x2, iv (8 : Int32)] [(.int (0 : Int32)), (.ref o)])) (fun t k => st19 t k) ?_
  refine oC X19 hx (1 : Int32) (hb hby d5_112) (pc' := 113) rfl rfl ?_
  refine own_pre (T' := T19) (f' := (mkF m 114 #[rv o, iv x1, iv x2, iv (8 : Int32)] [(.int ((0 : Int32) + (1 : Int32))), (.ref o)])) (fun t k => XS.iadd X19.here hx rfl (hb hby d5_113) rfl k) ?_
  rw [show ((0 : Int32) + (1 : Int32)) = (1 : Int32) from by decide]
  obtain ⟨T20, h20, X20, e20, W20, st20⟩ := putF X19 hx hZ hown (host := "") (Or.inl (hw _ (List.mem_of_getElem? (i := 24) rfl))) Via.refl e19 (own_Ob_s B18.1) (own_Ob_E B18.1) (Or.inl (hw _ (List.mem_of_getElem? (i := 25) rfl))) (hw _ (List.mem_of_getElem? (i := 3) rfl)) (ty := .int) (by decide) rfl rfl (g := (mkF m 114 #[rv o, iv x1, iv x2, iv (8 : Int32)] [(.int (1 : Int32)), (.ref o)])) rfl rfl (hb hby d5_114)
  have N20 := Fr.snoc X20 N18 (own_Ob_g B18.1)
  have B20 : own_An Z hB h20 o b8 b11 k8 k11 [(.int x1), (.int (0 : Int32)), (.int (0 : Int32)), (.int (0 : Int32)), (.int (0 : Int32)), (.int (0 : Int32)), (.int (0 : Int32)), (.int (0 : Int32))] [(.int x2), (.int (0 : Int32)), (.int (0 : Int32)), (.int (0 : Int32)), (.int (0 : Int32)), (.int (0 : Int32)), (.int (0 : Int32)), (.int (0 : Int32))] (1 : Int32) (0 : Int32) := own_An_ws sn B18 W20
  refine own_pre (T' := T20) (f' := (mkF m 117 #[rv o, iv x1, iv x2, iv (8 : Int32)] [])) (fun t k => st20 t k) ?_
  exact own_ret0 X20 hx hlk hret (hb hby d5_117) (by rw [e20]; exact ⟨rfl, N20, _, _, _, _, B20⟩) (by decide) (by decide)
theorem d5_11 : decode prog_37_method_2_code 11 = .ok (.aload_n 0, 1) := by decide +kernel
theorem d5_12 : decode prog_37_method_2_code 12 = .ok (.getfield 13, 3) := by decide +kernel
theorem d5_15 : decode prog_37_method_2_code 15 = .ok (.aload_n 0, 1) := by decide +kernel
theorem d5_16 : decode prog_37_method_2_code 16 = .ok (.getfield 19, 3) := by decide +kernel
theorem d5_19 : decode prog_37_method_2_code 19 = .ok (.iconst 1, 1) := by decide +kernel
theorem d5_20 : decode prog_37_method_2_code 20 = .ok (.isub, 1) := by decide +kernel
theorem d5_21 : decode prog_37_method_2_code 21 = .ok (.iaload, 1) := by decide +kernel
theorem d5_22 : decode prog_37_method_2_code 22 = .ok (.iload_n 1, 1) := by decide +kernel
theorem d5_23 : decode prog_37_method_2_code 23 = .ok (.if_icmp .ne 16, 3) := by decide +kernel
set_option maxRecDepth 65536 in
set_option maxHeartbeats 40000000 in
theorem own_add_1 (l : Launch) (Z : State) (a0 : Array Value) (hw : ∀ d ∈ tables_1, d.before a0 Z = true) (ws : List Jvm.Cond) (w_NO_ANCHORS : Addr) (k_NO_ANCHORS : ClassId) (h0 : Heap) (F : own_F Z h0 w_NO_ANCHORS k_NO_ANCHORS) (hB : Heap) (Fb : own_F Z hB w_NO_ANCHORS k_NO_ANCHORS) (o : Addr) (P O : Addr) (kP kO : ClassId) (v0 v1 v2 v3 v4 v5 v6 v7 u0 u1 u2 u3 u4 u5 u6 u7 : Int32)  (B0 : own_An Z hB h0 o P O kP kO [(.int v0), (.int v1), (.int v2), (.int v3), (.int v4), (.int v5), (.int v6), (.int v7)] [(.int u0), (.int u1), (.int u2), (.int u3), (.int u4), (.int u5), (.int u6), (.int u7)] (1 : Int32) (0 : Int32)) (x1 x2 : Int32) (hn : ¬ (v0 = x1)) :
    own_C l (⟨"com/example/orthonorm/orthonorm/sanskrit/Anchors", "add", "(II)V"⟩ : MethodName) prog_37_method_2_code 4 none ws (own_RC 0 0 0 0) #[(.ref o), (.int x1), (.int x2)] Z h0 (fun v h' L => v = none ∧ Fr hB.size L ∧ own_An Z hB h' o P O kP kO [(.int v0), (.int x1), (.int v2), (.int v3), (.int v4), (.int v5), (.int v6), (.int v7)] [(.int u0), (.int x2), (.int u2), (.int u3), (.int u4), (.int u5), (.int u6), (.int u7)] (2 : Int32) (0 : Int32)) := by
  have F0 := F
  obtain ⟨S_NO_ANCHORS, E_NO_ANCHORS, V_NO_ANCHORS⟩ := F
  refine own_enter (LS := #[rv o, iv x1, iv x2, .unset]) (plainFor_of_name (by first | (simp [plainName, overriddenIn, x]; done) | decide +kernel)) (fun m => by first | (simp [entryFrame, mkF, argsToLocals, Value.category, maxLocals]; done) | rfl) ?_
  intro p e s m below meth c s₁ hx hby hml hown0 hnm hret hlk hZ X0 e0 hsh
  have hown : s.vm.findClass "com/example/orthonorm/orthonorm/sanskrit/Anchors" = some m.cls := hown0
  have sn := own_snI hw
  have N0 := Fr.nil hB.size
  refine oA1 X0 hx (hb hby d5_0) (pc' := 1) rfl rfl rfl ?_
  obtain ⟨T1, X1, e1, st1⟩ := getF X0 hx hZ hown (host := "") (Or.inl (hw _ (List.mem_of_getElem? (i := 24) rfl))) Via.refl e0 (own_Ob_s B0.1) (g := (mkF m 1 #[rv o, iv x1, iv x2, .unset] [(.ref o)])) rfl rfl (hb hby d5_1)
  refine own_pre (T' := T1) (f' := (mkF m 4 #[rv o, iv x1, iv x2, .unset] [(.int (1 : Int32))])) (fun t k => st1 t k) ?_
  refine oA1 X1 hx (hb hby d5_4) (pc' := 5) rfl rfl rfl ?_
  obtain ⟨T2, X2, e2, st2⟩ := getF X1 hx hZ hown (host := "") (Or.inl (hw _ (List.mem_of_getElem? (i := 22) rfl))) Via.refl e1 (own_Ob_t B0.1) (g := (mkF m 5 #[rv o, iv x1, iv x2, .unset] [(.ref o), (.int (1 : Int32))])) rfl rfl (hb hby d5_5)
  refine own_pre (T' := T2) (f' := (mkF m 8 #[rv o, iv x1, iv x2, .unset] [(.int (0 : Int32)), (.int (1 : Int32))])) (fun t k => st2 t k) ?_
  refine oN X2 hx (hb hby d5_8) (pc' := 11) rfl (tlt (by decide : (0 : Int32) < (1 : Int32))).2.2.2 ?_
  refine oA1 X2 hx (hb hby d5_11) (pc' := 12) rfl rfl rfl ?_
  obtain ⟨T3, X3, e3, st3⟩ := getF X2 hx hZ hown (host := "") (Or.inl (hw _ (List.mem_of_getElem? (i := 13) rfl))) Via.refl e2 (own_Ob_p B0.1) (g := (mkF m 12 #[rv o, iv x1, iv x2, .unset] [(.ref o)])) rfl rfl (hb hby d5_12)
  refine own_pre (T' := T3) (f' := (mkF m 15 #[rv o, iv x1, iv x2, .unset] [(.ref P)])) (fun t k => st3 t k) ?_
  refine oA1 X3 hx (hb hby d5_15) (pc' := 16) rfl rfl rfl ?_
  obtain ⟨T4, X4, e4, st4⟩ := getF X3 hx hZ hown (host := "") (Or.inl (hw _ (List.mem_of_getElem? (i := 24) rfl))) Via.refl e3 (own_Ob_s B0.1) (g := (mkF m 16 #[rv o, iv x1, iv x2, .unset] [(.ref o), (.ref P)])) rfl rfl (hb hby d5_16)
  refine own_pre (T' := T4) (f' := (mkF m 19 #[rv o, iv x1, iv x2, .unset] [(.int (1 : Int32)), (.ref P)])) (fun t k => st4 t k) ?_
  refine oC X4 hx (1 : Int32) (hb hby d5_19) (pc' := 20) rfl rfl ?_
  refine own_pre (T' := T4) (f' := (mkF m 21 #[rv o, iv x1, iv x2, .unset] [(.int ((1 : Int32) - (1 : Int32))), (.ref P)])) (fun t k => XS.isub X4.here hx rfl (hb hby d5_20) rfl k) ?_
  rw [show ((1 : Int32) - (1 : Int32)) = (0 : Int32) from by decide]
  refine own_pre (T' := T4) (f' := (mkF m 22 #[rv o, iv x1, iv x2, .unset] [(.int v0)])) (fun t k => own_ldI X4 hx hZ e4 (own_An_vp B0) (by decide) rfl (g := (mkF m 21 #[rv o, iv x1, iv x2, .unset] [(.int (0 : Int32)), (.ref P)])) rfl rfl (hb hby d5_21) t k) ?_
  refine oI1 X4 hx (hb hby d5_22) (pc' := 23) rfl rfl ?_
  refine oY X4 hx (hb hby d5_23) (pc' := 39) (feq hn).2 (by decide) (by decide) ?_
  refine oA1 X4 hx (hb hby d5_39) (pc' := 40) rfl rfl rfl ?_
  obtain ⟨T5, X5, e5, st5⟩ := getF X4 hx hZ hown (host := "") (Or.inl (hw _ (List.mem_of_getElem? (i := 24) rfl))) Via.refl e4 (own_Ob_s B0.1) (g := (mkF m 40 #[rv o, iv x1, iv x2, .unset] [(.ref o)])) rfl rfl (hb hby d5_40)
  refine own_pre (T' := T5) (f' := (mkF m 43 #[rv o, iv x1, iv x2, .unset] [(.int (1 : Int32))])) (fun t k => st5 t k) ?_
  refine oA1 X5 hx (hb hby d5_43) (pc' := 44) rfl rfl rfl ?_
  obtain ⟨T6, X6, e6, st6⟩ := getF X5 hx hZ hown (host := "") (Or.inl (hw _ (List.mem_of_getElem? (i := 13) rfl))) Via.refl e5 (own_Ob_p B0.1) (g := (mkF m 44 #[rv o, iv x1, iv x2, .unset] [(.ref o), (.int (1 : Int32))])) rfl rfl (hb hby d5_44)
  refine own_pre (T' := T6) (f' := (mkF m 47 #[rv o, iv x1, iv x2, .unset] [(.ref P), (.int (1 : Int32))])) (fun t k => st6 t k) ?_
  refine own_pre (T' := T6) (f' := (mkF m 48 #[rv o, iv x1, iv x2, .unset] [(.int (8 : Int32)), (.int (1 : Int32))])) (fun t k => own_len X6 hx hZ e6 (own_An_vp B0) (g := (mkF m 47 #[rv o, iv x1, iv x2, .unset] [(.ref P), (.int (1 : Int32))])) rfl rfl (hb hby d5_47) t k) ?_
  refine oY X6 hx (hb hby d5_48) (pc' := 87) (feq (by decide : ¬ ((1 : Int32) = (8 : Int32)))).2 (by decide) (by decide) ?_
  refine oA1 X6 hx (hb hby d5_87) (pc' := 88) rfl rfl rfl ?_
  obtain ⟨T7, X7, e7, st7⟩ := getF X6 hx hZ hown (host := "") (Or.inl (hw _ (List.mem_of_getElem? (i := 13) rfl))) Via.refl e6 (own_Ob_p B0.1) (g := (mkF m 88 #[rv o, iv x1, iv x2, .unset] [(.ref o)])) rfl rfl (hb hby d5_88)
  refine own_pre (T' := T7) (f' := (mkF m 91 #[rv o, iv x1, iv x2, .unset] [(.ref P)])) (fun t k => st7 t k) ?_
  refine oA1 X7 hx (hb hby d5_91) (pc' := 92) rfl rfl rfl ?_
  obtain ⟨T8, X8, e8, st8⟩ := getF X7 hx hZ hown (host := "") (Or.inl (hw _ (List.mem_of_getElem? (i := 24) rfl))) Via.refl e7 (own_Ob_s B0.1) (g := (mkF m 92 #[rv o, iv x1, iv x2, .unset] [(.ref o), (.ref P)])) rfl rfl (hb hby d5_92)
  refine own_pre (T' := T8) (f' := (mkF m 95 #[rv o, iv x1, iv x2, .unset] [(.int (1 : Int32)), (.ref P)])) (fun t k => st8 t k) ?_
  refine oI1 X8 hx (hb hby d5_95) (pc' := 96) rfl rfl ?_
  obtain ⟨T9, h9, X9, e9, W9, Y9, st9⟩ := own_stI X8 hx hZ e8 (own_An_vp B0) 1 rfl (Nat.le_of_ble_eq_true rfl) (by decide) (g := (mkF m 96 #[rv o, iv x1, iv x2, .unset] [(.int x1), (.int (1 : Int32)), (.ref P)])) rfl rfl (hb hby d5_96)
  have N9 := Fr.snoc X9 N0 B0.2.1.1
  have B9 : own_An Z hB h9 o P O kP kO [(.int v0), (.int x1), (.int v2), (.int v3), (.int v4), (.int v5), (.int v6), (.int v7)] [(.int u0), (.int u1), (.int u2), (.int u3), (.int u4), (.int u5), (.int u6), (.int u7)] (1 : Int32) (0 : Int32) := own_An_aP B0 W9 Y9
  refine own_pre (T' := T9) (f' := (mkF m 97 #[rv o, iv x1, iv x2, .unset] [])) (fun t k => st9 t k) ?_
  refine oA1 X9 hx (hb hby d5_97) (pc' := 98) rfl rfl rfl ?_
  obtain ⟨T10, X10, e10, st10⟩ := getF X9 hx hZ hown (host := "") (Or.inl (hw _ (List.mem_of_getElem? (i := 15) rfl))) Via.refl e9 (own_Ob_o B9.1) (g := (mkF m 98 #[rv o, iv x1, iv x2, .unset] [(.ref o)])) rfl rfl (hb hby d5_98)
  refine own_pre (T' := T10) (f' := (mkF m 101 #[rv o, iv x1, iv x2, .unset] [(.ref O)])) (fun t k => st10 t k) ?_
  refine oA1 X10 hx (hb hby d5_101) (pc' := 102) rfl rfl rfl ?_
  obtain ⟨T11, X11, e11, st11⟩ := getF X10 hx hZ hown (host := "") (Or.inl (hw _ (List.mem_of_getElem? (i := 24) rfl))) Via.refl e10 (own_Ob_s B9.1) (g := (mkF m 102 #[rv o, iv x1, iv x2, .unset] [(.ref o), (.ref O)])) rfl rfl (hb hby d5_102)
  refine own_pre (T' := T11) (f' := (mkF m 105 #[rv o, iv x1, iv x2, .unset] [(.int (1 : Int32)), (.ref O)])) (fun t k => st11 t k) ?_
  refine oI1 X11 hx (hb hby d5_105) (pc' := 106) rfl rfl ?_
  obtain ⟨T12, h12, X12, e12, W12, Y12, st12⟩ := own_stI X11 hx hZ e11 (own_An_vo B9) 1 rfl (Nat.le_of_ble_eq_true rfl) (by decide) (g := (mkF m 106 #[rv o, iv x1, iv x2, .unset] [(.int x2), (.int (1 : Int32)), (.ref O)])) rfl rfl (hb hby d5_106)
  have N12 := Fr.snoc X12 N9 B9.2.1.2.1
  have B12 : own_An Z hB h12 o P O kP kO [(.int v0), (.int x1), (.int v2), (.int v3), (.int v4), (.int v5), (.int v6), (.int v7)] [(.int u0), (.int x2), (.int u2), (.int u3), (.int u4), (.int u5), (.int u6), (.int u7)] (1 : Int32) (0 : Int32) := own_An_aO B9 W12 Y12
  refine own_pre (T' := T12) (f' := (mkF m 107 #[rv o, iv x1, iv x2, .unset] [])) (fun t k => st12 t k) ?_
  refine oA1 X12 hx (hb hby d5_107) (pc' := 108) rfl rfl rfl ?_
  refine oD X12 hx (hb hby d5_108) (pc' := 109) rfl rfl ?_
  obtain ⟨T13, X13, e13, st13⟩ := getF X12 hx hZ hown (host := "") (Or.inl (hw _ (List.mem_of_getElem? (i := 24) rfl))) Via.refl e12 (own_Ob_s B12.1) (g := (mkF m 109 #[rv o, iv x1, iv x2, .unset] [(.ref o), (.ref o)])) rfl rfl (hb hby d5_109)
  refine own_pre (T' := T13) (f' := (mkF m 112 #[rv o, iv x1, iv x2, .unset] [(.int (1 : Int32)), (.ref o)])) (fun t k => st13 t k) ?_
  refine oC X13 hx (1 : Int32) (hb hby d5_112) (pc' := 113) rfl rfl ?_
  refine own_pre (T' := T13) (f' := (mkF m 114 #[rv o, iv x1, iv x2, .unset] [(.int ((1 : Int32) + (1 : Int32))), (.ref o)])) (fun t k => XS.iadd X13.here hx rfl (hb hby d5_113) rfl k) ?_
  rw [show ((1 : Int32) + (1 : Int32)) = (2 : Int32) from by decide]
  obtain ⟨T14, h14, X14, e14, W14, st14⟩ := putF X13 hx hZ hown (host := "") (Or.inl (hw _ (List.mem_of_getElem? (i := 24) rfl))) Via.refl e13 (own_Ob_s B12.1) (own_Ob_E B12.1) (Or.inl (hw _ (List.mem_of_getElem? (i := 25) rfl))) (hw _ (List.mem_of_getElem? (i := 3) rfl)) (ty := .int) (by decide) rfl rfl (g := (mkF m 114 #[rv o, iv x1, iv x2, .unset] [(.int (2 : Int32)), (.ref o)])) rfl rfl (hb hby d5_114)
  have N14 := Fr.snoc X14 N12 (own_Ob_g B12.1)
  have B14 : own_An Z hB h14 o P O kP kO [(.int v0), (.int x1), (.int v2), (.int v3), (.int v4), (.int v5), (.int v6), (.int v7)] [(.int u0), (.int x2), (.int u2), (.int u3), (.int u4), (.int u5), (.int u6), (.int u7)] (2 : Int32) (0 : Int32) := own_An_ws sn B12 W14
  refine own_pre (T' := T14) (f' := (mkF m 117 #[rv o, iv x1, iv x2, .unset] [])) (fun t k => st14 t k) ?_
  exact own_ret0 X14 hx hlk hret (hb hby d5_117) (by rw [e14]; exact ⟨rfl, N14, B14⟩) (by decide) (by decide)
set_option maxRecDepth 65536 in
set_option maxHeartbeats 40000000 in
theorem own_add_2 (l : Launch) (Z : State) (a0 : Array Value) (hw : ∀ d ∈ tables_1, d.before a0 Z = true) (ws : List Jvm.Cond) (w_NO_ANCHORS : Addr) (k_NO_ANCHORS : ClassId) (h0 : Heap) (F : own_F Z h0 w_NO_ANCHORS k_NO_ANCHORS) (hB : Heap) (Fb : own_F Z hB w_NO_ANCHORS k_NO_ANCHORS) (o : Addr) (P O : Addr) (kP kO : ClassId) (v0 v1 v2 v3 v4 v5 v6 v7 u0 u1 u2 u3 u4 u5 u6 u7 : Int32)  (B0 : own_An Z hB h0 o P O kP kO [(.int v0), (.int v1), (.int v2), (.int v3), (.int v4), (.int v5), (.int v6), (.int v7)] [(.int u0), (.int u1), (.int u2), (.int u3), (.int u4), (.int u5), (.int u6), (.int u7)] (2 : Int32) (0 : Int32)) (x1 x2 : Int32) (hn : ¬ (v1 = x1)) :
    own_C l (⟨"com/example/orthonorm/orthonorm/sanskrit/Anchors", "add", "(II)V"⟩ : MethodName) prog_37_method_2_code 4 none ws (own_RC 0 0 0 0) #[(.ref o), (.int x1), (.int x2)] Z h0 (fun v h' L => v = none ∧ Fr hB.size L ∧ own_An Z hB h' o P O kP kO [(.int v0), (.int v1), (.int x1), (.int v3), (.int v4), (.int v5), (.int v6), (.int v7)] [(.int u0), (.int u1), (.int x2), (.int u3), (.int u4), (.int u5), (.int u6), (.int u7)] (3 : Int32) (0 : Int32)) := by
  have F0 := F
  obtain ⟨S_NO_ANCHORS, E_NO_ANCHORS, V_NO_ANCHORS⟩ := F
  refine own_enter (LS := #[rv o, iv x1, iv x2, .unset]) (plainFor_of_name (by first | (simp [plainName, overriddenIn, x]; done) | decide +kernel)) (fun m => by first | (simp [entryFrame, mkF, argsToLocals, Value.category, maxLocals]; done) | rfl) ?_
  intro p e s m below meth c s₁ hx hby hml hown0 hnm hret hlk hZ X0 e0 hsh
  have hown : s.vm.findClass "com/example/orthonorm/orthonorm/sanskrit/Anchors" = some m.cls := hown0
  have sn := own_snI hw
  have N0 := Fr.nil hB.size
  refine oA1 X0 hx (hb hby d5_0) (pc' := 1) rfl rfl rfl ?_
  obtain ⟨T1, X1, e1, st1⟩ := getF X0 hx hZ hown (host := "") (Or.inl (hw _ (List.mem_of_getElem? (i := 24) rfl))) Via.refl e0 (own_Ob_s B0.1) (g := (mkF m 1 #[rv o, iv x1, iv x2, .unset] [(.ref o)])) rfl rfl (hb hby d5_1)
  refine own_pre (T' := T1) (f' := (mkF m 4 #[rv o, iv x1, iv x2, .unset] [(.int (2 : Int32))])) (fun t k => st1 t k) ?_
  refine oA1 X1 hx (hb hby d5_4) (pc' := 5) rfl rfl rfl ?_
  obtain ⟨T2, X2, e2, st2⟩ := getF X1 hx hZ hown (host := "") (Or.inl (hw _ (List.mem_of_getElem? (i := 22) rfl))) Via.refl e1 (own_Ob_t B0.1) (g := (mkF m 5 #[rv o, iv x1, iv x2, .unset] [(.ref o), (.int (2 : Int32))])) rfl rfl (hb hby d5_5)
  refine own_pre (T' := T2) (f' := (mkF m 8 #[rv o, iv x1, iv x2, .unset] [(.int (0 : Int32)), (.int (2 : Int32))])) (fun t k => st2 t k) ?_
  refine oN X2 hx (hb hby d5_8) (pc' := 11) rfl (tlt (by decide : (0 : Int32) < (2 : Int32))).2.2.2 ?_
  refine oA1 X2 hx (hb hby d5_11) (pc' := 12) rfl rfl rfl ?_
  obtain ⟨T3, X3, e3, st3⟩ := getF X2 hx hZ hown (host := "") (Or.inl (hw _ (List.mem_of_getElem? (i := 13) rfl))) Via.refl e2 (own_Ob_p B0.1) (g := (mkF m 12 #[rv o, iv x1, iv x2, .unset] [(.ref o)])) rfl rfl (hb hby d5_12)
  refine own_pre (T' := T3) (f' := (mkF m 15 #[rv o, iv x1, iv x2, .unset] [(.ref P)])) (fun t k => st3 t k) ?_
  refine oA1 X3 hx (hb hby d5_15) (pc' := 16) rfl rfl rfl ?_
  obtain ⟨T4, X4, e4, st4⟩ := getF X3 hx hZ hown (host := "") (Or.inl (hw _ (List.mem_of_getElem? (i := 24) rfl))) Via.refl e3 (own_Ob_s B0.1) (g := (mkF m 16 #[rv o, iv x1, iv x2, .unset] [(.ref o), (.ref P)])) rfl rfl (hb hby d5_16)
  refine own_pre (T' := T4) (f' := (mkF m 19 #[rv o, iv x1, iv x2, .unset] [(.int (2 : Int32)), (.ref P)])) (fun t k => st4 t k) ?_
  refine oC X4 hx (1 : Int32) (hb hby d5_19) (pc' := 20) rfl rfl ?_
  refine own_pre (T' := T4) (f' := (mkF m 21 #[rv o, iv x1, iv x2, .unset] [(.int ((2 : Int32) - (1 : Int32))), (.ref P)])) (fun t k => XS.isub X4.here hx rfl (hb hby d5_20) rfl k) ?_
  rw [show ((2 : Int32) - (1 : Int32)) = (1 : Int32) from by decide]
  refine own_pre (T' := T4) (f' := (mkF m 22 #[rv o, iv x1, iv x2, .unset] [(.int v1)])) (fun t k => own_ldI X4 hx hZ e4 (own_An_vp B0) (by decide) rfl (g := (mkF m 21 #[rv o, iv x1, iv x2, .unset] [(.int (1 : Int32)), (.ref P)])) rfl rfl (hb hby d5_21) t k) ?_
  refine oI1 X4 hx (hb hby d5_22) (pc' := 23) rfl rfl ?_
  refine oY X4 hx (hb hby d5_23) (pc' := 39) (feq hn).2 (by decide) (by decide) ?_
  refine oA1 X4 hx (hb hby d5_39) (pc' := 40) rfl rfl rfl ?_
  obtain ⟨T5, X5, e5, st5⟩ := getF X4 hx hZ hown (host := "") (Or.inl (hw _ (List.mem_of_getElem? (i := 24) rfl))) Via.refl e4 (own_Ob_s B0.1) (g := (mkF m 40 #[rv o, iv x1, iv x2, .unset] [(.ref o)])) rfl rfl (hb hby d5_40)
  refine own_pre (T' := T5) (f' := (mkF m 43 #[rv o, iv x1, iv x2, .unset] [(.int (2 : Int32))])) (fun t k => st5 t k) ?_
  refine oA1 X5 hx (hb hby d5_43) (pc' := 44) rfl rfl rfl ?_
  obtain ⟨T6, X6, e6, st6⟩ := getF X5 hx hZ hown (host := "") (Or.inl (hw _ (List.mem_of_getElem? (i := 13) rfl))) Via.refl e5 (own_Ob_p B0.1) (g := (mkF m 44 #[rv o, iv x1, iv x2, .unset] [(.ref o), (.int (2 : Int32))])) rfl rfl (hb hby d5_44)
  refine own_pre (T' := T6) (f' := (mkF m 47 #[rv o, iv x1, iv x2, .unset] [(.ref P), (.int (2 : Int32))])) (fun t k => st6 t k) ?_
  refine own_pre (T' := T6) (f' := (mkF m 48 #[rv o, iv x1, iv x2, .unset] [(.int (8 : Int32)), (.int (2 : Int32))])) (fun t k => own_len X6 hx hZ e6 (own_An_vp B0) (g := (mkF m 47 #[rv o, iv x1, iv x2, .unset] [(.ref P), (.int (2 : Int32))])) rfl rfl (hb hby d5_47) t k) ?_
  refine oY X6 hx (hb hby d5_48) (pc' := 87) (feq (by decide : ¬ ((2 : Int32) = (8 : Int32)))).2 (by decide) (by decide) ?_
  refine oA1 X6 hx (hb hby d5_87) (pc' := 88) rfl rfl rfl ?_
  obtain ⟨T7, X7, e7, st7⟩ := getF X6 hx hZ hown (host := "") (Or.inl (hw _ (List.mem_of_getElem? (i := 13) rfl))) Via.refl e6 (own_Ob_p B0.1) (g := (mkF m 88 #[rv o, iv x1, iv x2, .unset] [(.ref o)])) rfl rfl (hb hby d5_88)
  refine own_pre (T' := T7) (f' := (mkF m 91 #[rv o, iv x1, iv x2, .unset] [(.ref P)])) (fun t k => st7 t k) ?_
  refine oA1 X7 hx (hb hby d5_91) (pc' := 92) rfl rfl rfl ?_
  obtain ⟨T8, X8, e8, st8⟩ := getF X7 hx hZ hown (host := "") (Or.inl (hw _ (List.mem_of_getElem? (i := 24) rfl))) Via.refl e7 (own_Ob_s B0.1) (g := (mkF m 92 #[rv o, iv x1, iv x2, .unset] [(.ref o), (.ref P)])) rfl rfl (hb hby d5_92)
  refine own_pre (T' := T8) (f' := (mkF m 95 #[rv o, iv x1, iv x2, .unset] [(.int (2 : Int32)), (.ref P)])) (fun t k => st8 t k) ?_
  refine oI1 X8 hx (hb hby d5_95) (pc' := 96) rfl rfl ?_
  obtain ⟨T9, h9, X9, e9, W9, Y9, st9⟩ := own_stI X8 hx hZ e8 (own_An_vp B0) 2 rfl (Nat.le_of_ble_eq_true rfl) (by decide) (g := (mkF m 96 #[rv o, iv x1, iv x2, .unset] [(.int x1), (.int (2 : Int32)), (.ref P)])) rfl rfl (hb hby d5_96)
  have N9 := Fr.snoc X9 N0 B0.2.1.1
  have B9 : own_An Z hB h9 o P O kP kO [(.int v0), (.int v1), (.int x1), (.int v3), (.int v4), (.int v5), (.int v6), (.int v7)] [(.int u0), (.int u1), (.int u2), (.int u3), (.int u4), (.int u5), (.int u6), (.int u7)] (2 : Int32) (0 : Int32) := own_An_aP B0 W9 Y9
  refine own_pre (T' := T9) (f' := (mkF m 97 #[rv o, iv x1, iv x2, .unset] [])) (fun t k => st9 t k) ?_
  refine oA1 X9 hx (hb hby d5_97) (pc' := 98) rfl rfl rfl ?_
  obtain ⟨T10, X10, e10, st10⟩ := getF X9 hx hZ hown (host := "") (Or.inl (hw _ (List.mem_of_getElem? (i := 15) rfl))) Via.refl e9 (own_Ob_o B9.1) (g := (mkF m 98 #[rv o, iv x1, iv x2, .unset] [(.ref o)])) rfl rfl (hb hby d5_98)
  refine own_pre (T' := T10) (f' := (mkF m 101 #[rv o, iv x1, iv x2, .unset] [(.ref O)])) (fun t k => st10 t k) ?_
  refine oA1 X10 hx (hb hby d5_101) (pc' := 102) rfl rfl rfl ?_
  obtain ⟨T11, X11, e11, st11⟩ := getF X10 hx hZ hown (host := "") (Or.inl (hw _ (List.mem_of_getElem? (i := 24) rfl))) Via.refl e10 (own_Ob_s B9.1) (g := (mkF m 102 #[rv o, iv x1, iv x2, .unset] [(.ref o), (.ref O)])) rfl rfl (hb hby d5_102)
  refine own_pre (T' := T11) (f' := (mkF m 105 #[rv o, iv x1, iv x2, .unset] [(.int (2 : Int32)), (.ref O)])) (fun t k => st11 t k) ?_
  refine oI1 X11 hx (hb hby d5_105) (pc' := 106) rfl rfl ?_
  obtain ⟨T12, h12, X12, e12, W12, Y12, st12⟩ := own_stI X11 hx hZ e11 (own_An_vo B9) 2 rfl (Nat.le_of_ble_eq_true rfl) (by decide) (g := (mkF m 106 #[rv o, iv x1, iv x2, .unset] [(.int x2), (.int (2 : Int32)), (.ref O)])) rfl rfl (hb hby d5_106)
  have N12 := Fr.snoc X12 N9 B9.2.1.2.1
  have B12 : own_An Z hB h12 o P O kP kO [(.int v0), (.int v1), (.int x1), (.int v3), (.int v4), (.int v5), (.int v6), (.int v7)] [(.int u0), (.int u1), (.int x2), (.int u3), (.int u4), (.int u5), (.int u6), (.int u7)] (2 : Int32) (0 : Int32) := own_An_aO B9 W12 Y12
  refine own_pre (T' := T12) (f' := (mkF m 107 #[rv o, iv x1, iv x2, .unset] [])) (fun t k => st12 t k) ?_
  refine oA1 X12 hx (hb hby d5_107) (pc' := 108) rfl rfl rfl ?_
  refine oD X12 hx (hb hby d5_108) (pc' := 109) rfl rfl ?_
  obtain ⟨T13, X13, e13, st13⟩ := getF X12 hx hZ hown (host := "") (Or.inl (hw _ (List.mem_of_getElem? (i := 24) rfl))) Via.refl e12 (own_Ob_s B12.1) (g := (mkF m 109 #[rv o, iv x1, iv x2, .unset] [(.ref o), (.ref o)])) rfl rfl (hb hby d5_109)
  refine own_pre (T' := T13) (f' := (mkF m 112 #[rv o, iv x1, iv x2, .unset] [(.int (2 : Int32)), (.ref o)])) (fun t k => st13 t k) ?_
  refine oC X13 hx (1 : Int32) (hb hby d5_112) (pc' := 113) rfl rfl ?_
  refine own_pre (T' := T13) (f' := (mkF m 114 #[rv o, iv x1, iv x2, .unset] [(.int ((2 : Int32) + (1 : Int32))), (.ref o)])) (fun t k => XS.iadd X13.here hx rfl (hb hby d5_113) rfl k) ?_
  rw [show ((2 : Int32) + (1 : Int32)) = (3 : Int32) from by decide]
  obtain ⟨T14, h14, X14, e14, W14, st14⟩ := putF X13 hx hZ hown (host := "") (Or.inl (hw _ (List.mem_of_getElem? (i := 24) rfl))) Via.refl e13 (own_Ob_s B12.1) (own_Ob_E B12.1) (Or.inl (hw _ (List.mem_of_getElem? (i := 25) rfl))) (hw _ (List.mem_of_getElem? (i := 3) rfl)) (ty := .int) (by decide) rfl rfl (g := (mkF m 114 #[rv o, iv x1, iv x2, .unset] [(.int (3 : Int32)), (.ref o)])) rfl rfl (hb hby d5_114)
  have N14 := Fr.snoc X14 N12 (own_Ob_g B12.1)
  have B14 : own_An Z hB h14 o P O kP kO [(.int v0), (.int v1), (.int x1), (.int v3), (.int v4), (.int v5), (.int v6), (.int v7)] [(.int u0), (.int u1), (.int x2), (.int u3), (.int u4), (.int u5), (.int u6), (.int u7)] (3 : Int32) (0 : Int32) := own_An_ws sn B12 W14
  refine own_pre (T' := T14) (f' := (mkF m 117 #[rv o, iv x1, iv x2, .unset] [])) (fun t k => st14 t k) ?_
  exact own_ret0 X14 hx hlk hret (hb hby d5_117) (by rw [e14]; exact ⟨rfl, N14, B14⟩) (by decide) (by decide)
theorem d9_0 : decode prog_37_method_4_code 0 = .ok (.aload_n 0, 1) := by decide +kernel
theorem d9_1 : decode prog_37_method_4_code 1 = .ok (.getfield 16, 3) := by decide +kernel
theorem d9_4 : decode prog_37_method_4_code 4 = .ok (.aload_n 0, 1) := by decide +kernel
theorem d9_5 : decode prog_37_method_4_code 5 = .ok (.dup, 1) := by decide +kernel
theorem d9_6 : decode prog_37_method_4_code 6 = .ok (.getfield 23, 3) := by decide +kernel
theorem d9_9 : decode prog_37_method_4_code 9 = .ok (.dup_x1, 1) := by decide +kernel
theorem d9_10 : decode prog_37_method_4_code 10 = .ok (.iconst 1, 1) := by decide +kernel
theorem d9_11 : decode prog_37_method_4_code 11 = .ok (.iadd, 1) := by decide +kernel
theorem d9_12 : decode prog_37_method_4_code 12 = .ok (.putfield 23, 3) := by decide +kernel
theorem d9_15 : decode prog_37_method_4_code 15 = .ok (.iaload, 1) := by decide +kernel
theorem d9_16 : decode prog_37_method_4_code 16 = .ok (.ireturn, 1) := by decide +kernel
set_option maxRecDepth 65536 in
set_option maxHeartbeats 40000000 in
theorem own_take_0 (l : Launch) (Z : State) (a0 : Array Value) (hw : ∀ d ∈ tables_1, d.before a0 Z = true) (ws : List Jvm.Cond) (w_NO_ANCHORS : Addr) (k_NO_ANCHORS : ClassId) (h0 : Heap) (F : own_F Z h0 w_NO_ANCHORS k_NO_ANCHORS) (hB : Heap) (Fb : own_F Z hB w_NO_ANCHORS k_NO_ANCHORS) (o : Addr) (P O : Addr) (kP kO : ClassId) (v0 v1 v2 v3 v4 v5 v6 v7 u0 u1 u2 u3 u4 u5 u6 u7 : Int32) (sz : Int32) (B0 : own_An Z hB h0 o P O kP kO [(.int v0), (.int v1), (.int v2), (.int v3), (.int v4), (.int v5), (.int v6), (.int v7)] [(.int u0), (.int u1), (.int u2), (.int u3), (.int u4), (.int u5), (.int u6), (.int u7)] sz (0 : Int32))  :
    own_C l (⟨"com/example/orthonorm/orthonorm/sanskrit/Anchors", "take", "()I"⟩ : MethodName) prog_37_method_4_code 1 (some .int) ws (own_RC 0 0 0 0) #[(.ref o)] Z h0 (fun v h' L => v = (some (.int u0)) ∧ Fr hB.size L ∧ own_An Z hB h' o P O kP kO [(.int v0), (.int v1), (.int v2), (.int v3), (.int v4), (.int v5), (.int v6), (.int v7)] [(.int u0), (.int u1), (.int u2), (.int u3), (.int u4), (.int u5), (.int u6), (.int u7)] sz (1 : Int32)) := by
  have F0 := F
  obtain ⟨S_NO_ANCHORS, E_NO_ANCHORS, V_NO_ANCHORS⟩ := F
  refine own_enter (LS := #[rv o]) (plainFor_of_name (by first | (simp [plainName, overriddenIn, x]; done) | decide +kernel)) (fun m => by first | (simp [entryFrame, mkF, argsToLocals, Value.category, maxLocals]; done) | rfl) ?_
  intro p e s m below meth c s₁ hx hby hml hown0 hnm hret hlk hZ X0 e0 hsh
  have hown : s.vm.findClass "com/example/orthonorm/orthonorm/sanskrit/Anchors" = some m.cls := hown0
  have sn := own_snI hw
  have N0 := Fr.nil hB.size
  refine oA1 X0 hx (hb hby d9_0) (pc' := 1) rfl rfl rfl ?_
  obtain ⟨T1, X1, e1, st1⟩ := getF X0 hx hZ hown (host := "") (Or.inl (hw _ (List.mem_of_getElem? (i := 15) rfl))) Via.refl e0 (own_Ob_o B0.1) (g := (mkF m 1 #[rv o] [(.ref o)])) rfl rfl (hb hby d9_1)
  refine own_pre (T' := T1) (f' := (mkF m 4 #[rv o] [(.ref O)])) (fun t k => st1 t k) ?_
  refine oA1 X1 hx (hb hby d9_4) (pc' := 5) rfl rfl rfl ?_
  refine oD X1 hx (hb hby d9_5) (pc' := 6) rfl rfl ?_
  obtain ⟨T2, X2, e2, st2⟩ := getF X1 hx hZ hown (host := "") (Or.inl (hw _ (List.mem_of_getElem? (i := 22) rfl))) Via.refl e1 (own_Ob_t B0.1) (g := (mkF m 6 #[rv o] [(.ref o), (.ref o), (.ref O)])) rfl rfl (hb hby d9_6)
  refine own_pre (T' := T2) (f' := (mkF m 9 #[rv o] [(.int (0 : Int32)), (.ref o), (.ref O)])) (fun t k => st2 t k) ?_
  refine own_pre (T' := T2) (f' := (mkF m 10 #[rv o] [(.int (0 : Int32)), (.ref o), (.int (0 : Int32)), (.ref O)])) (fun t k => XS.dupX1 X2.here hx rfl (hb hby d9_9) rfl rfl rfl k) ?_
  refine oC X2 hx (1 : Int32) (hb hby d9_10) (pc' := 11) rfl rfl ?_
  refine own_pre (T' := T2) (f' := (mkF m 12 #[rv o] [(.int ((0 : Int32) + (1 : Int32))), (.ref o), (.int (0 : Int32)), (.ref O)])) (fun t k => XS.iadd X2.here hx rfl (hb hby d9_11) rfl k) ?_
  rw [show ((0 : Int32) + (1 : Int32)) = (1 : Int32) from by decide]
  obtain ⟨T3, h3, X3, e3, W3, st3⟩ := putF X2 hx hZ hown (host := "") (Or.inl (hw _ (List.mem_of_getElem? (i := 22) rfl))) Via.refl e2 (own_Ob_t B0.1) (own_Ob_E B0.1) (Or.inl (hw _ (List.mem_of_getElem? (i := 23) rfl))) (hw _ (List.mem_of_getElem? (i := 3) rfl)) (ty := .int) (by decide) rfl rfl (g := (mkF m 12 #[rv o] [(.int (1 : Int32)), (.ref o), (.int (0 : Int32)), (.ref O)])) rfl rfl (hb hby d9_12)
  have N3 := Fr.snoc X3 N0 (own_Ob_g B0.1)
  have B3 : own_An Z hB h3 o P O kP kO [(.int v0), (.int v1), (.int v2), (.int v3), (.int v4), (.int v5), (.int v6), (.int v7)] [(.int u0), (.int u1), (.int u2), (.int u3), (.int u4), (.int u5), (.int u6), (.int u7)] sz (1 : Int32) := own_An_wt sn B0 W3
  refine own_pre (T' := T3) (f' := (mkF m 15 #[rv o] [(.int (0 : Int32)), (.ref O)])) (fun t k => st3 t k) ?_
  refine own_pre (T' := T3) (f' := (mkF m 16 #[rv o] [(.int u0)])) (fun t k => own_ldI X3 hx hZ e3 (own_An_vo B3) (by decide) rfl (g := (mkF m 15 #[rv o] [(.int (0 : Int32)), (.ref O)])) rfl rfl (hb hby d9_15) t k) ?_
  exact own_retI X3 hx hlk hret (hb hby d9_16) (by rw [e3]; exact ⟨rfl, N3, B3⟩) (by decide) (by decide)
set_option maxRecDepth 65536 in
set_option maxHeartbeats 40000000 in
theorem own_take_1 (l : Launch) (Z : State) (a0 : Array Value) (hw : ∀ d ∈ tables_1, d.before a0 Z = true) (ws : List Jvm.Cond) (w_NO_ANCHORS : Addr) (k_NO_ANCHORS : ClassId) (h0 : Heap) (F : own_F Z h0 w_NO_ANCHORS k_NO_ANCHORS) (hB : Heap) (Fb : own_F Z hB w_NO_ANCHORS k_NO_ANCHORS) (o : Addr) (P O : Addr) (kP kO : ClassId) (v0 v1 v2 v3 v4 v5 v6 v7 u0 u1 u2 u3 u4 u5 u6 u7 : Int32) (sz : Int32) (B0 : own_An Z hB h0 o P O kP kO [(.int v0), (.int v1), (.int v2), (.int v3), (.int v4), (.int v5), (.int v6), (.int v7)] [(.int u0), (.int u1), (.int u2), (.int u3), (.int u4), (.int u5), (.int u6), (.int u7)] sz (1 : Int32))  :
    own_C l (⟨"com/example/orthonorm/orthonorm/sanskrit/Anchors", "take", "()I"⟩ : MethodName) prog_37_method_4_code 1 (some .int) ws (own_RC 0 0 0 0) #[(.ref o)] Z h0 (fun v h' L => v = (some (.int u1)) ∧ Fr hB.size L ∧ own_An Z hB h' o P O kP kO [(.int v0), (.int v1), (.int v2), (.int v3), (.int v4), (.int v5), (.int v6), (.int v7)] [(.int u0), (.int u1), (.int u2), (.int u3), (.int u4), (.int u5), (.int u6), (.int u7)] sz (2 : Int32)) := by
  have F0 := F
  obtain ⟨S_NO_ANCHORS, E_NO_ANCHORS, V_NO_ANCHORS⟩ := F
  refine own_enter (LS := #[rv o]) (plainFor_of_name (by first | (simp [plainName, overriddenIn, x]; done) | decide +kernel)) (fun m => by first | (simp [entryFrame, mkF, argsToLocals, Value.category, maxLocals]; done) | rfl) ?_
  intro p e s m below meth c s₁ hx hby hml hown0 hnm hret hlk hZ X0 e0 hsh
  have hown : s.vm.findClass "com/example/orthonorm/orthonorm/sanskrit/Anchors" = some m.cls := hown0
  have sn := own_snI hw
  have N0 := Fr.nil hB.size
  refine oA1 X0 hx (hb hby d9_0) (pc' := 1) rfl rfl rfl ?_
  obtain ⟨T1, X1, e1, st1⟩ := getF X0 hx hZ hown (host := "") (Or.inl (hw _ (List.mem_of_getElem? (i := 15) rfl))) Via.refl e0 (own_Ob_o B0.1) (g := (mkF m 1 #[rv o] [(.ref o)])) rfl rfl (hb hby d9_1)
  refine own_pre (T' := T1) (f' := (mkF m 4 #[rv o] [(.ref O)])) (fun t k => st1 t k) ?_
  refine oA1 X1 hx (hb hby d9_4) (pc' := 5) rfl rfl rfl ?_
  refine oD X1 hx (hb hby d9_5) (pc' := 6) rfl rfl ?_
  obtain ⟨T2, X2, e2, st2⟩ := getF X1 hx hZ hown (host := "") (Or.inl (hw _ (List.mem_of_getElem? (i := 22) rfl))) Via.refl e1 (own_Ob_t B0.1) (g := (mkF m 6 #[rv o] [(.ref o), (.ref o), (.ref O)])) rfl rfl (hb hby d9_6)
  refine own_pre (T' := T2) (f' := (mkF m 9 #[rv o] [(.int (1 : Int32)), (.ref o), (.ref O)])) (fun t k => st2 t k) ?_
  refine own_pre (T' := T2) (f' := (mkF m 10 #[rv o] [(.int (1 : Int32)), (.ref o), (.int (1 : Int32)), (.ref O)])) (fun t k => XS.dupX1 X2.here hx rfl (hb hby d9_9) rfl rfl rfl k) ?_
  refine oC X2 hx (1 : Int32) (hb hby d9_10) (pc' := 11) rfl rfl ?_
  refine own_pre (T' := T2) (f' := (mkF m 12 #[rv o] [(.int ((1 : Int32) + (1 : Int32))), (.ref o), (.int (1 : Int32)), (.ref O)])) (fun t k => XS.iadd X2.here hx rfl (hb hby d9_11) rfl k) ?_
  rw [show ((1 : Int32) + (1 : Int32)) = (2 : Int32) from by decide]
  obtain ⟨T3, h3, X3, e3, W3, st3⟩ := putF X2 hx hZ hown (host := "") (Or.inl (hw _ (List.mem_of_getElem? (i := 22) rfl))) Via.refl e2 (own_Ob_t B0.1) (own_Ob_E B0.1) (Or.inl (hw _ (List.mem_of_getElem? (i := 23) rfl))) (hw _ (List.mem_of_getElem? (i := 3) rfl)) (ty := .int) (by decide) rfl rfl (g := (mkF m 12 #[rv o] [(.int (2 : Int32)), (.ref o), (.int (1 : Int32)), (.ref O)])) rfl rfl (hb hby d9_12)
  have N3 := Fr.snoc X3 N0 (own_Ob_g B0.1)
  have B3 : own_An Z hB h3 o P O kP kO [(.int v0), (.int v1), (.int v2), (.int v3), (.int v4), (.int v5), (.int v6), (.int v7)] [(.int u0), (.int u1), (.int u2), (.int u3), (.int u4), (.int u5), (.int u6), (.int u7)] sz (2 : Int32) := own_An_wt sn B0 W3
  refine own_pre (T' := T3) (f' := (mkF m 15 #[rv o] [(.int (1 : Int32)), (.ref O)])) (fun t k => st3 t k) ?_
  refine own_pre (T' := T3) (f' := (mkF m 16 #[rv o] [(.int u1)])) (fun t k => own_ldI X3 hx hZ e3 (own_An_vo B3) (by decide) rfl (g := (mkF m 15 #[rv o] [(.int (1 : Int32)), (.ref O)])) rfl rfl (hb hby d9_15) t k) ?_
  exact own_retI X3 hx hlk hret (hb hby d9_16) (by rw [e3]; exact ⟨rfl, N3, B3⟩) (by decide) (by decide)
set_option maxRecDepth 65536 in
set_option maxHeartbeats 40000000 in
theorem own_take_2 (l : Launch) (Z : State) (a0 : Array Value) (hw : ∀ d ∈ tables_1, d.before a0 Z = true) (ws : List Jvm.Cond) (w_NO_ANCHORS : Addr) (k_NO_ANCHORS : ClassId) (h0 : Heap) (F : own_F Z h0 w_NO_ANCHORS k_NO_ANCHORS) (hB : Heap) (Fb : own_F Z hB w_NO_ANCHORS k_NO_ANCHORS) (o : Addr) (P O : Addr) (kP kO : ClassId) (v0 v1 v2 v3 v4 v5 v6 v7 u0 u1 u2 u3 u4 u5 u6 u7 : Int32) (sz : Int32) (B0 : own_An Z hB h0 o P O kP kO [(.int v0), (.int v1), (.int v2), (.int v3), (.int v4), (.int v5), (.int v6), (.int v7)] [(.int u0), (.int u1), (.int u2), (.int u3), (.int u4), (.int u5), (.int u6), (.int u7)] sz (2 : Int32))  :
    own_C l (⟨"com/example/orthonorm/orthonorm/sanskrit/Anchors", "take", "()I"⟩ : MethodName) prog_37_method_4_code 1 (some .int) ws (own_RC 0 0 0 0) #[(.ref o)] Z h0 (fun v h' L => v = (some (.int u2)) ∧ Fr hB.size L ∧ own_An Z hB h' o P O kP kO [(.int v0), (.int v1), (.int v2), (.int v3), (.int v4), (.int v5), (.int v6), (.int v7)] [(.int u0), (.int u1), (.int u2), (.int u3), (.int u4), (.int u5), (.int u6), (.int u7)] sz (3 : Int32)) := by
  have F0 := F
  obtain ⟨S_NO_ANCHORS, E_NO_ANCHORS, V_NO_ANCHORS⟩ := F
  refine own_enter (LS := #[rv o]) (plainFor_of_name (by first | (simp [plainName, overriddenIn, x]; done) | decide +kernel)) (fun m => by first | (simp [entryFrame, mkF, argsToLocals, Value.category, maxLocals]; done) | rfl) ?_
  intro p e s m below meth c s₁ hx hby hml hown0 hnm hret hlk hZ X0 e0 hsh
  have hown : s.vm.findClass "com/example/orthonorm/orthonorm/sanskrit/Anchors" = some m.cls := hown0
  have sn := own_snI hw
  have N0 := Fr.nil hB.size
  refine oA1 X0 hx (hb hby d9_0) (pc' := 1) rfl rfl rfl ?_
  obtain ⟨T1, X1, e1, st1⟩ := getF X0 hx hZ hown (host := "") (Or.inl (hw _ (List.mem_of_getElem? (i := 15) rfl))) Via.refl e0 (own_Ob_o B0.1) (g := (mkF m 1 #[rv o] [(.ref o)])) rfl rfl (hb hby d9_1)
  refine own_pre (T' := T1) (f' := (mkF m 4 #[rv o] [(.ref O)])) (fun t k => st1 t k) ?_
  refine oA1 X1 hx (hb hby d9_4) (pc' := 5) rfl rfl rfl ?_
  refine oD X1 hx (hb hby d9_5) (pc' := 6) rfl rfl ?_
  obtain ⟨T2, X2, e2, st2⟩ := getF X1 hx hZ hown (host := "") (Or.inl (hw _ (List.mem_of_getElem? (i := 22) rfl))) Via.refl e1 (own_Ob_t B0.1) (g := (mkF m 6 #[rv o] [(.ref o), (.ref o), (.ref O)])) rfl rfl (hb hby d9_6)
  refine own_pre (T' := T2) (f' := (mkF m 9 #[rv o] [(.int (2 : Int32)), (.ref o), (.ref O)])) (fun t k => st2 t k) ?_
  refine own_pre (T' := T2) (f' := (mkF m 10 #[rv o] [(.int (2 : Int32)), (.ref o), (.int (2 : Int32)), (.ref O)])) (fun t k => XS.dupX1 X2.here hx rfl (hb hby d9_9) rfl rfl rfl k) ?_
  refine oC X2 hx (1 : Int32) (hb hby d9_10) (pc' := 11) rfl rfl ?_
  refine own_pre (T' := T2) (f' := (mkF m 12 #[rv o] [(.int ((2 : Int32) + (1 : Int32))), (.ref o), (.int (2 : Int32)), (.ref O)])) (fun t k => XS.iadd X2.here hx rfl (hb hby d9_11) rfl k) ?_
  rw [show ((2 : Int32) + (1 : Int32)) = (3 : Int32) from by decide]
  obtain ⟨T3, h3, X3, e3, W3, st3⟩ := putF X2 hx hZ hown (host := "") (Or.inl (hw _ (List.mem_of_getElem? (i := 22) rfl))) Via.refl e2 (own_Ob_t B0.1) (own_Ob_E B0.1) (Or.inl (hw _ (List.mem_of_getElem? (i := 23) rfl))) (hw _ (List.mem_of_getElem? (i := 3) rfl)) (ty := .int) (by decide) rfl rfl (g := (mkF m 12 #[rv o] [(.int (3 : Int32)), (.ref o), (.int (2 : Int32)), (.ref O)])) rfl rfl (hb hby d9_12)
  have N3 := Fr.snoc X3 N0 (own_Ob_g B0.1)
  have B3 : own_An Z hB h3 o P O kP kO [(.int v0), (.int v1), (.int v2), (.int v3), (.int v4), (.int v5), (.int v6), (.int v7)] [(.int u0), (.int u1), (.int u2), (.int u3), (.int u4), (.int u5), (.int u6), (.int u7)] sz (3 : Int32) := own_An_wt sn B0 W3
  refine own_pre (T' := T3) (f' := (mkF m 15 #[rv o] [(.int (2 : Int32)), (.ref O)])) (fun t k => st3 t k) ?_
  refine own_pre (T' := T3) (f' := (mkF m 16 #[rv o] [(.int u2)])) (fun t k => own_ldI X3 hx hZ e3 (own_An_vo B3) (by decide) rfl (g := (mkF m 15 #[rv o] [(.int (2 : Int32)), (.ref O)])) rfl rfl (hb hby d9_15) t k) ?_
  exact own_retI X3 hx hlk hret (hb hby d9_16) (by rw [e3]; exact ⟨rfl, N3, B3⟩) (by decide) (by decide)
theorem d4_0 : decode prog_37_method_3_code 0 = .ok (.aload_n 0, 1) := by decide +kernel
theorem d4_1 : decode prog_37_method_3_code 1 = .ok (.getfield 23, 3) := by decide +kernel
theorem d4_4 : decode prog_37_method_3_code 4 = .ok (.aload_n 0, 1) := by decide +kernel
theorem d4_5 : decode prog_37_method_3_code 5 = .ok (.getfield 19, 3) := by decide +kernel
theorem d4_8 : decode prog_37_method_3_code 8 = .ok (.if_icmp .ge 15, 3) := by decide +kernel
theorem d4_11 : decode prog_37_method_3_code 11 = .ok (.aload_n 0, 1) := by decide +kernel
theorem d4_12 : decode prog_37_method_3_code 12 = .ok (.getfield 13, 3) := by decide +kernel
theorem d4_15 : decode prog_37_method_3_code 15 = .ok (.aload_n 0, 1) := by decide +kernel
theorem d4_16 : decode prog_37_method_3_code 16 = .ok (.getfield 23, 3) := by decide +kernel
theorem d4_19 : decode prog_37_method_3_code 19 = .ok (.iaload, 1) := by decide +kernel
theorem d4_20 : decode prog_37_method_3_code 20 = .ok (.goto 5, 3) := by decide +kernel
theorem d4_25 : decode prog_37_method_3_code 25 = .ok (.ireturn, 1) := by decide +kernel
set_option maxRecDepth 65536 in
set_option maxHeartbeats 40000000 in
theorem own_next_1_0 (l : Launch) (Z : State) (a0 : Array Value) (hw : ∀ d ∈ tables_1, d.before a0 Z = true) (ws : List Jvm.Cond) (w_NO_ANCHORS : Addr) (k_NO_ANCHORS : ClassId) (h0 : Heap) (F : own_F Z h0 w_NO_ANCHORS k_NO_ANCHORS) (hB : Heap) (Fb : own_F Z hB w_NO_ANCHORS k_NO_ANCHORS) (o : Addr) (P O : Addr) (kP kO : ClassId) (v0 v1 v2 v3 v4 v5 v6 v7 u0 u1 u2 u3 u4 u5 u6 u7 : Int32)  (B0 : own_An Z hB h0 o P O kP kO [(.int v0), (.int v1), (.int v2), (.int v3), (.int v4), (.int v5), (.int v6), (.int v7)] [(.int u0), (.int u1), (.int u2), (.int u3), (.int u4), (.int u5), (.int u6), (.int u7)] (1 : Int32) (0 : Int32))  :
    own_C l (⟨"com/example/orthonorm/orthonorm/sanskrit/Anchors", "nextPlace", "()I"⟩ : MethodName) prog_37_method_3_code 1 (some .int) ws (own_R 0 0) #[(.ref o)] Z h0 (own_Q0 (some (.int v0)) h0) := by
  have F0 := F
  obtain ⟨S_NO_ANCHORS, E_NO_ANCHORS, V_NO_ANCHORS⟩ := F
  refine own_enter (LS := #[rv o]) (plainFor_of_name (by first | (simp [plainName, overriddenIn, x]; done) | decide +kernel)) (fun m => by first | (simp [entryFrame, mkF, argsToLocals, Value.category, maxLocals]; done) | rfl) ?_
  intro p e s m below meth c s₁ hx hby hml hown0 hnm hret hlk hZ X0 e0 hsh
  have hown : s.vm.findClass "com/example/orthonorm/orthonorm/sanskrit/Anchors" = some m.cls := hown0
  have sn := own_snI hw
  have N0 := Fr.nil hB.size
  refine oA1 X0 hx (hb hby d4_0) (pc' := 1) rfl rfl rfl ?_
  obtain ⟨T1, X1, e1, st1⟩ := getF X0 hx hZ hown (host := "") (Or.inl (hw _ (List.mem_of_getElem? (i := 22) rfl))) Via.refl e0 (own_Ob_t B0.1) (g := (mkF m 1 #[rv o] [(.ref o)])) rfl rfl (hb hby d4_1)
  refine own_pre (T' := T1) (f' := (mkF m 4 #[rv o] [(.int (0 : Int32))])) (fun t k => st1 t k) ?_
  refine oA1 X1 hx (hb hby d4_4) (pc' := 5) rfl rfl rfl ?_
  obtain ⟨T2, X2, e2, st2⟩ := getF X1 hx hZ hown (host := "") (Or.inl (hw _ (List.mem_of_getElem? (i := 24) rfl))) Via.refl e1 (own_Ob_s B0.1) (g := (mkF m 5 #[rv o] [(.ref o), (.int (0 : Int32))])) rfl rfl (hb hby d4_5)
  refine own_pre (T' := T2) (f' := (mkF m 8 #[rv o] [(.int (1 : Int32)), (.int (0 : Int32))])) (fun t k => st2 t k) ?_
  refine oN X2 hx (hb hby d4_8) (pc' := 11) rfl (tlt (by decide : (0 : Int32) < (1 : Int32))).2.1 ?_
  refine oA1 X2 hx (hb hby d4_11) (pc' := 12) rfl rfl rfl ?_
  obtain ⟨T3, X3, e3, st3⟩ := getF X2 hx hZ hown (host := "") (Or.inl (hw _ (List.mem_of_getElem? (i := 13) rfl))) Via.refl e2 (own_Ob_p B0.1) (g := (mkF m 12 #[rv o] [(.ref o)])) rfl rfl (hb hby d4_12)
  refine own_pre (T' := T3) (f' := (mkF m 15 #[rv o] [(.ref P)])) (fun t k => st3 t k) ?_
  refine oA1 X3 hx (hb hby d4_15) (pc' := 16) rfl rfl rfl ?_
  obtain ⟨T4, X4, e4, st4⟩ := getF X3 hx hZ hown (host := "") (Or.inl (hw _ (List.mem_of_getElem? (i := 22) rfl))) Via.refl e3 (own_Ob_t B0.1) (g := (mkF m 16 #[rv o] [(.ref o), (.ref P)])) rfl rfl (hb hby d4_16)
  refine own_pre (T' := T4) (f' := (mkF m 19 #[rv o] [(.int (0 : Int32)), (.ref P)])) (fun t k => st4 t k) ?_
  refine own_pre (T' := T4) (f' := (mkF m 20 #[rv o] [(.int v0)])) (fun t k => own_ldI X4 hx hZ e4 (own_An_vp B0) (by decide) rfl (g := (mkF m 19 #[rv o] [(.int (0 : Int32)), (.ref P)])) rfl rfl (hb hby d4_19) t k) ?_
  refine oG X4 hx (hb hby d4_20) (pc' := 25) (by decide) (by decide) ?_
  exact own_retI X4 hx hlk hret (hb hby d4_25) (⟨rfl, e4, rfl⟩) (by decide) (by decide)
theorem d4_23 : decode prog_37_method_3_code 23 = .ok (.ldc 40, 2) := by decide +kernel
set_option maxRecDepth 65536 in
set_option maxHeartbeats 40000000 in
theorem own_next_1_1 (l : Launch) (Z : State) (a0 : Array Value) (hw : ∀ d ∈ tables_1, d.before a0 Z = true) (ws : List Jvm.Cond) (w_NO_ANCHORS : Addr) (k_NO_ANCHORS : ClassId) (h0 : Heap) (F : own_F Z h0 w_NO_ANCHORS k_NO_ANCHORS) (hB : Heap) (Fb : own_F Z hB w_NO_ANCHORS k_NO_ANCHORS) (o : Addr) (P O : Addr) (kP kO : ClassId) (v0 v1 v2 v3 v4 v5 v6 v7 u0 u1 u2 u3 u4 u5 u6 u7 : Int32)  (B0 : own_An Z hB h0 o P O kP kO [(.int v0), (.int v1), (.int v2), (.int v3), (.int v4), (.int v5), (.int v6), (.int v7)] [(.int u0), (.int u1), (.int u2), (.int u3), (.int u4), (.int u5), (.int u6), (.int u7)] (1 : Int32) (1 : Int32))  :
    own_C l (⟨"com/example/orthonorm/orthonorm/sanskrit/Anchors", "nextPlace", "()I"⟩ : MethodName) prog_37_method_3_code 1 (some .int) ws (own_R 0 0) #[(.ref o)] Z h0 (own_Q0 (some (.int (2147483647 : Int32))) h0) := by
  have F0 := F
  obtain ⟨S_NO_ANCHORS, E_NO_ANCHORS, V_NO_ANCHORS⟩ := F
  refine own_enter (LS := #[rv o]) (plainFor_of_name (by first | (simp [plainName, overriddenIn, x]; done) | decide +kernel)) (fun m => by first | (simp [entryFrame, mkF, argsToLocals, Value.category, maxLocals]; done) | rfl) ?_
  intro p e s m below meth c s₁ hx hby hml hown0 hnm hret hlk hZ X0 e0 hsh
  have hown : s.vm.findClass "com/example/orthonorm/orthonorm/sanskrit/Anchors" = some m.cls := hown0
  have sn := own_snI hw
  have N0 := Fr.nil hB.size
  refine oA1 X0 hx (hb hby d4_0) (pc' := 1) rfl rfl rfl ?_
  obtain ⟨T1, X1, e1, st1⟩ := getF X0 hx hZ hown (host := "") (Or.inl (hw _ (List.mem_of_getElem? (i := 22) rfl))) Via.refl e0 (own_Ob_t B0.1) (g := (mkF m 1 #[rv o] [(.ref o)])) rfl rfl (hb hby d4_1)
  refine own_pre (T' := T1) (f' := (mkF m 4 #[rv o] [(.int (1 : Int32))])) (fun t k => st1 t k) ?_
  refine oA1 X1 hx (hb hby d4_4) (pc' := 5) rfl rfl rfl ?_
  obtain ⟨T2, X2, e2, st2⟩ := getF X1 hx hZ hown (host := "") (Or.inl (hw _ (List.mem_of_getElem? (i := 24) rfl))) Via.refl e1 (own_Ob_s B0.1) (g := (mkF m 5 #[rv o] [(.ref o), (.int (1 : Int32))])) rfl rfl (hb hby d4_5)
  refine own_pre (T' := T2) (f' := (mkF m 8 #[rv o] [(.int (1 : Int32)), (.int (1 : Int32))])) (fun t k => st2 t k) ?_
  refine oY X2 hx (hb hby d4_8) (pc' := 23) (flt (by decide : ¬ ((1 : Int32) < (1 : Int32)))).2.1 (by decide) (by decide) ?_
  refine own_pre (T' := T2) (f' := (mkF m 25 #[rv o] [(.int (2147483647 : Int32))])) (fun t k => X2.ldcInt hx hown (mvT hZ (hw _ (List.mem_of_getElem? (i := 31) rfl))) (g := (mkF m 23 #[rv o] [])) rfl (hb hby d4_23) t k) ?_
  exact own_retI X2 hx hlk hret (hb hby d4_25) (⟨rfl, e2, rfl⟩) (by decide) (by decide)
set_option maxRecDepth 65536 in
set_option maxHeartbeats 40000000 in
theorem own_next_2_0 (l : Launch) (Z : State) (a0 : Array Value) (hw : ∀ d ∈ tables_1, d.before a0 Z = true) (ws : List Jvm.Cond) (w_NO_ANCHORS : Addr) (k_NO_ANCHORS : ClassId) (h0 : Heap) (F : own_F Z h0 w_NO_ANCHORS k_NO_ANCHORS) (hB : Heap) (Fb : own_F Z hB w_NO_ANCHORS k_NO_ANCHORS) (o : Addr) (P O : Addr) (kP kO : ClassId) (v0 v1 v2 v3 v4 v5 v6 v7 u0 u1 u2 u3 u4 u5 u6 u7 : Int32)  (B0 : own_An Z hB h0 o P O kP kO [(.int v0), (.int v1), (.int v2), (.int v3), (.int v4), (.int v5), (.int v6), (.int v7)] [(.int u0), (.int u1), (.int u2), (.int u3), (.int u4), (.int u5), (.int u6), (.int u7)] (2 : Int32) (0 : Int32))  :
    own_C l (⟨"com/example/orthonorm/orthonorm/sanskrit/Anchors", "nextPlace", "()I"⟩ : MethodName) prog_37_method_3_code 1 (some .int) ws (own_R 0 0) #[(.ref o)] Z h0 (own_Q0 (some (.int v0)) h0) := by
  have F0 := F
  obtain ⟨S_NO_ANCHORS, E_NO_ANCHORS, V_NO_ANCHORS⟩ := F
  refine own_enter (LS := #[rv o]) (plainFor_of_name (by first | (simp [plainName, overriddenIn, x]; done) | decide +kernel)) (fun m => by first | (simp [entryFrame, mkF, argsToLocals, Value.category, maxLocals]; done) | rfl) ?_
  intro p e s m below meth c s₁ hx hby hml hown0 hnm hret hlk hZ X0 e0 hsh
  have hown : s.vm.findClass "com/example/orthonorm/orthonorm/sanskrit/Anchors" = some m.cls := hown0
  have sn := own_snI hw
  have N0 := Fr.nil hB.size
  refine oA1 X0 hx (hb hby d4_0) (pc' := 1) rfl rfl rfl ?_
  obtain ⟨T1, X1, e1, st1⟩ := getF X0 hx hZ hown (host := "") (Or.inl (hw _ (List.mem_of_getElem? (i := 22) rfl))) Via.refl e0 (own_Ob_t B0.1) (g := (mkF m 1 #[rv o] [(.ref o)])) rfl rfl (hb hby d4_1)
  refine own_pre (T' := T1) (f' := (mkF m 4 #[rv o] [(.int (0 : Int32))])) (fun t k => st1 t k) ?_
  refine oA1 X1 hx (hb hby d4_4) (pc' := 5) rfl rfl rfl ?_
  obtain ⟨T2, X2, e2, st2⟩ := getF X1 hx hZ hown (host := "") (Or.inl (hw _ (List.mem_of_getElem? (i := 24) rfl))) Via.refl e1 (own_Ob_s B0.1) (g := (mkF m 5 #[rv o] [(.ref o), (.int (0 : Int32))])) rfl rfl (hb hby d4_5)
  refine own_pre (T' := T2) (f' := (mkF m 8 #[rv o] [(.int (2 : Int32)), (.int (0 : Int32))])) (fun t k => st2 t k) ?_
  refine oN X2 hx (hb hby d4_8) (pc' := 11) rfl (tlt (by decide : (0 : Int32) < (2 : Int32))).2.1 ?_
  refine oA1 X2 hx (hb hby d4_11) (pc' := 12) rfl rfl rfl ?_
  obtain ⟨T3, X3, e3, st3⟩ := getF X2 hx hZ hown (host := "") (Or.inl (hw _ (List.mem_of_getElem? (i := 13) rfl))) Via.refl e2 (own_Ob_p B0.1) (g := (mkF m 12 #[rv o] [(.ref o)])) rfl rfl (hb hby d4_12)
  refine own_pre (T' := T3) (f' := (mkF m 15 #[rv o] [(.ref P)])) (fun t k => st3 t k) ?_
  refine oA1 X3 hx (hb hby d4_15) (pc' := 16) rfl rfl rfl ?_
  obtain ⟨T4, X4, e4, st4⟩ := getF X3 hx hZ hown (host := "") (Or.inl (hw _ (List.mem_of_getElem? (i := 22) rfl))) Via.refl e3 (own_Ob_t B0.1) (g := (mkF m 16 #[rv o] [(.ref o), (.ref P)])) rfl rfl (hb hby d4_16)
  refine own_pre (T' := T4) (f' := (mkF m 19 #[rv o] [(.int (0 : Int32)), (.ref P)])) (fun t k => st4 t k) ?_
  refine own_pre (T' := T4) (f' := (mkF m 20 #[rv o] [(.int v0)])) (fun t k => own_ldI X4 hx hZ e4 (own_An_vp B0) (by decide) rfl (g := (mkF m 19 #[rv o] [(.int (0 : Int32)), (.ref P)])) rfl rfl (hb hby d4_19) t k) ?_
  refine oG X4 hx (hb hby d4_20) (pc' := 25) (by decide) (by decide) ?_
  exact own_retI X4 hx hlk hret (hb hby d4_25) (⟨rfl, e4, rfl⟩) (by decide) (by decide)
set_option maxRecDepth 65536 in
set_option maxHeartbeats 40000000 in
theorem own_next_2_1 (l : Launch) (Z : State) (a0 : Array Value) (hw : ∀ d ∈ tables_1, d.before a0 Z = true) (ws : List Jvm.Cond) (w_NO_ANCHORS : Addr) (k_NO_ANCHORS : ClassId) (h0 : Heap) (F : own_F Z h0 w_NO_ANCHORS k_NO_ANCHORS) (hB : Heap) (Fb : own_F Z hB w_NO_ANCHORS k_NO_ANCHORS) (o : Addr) (P O : Addr) (kP kO : ClassId) (v0 v1 v2 v3 v4 v5 v6 v7 u0 u1 u2 u3 u4 u5 u6 u7 : Int32)  (B0 : own_An Z hB h0 o P O kP kO [(.int v0), (.int v1), (.int v2), (.int v3), (.int v4), (.int v5), (.int v6), (.int v7)] [(.int u0), (.int u1), (.int u2), (.int u3), (.int u4), (.int u5), (.int u6), (.int u7)] (2 : Int32) (1 : Int32))  :
    own_C l (⟨"com/example/orthonorm/orthonorm/sanskrit/Anchors", "nextPlace", "()I"⟩ : MethodName) prog_37_method_3_code 1 (some .int) ws (own_R 0 0) #[(.ref o)] Z h0 (own_Q0 (some (.int v1)) h0) := by
  have F0 := F
  obtain ⟨S_NO_ANCHORS, E_NO_ANCHORS, V_NO_ANCHORS⟩ := F
  refine own_enter (LS := #[rv o]) (plainFor_of_name (by first | (simp [plainName, overriddenIn, x]; done) | decide +kernel)) (fun m => by first | (simp [entryFrame, mkF, argsToLocals, Value.category, maxLocals]; done) | rfl) ?_
  intro p e s m below meth c s₁ hx hby hml hown0 hnm hret hlk hZ X0 e0 hsh
  have hown : s.vm.findClass "com/example/orthonorm/orthonorm/sanskrit/Anchors" = some m.cls := hown0
  have sn := own_snI hw
  have N0 := Fr.nil hB.size
  refine oA1 X0 hx (hb hby d4_0) (pc' := 1) rfl rfl rfl ?_
  obtain ⟨T1, X1, e1, st1⟩ := getF X0 hx hZ hown (host := "") (Or.inl (hw _ (List.mem_of_getElem? (i := 22) rfl))) Via.refl e0 (own_Ob_t B0.1) (g := (mkF m 1 #[rv o] [(.ref o)])) rfl rfl (hb hby d4_1)
  refine own_pre (T' := T1) (f' := (mkF m 4 #[rv o] [(.int (1 : Int32))])) (fun t k => st1 t k) ?_
  refine oA1 X1 hx (hb hby d4_4) (pc' := 5) rfl rfl rfl ?_
  obtain ⟨T2, X2, e2, st2⟩ := getF X1 hx hZ hown (host := "") (Or.inl (hw _ (List.mem_of_getElem? (i := 24) rfl))) Via.refl e1 (own_Ob_s B0.1) (g := (mkF m 5 #[rv o] [(.ref o), (.int (1 : Int32))])) rfl rfl (hb hby d4_5)
  refine own_pre (T' := T2) (f' := (mkF m 8 #[rv o] [(.int (2 : Int32)), (.int (1 : Int32))])) (fun t k => st2 t k) ?_
  refine oN X2 hx (hb hby d4_8) (pc' := 11) rfl (tlt (by decide : (1 : Int32) < (2 : Int32))).2.1 ?_
  refine oA1 X2 hx (hb hby d4_11) (pc' := 12) rfl rfl rfl ?_
  obtain ⟨T3, X3, e3, st3⟩ := getF X2 hx hZ hown (host := "") (Or.inl (hw _ (List.mem_of_getElem? (i := 13) rfl))) Via.refl e2 (own_Ob_p B0.1) (g := (mkF m 12 #[rv o] [(.ref o)])) rfl rfl (hb hby d4_12)
  refine own_pre (T' := T3) (f' := (mkF m 15 #[rv o] [(.ref P)])) (fun t k => st3 t k) ?_
  refine oA1 X3 hx (hb hby d4_15) (pc' := 16) rfl rfl rfl ?_
  obtain ⟨T4, X4, e4, st4⟩ := getF X3 hx hZ hown (host := "") (Or.inl (hw _ (List.mem_of_getElem? (i := 22) rfl))) Via.refl e3 (own_Ob_t B0.1) (g := (mkF m 16 #[rv o] [(.ref o), (.ref P)])) rfl rfl (hb hby d4_16)
  refine own_pre (T' := T4) (f' := (mkF m 19 #[rv o] [(.int (1 : Int32)), (.ref P)])) (fun t k => st4 t k) ?_
  refine own_pre (T' := T4) (f' := (mkF m 20 #[rv o] [(.int v1)])) (fun t k => own_ldI X4 hx hZ e4 (own_An_vp B0) (by decide) rfl (g := (mkF m 19 #[rv o] [(.int (1 : Int32)), (.ref P)])) rfl rfl (hb hby d4_19) t k) ?_
  refine oG X4 hx (hb hby d4_20) (pc' := 25) (by decide) (by decide) ?_
  exact own_retI X4 hx hlk hret (hb hby d4_25) (⟨rfl, e4, rfl⟩) (by decide) (by decide)
set_option maxRecDepth 65536 in
set_option maxHeartbeats 40000000 in
theorem own_next_2_2 (l : Launch) (Z : State) (a0 : Array Value) (hw : ∀ d ∈ tables_1, d.before a0 Z = true) (ws : List Jvm.Cond) (w_NO_ANCHORS : Addr) (k_NO_ANCHORS : ClassId) (h0 : Heap) (F : own_F Z h0 w_NO_ANCHORS k_NO_ANCHORS) (hB : Heap) (Fb : own_F Z hB w_NO_ANCHORS k_NO_ANCHORS) (o : Addr) (P O : Addr) (kP kO : ClassId) (v0 v1 v2 v3 v4 v5 v6 v7 u0 u1 u2 u3 u4 u5 u6 u7 : Int32)  (B0 : own_An Z hB h0 o P O kP kO [(.int v0), (.int v1), (.int v2), (.int v3), (.int v4), (.int v5), (.int v6), (.int v7)] [(.int u0), (.int u1), (.int u2), (.int u3), (.int u4), (.int u5), (.int u6), (.int u7)] (2 : Int32) (2 : Int32))  :
    own_C l (⟨"com/example/orthonorm/orthonorm/sanskrit/Anchors", "nextPlace", "()I"⟩ : MethodName) prog_37_method_3_code 1 (some .int) ws (own_R 0 0) #[(.ref o)] Z h0 (own_Q0 (some (.int (2147483647 : Int32))) h0) := by
  have F0 := F
  obtain ⟨S_NO_ANCHORS, E_NO_ANCHORS, V_NO_ANCHORS⟩ := F
  refine own_enter (LS := #[rv o]) (plainFor_of_name (by first | (simp [plainName, overriddenIn, x]; done) | decide +kernel)) (fun m => by first | (simp [entryFrame, mkF, argsToLocals, Value.category, maxLocals]; done) | rfl) ?_
  intro p e s m below meth c s₁ hx hby hml hown0 hnm hret hlk hZ X0 e0 hsh
  have hown : s.vm.findClass "com/example/orthonorm/orthonorm/sanskrit/Anchors" = some m.cls := hown0
  have sn := own_snI hw
  have N0 := Fr.nil hB.size
  refine oA1 X0 hx (hb hby d4_0) (pc' := 1) rfl rfl rfl ?_
  obtain ⟨T1, X1, e1, st1⟩ := getF X0 hx hZ hown (host := "") (Or.inl (hw _ (List.mem_of_getElem? (i := 22) rfl))) Via.refl e0 (own_Ob_t B0.1) (g := (mkF m 1 #[rv o] [(.ref o)])) rfl rfl (hb hby d4_1)
  refine own_pre (T' := T1) (f' := (mkF m 4 #[rv o] [(.int (2 : Int32))])) (fun t k => st1 t k) ?_
  refine oA1 X1 hx (hb hby d4_4) (pc' := 5) rfl rfl rfl ?_
  obtain ⟨T2, X2, e2, st2⟩ := getF X1 hx hZ hown (host := "") (Or.inl (hw _ (List.mem_of_getElem? (i := 24) rfl))) Via.refl e1 (own_Ob_s B0.1) (g := (mkF m 5 #[rv o] [(.ref o), (.int (2 : Int32))])) rfl rfl (hb hby d4_5)
  refine own_pre (T' := T2) (f' := (mkF m 8 #[rv o] [(.int (2 : Int32)), (.int (2 : Int32))])) (fun t k => st2 t k) ?_
  refine oY X2 hx (hb hby d4_8) (pc' := 23) (flt (by decide : ¬ ((2 : Int32) < (2 : Int32)))).2.1 (by decide) (by decide) ?_
  refine own_pre (T' := T2) (f' := (mkF m 25 #[rv o] [(.int (2147483647 : Int32))])) (fun t k => X2.ldcInt hx hown (mvT hZ (hw _ (List.mem_of_getElem? (i := 31) rfl))) (g := (mkF m 23 #[rv o] [])) rfl (hb hby d4_23) t k) ?_
  exact own_retI X2 hx hlk hret (hb hby d4_25) (⟨rfl, e2, rfl⟩) (by decide) (by decide)
set_option maxRecDepth 65536 in
set_option maxHeartbeats 40000000 in
theorem own_next_3_0 (l : Launch) (Z : State) (a0 : Array Value) (hw : ∀ d ∈ tables_1, d.before a0 Z = true) (ws : List Jvm.Cond) (w_NO_ANCHORS : Addr) (k_NO_ANCHORS : ClassId) (h0 : Heap) (F : own_F Z h0 w_NO_ANCHORS k_NO_ANCHORS) (hB : Heap) (Fb : own_F Z hB w_NO_ANCHORS k_NO_ANCHORS) (o : Addr) (P O : Addr) (kP kO : ClassId) (v0 v1 v2 v3 v4 v5 v6 v7 u0 u1 u2 u3 u4 u5 u6 u7 : Int32)  (B0 : own_An Z hB h0 o P O kP kO [(.int v0), (.int v1), (.int v2), (.int v3), (.int v4), (.int v5), (.int v6), (.int v7)] [(.int u0), (.int u1), (.int u2), (.int u3), (.int u4), (.int u5), (.int u6), (.int u7)] (3 : Int32) (0 : Int32))  :
    own_C l (⟨"com/example/orthonorm/orthonorm/sanskrit/Anchors", "nextPlace", "()I"⟩ : MethodName) prog_37_method_3_code 1 (some .int) ws (own_R 0 0) #[(.ref o)] Z h0 (own_Q0 (some (.int v0)) h0) := by
  have F0 := F
  obtain ⟨S_NO_ANCHORS, E_NO_ANCHORS, V_NO_ANCHORS⟩ := F
  refine own_enter (LS := #[rv o]) (plainFor_of_name (by first | (simp [plainName, overriddenIn, x]; done) | decide +kernel)) (fun m => by first | (simp [entryFrame, mkF, argsToLocals, Value.category, maxLocals]; done) | rfl) ?_
  intro p e s m below meth c s₁ hx hby hml hown0 hnm hret hlk hZ X0 e0 hsh
  have hown : s.vm.findClass "com/example/orthonorm/orthonorm/sanskrit/Anchors" = some m.cls := hown0
  have sn := own_snI hw
  have N0 := Fr.nil hB.size
  refine oA1 X0 hx (hb hby d4_0) (pc' := 1) rfl rfl rfl ?_
  obtain ⟨T1, X1, e1, st1⟩ := getF X0 hx hZ hown (host := "") (Or.inl (hw _ (List.mem_of_getElem? (i := 22) rfl))) Via.refl e0 (own_Ob_t B0.1) (g := (mkF m 1 #[rv o] [(.ref o)])) rfl rfl (hb hby d4_1)
  refine own_pre (T' := T1) (f' := (mkF m 4 #[rv o] [(.int (0 : Int32))])) (fun t k => st1 t k) ?_
  refine oA1 X1 hx (hb hby d4_4) (pc' := 5) rfl rfl rfl ?_
  obtain ⟨T2, X2, e2, st2⟩ := getF X1 hx hZ hown (host := "") (Or.inl (hw _ (List.mem_of_getElem? (i := 24) rfl))) Via.refl e1 (own_Ob_s B0.1) (g := (mkF m 5 #[rv o] [(.ref o), (.int (0 : Int32))])) rfl rfl (hb hby d4_5)
  refine own_pre (T' := T2) (f' := (mkF m 8 #[rv o] [(.int (3 : Int32)), (.int (0 : Int32))])) (fun t k => st2 t k) ?_
  refine oN X2 hx (hb hby d4_8) (pc' := 11) rfl (tlt (by decide : (0 : Int32) < (3 : Int32))).2.1 ?_
  refine oA1 X2 hx (hb hby d4_11) (pc' := 12) rfl rfl rfl ?_
  obtain ⟨T3, X3, e3, st3⟩ := getF X2 hx hZ hown (host := "") (Or.inl (hw _ (List.mem_of_getElem? (i := 13) rfl))) Via.refl e2 (own_Ob_p B0.1) (g := (mkF m 12 #[rv o] [(.ref o)])) rfl rfl (hb hby d4_12)
  refine own_pre (T' := T3) (f' := (mkF m 15 #[rv o] [(.ref P)])) (fun t k => st3 t k) ?_
  refine oA1 X3 hx (hb hby d4_15) (pc' := 16) rfl rfl rfl ?_
  obtain ⟨T4, X4, e4, st4⟩ := getF X3 hx hZ hown (host := "") (Or.inl (hw _ (List.mem_of_getElem? (i := 22) rfl))) Via.refl e3 (own_Ob_t B0.1) (g := (mkF m 16 #[rv o] [(.ref o), (.ref P)])) rfl rfl (hb hby d4_16)
  refine own_pre (T' := T4) (f' := (mkF m 19 #[rv o] [(.int (0 : Int32)), (.ref P)])) (fun t k => st4 t k) ?_
  refine own_pre (T' := T4) (f' := (mkF m 20 #[rv o] [(.int v0)])) (fun t k => own_ldI X4 hx hZ e4 (own_An_vp B0) (by decide) rfl (g := (mkF m 19 #[rv o] [(.int (0 : Int32)), (.ref P)])) rfl rfl (hb hby d4_19) t k) ?_
  refine oG X4 hx (hb hby d4_20) (pc' := 25) (by decide) (by decide) ?_
  exact own_retI X4 hx hlk hret (hb hby d4_25) (⟨rfl, e4, rfl⟩) (by decide) (by decide)
set_option maxRecDepth 65536 in
set_option maxHeartbeats 40000000 in
theorem own_next_3_1 (l : Launch) (Z : State) (a0 : Array Value) (hw : ∀ d ∈ tables_1, d.before a0 Z = true) (ws : List Jvm.Cond) (w_NO_ANCHORS : Addr) (k_NO_ANCHORS : ClassId) (h0 : Heap) (F : own_F Z h0 w_NO_ANCHORS k_NO_ANCHORS) (hB : Heap) (Fb : own_F Z hB w_NO_ANCHORS k_NO_ANCHORS) (o : Addr) (P O : Addr) (kP kO : ClassId) (v0 v1 v2 v3 v4 v5 v6 v7 u0 u1 u2 u3 u4 u5 u6 u7 : Int32)  (B0 : own_An Z hB h0 o P O kP kO [(.int v0), (.int v1), (.int v2), (.int v3), (.int v4), (.int v5), (.int v6), (.int v7)] [(.int u0), (.int u1), (.int u2), (.int u3), (.int u4), (.int u5), (.int u6), (.int u7)] (3 : Int32) (1 : Int32))  :
    own_C l (⟨"com/example/orthonorm/orthonorm/sanskrit/Anchors", "nextPlace", "()I"⟩ : MethodName) prog_37_method_3_code 1 (some .int) ws (own_R 0 0) #[(.ref o)] Z h0 (own_Q0 (some (.int v1)) h0) := by
  have F0 := F
  obtain ⟨S_NO_ANCHORS, E_NO_ANCHORS, V_NO_ANCHORS⟩ := F
  refine own_enter (LS := #[rv o]) (plainFor_of_name (by first | (simp [plainName, overriddenIn, x]; done) | decide +kernel)) (fun m => by first | (simp [entryFrame, mkF, argsToLocals, Value.category, maxLocals]; done) | rfl) ?_
  intro p e s m below meth c s₁ hx hby hml hown0 hnm hret hlk hZ X0 e0 hsh
  have hown : s.vm.findClass "com/example/orthonorm/orthonorm/sanskrit/Anchors" = some m.cls := hown0
  have sn := own_snI hw
  have N0 := Fr.nil hB.size
  refine oA1 X0 hx (hb hby d4_0) (pc' := 1) rfl rfl rfl ?_
  obtain ⟨T1, X1, e1, st1⟩ := getF X0 hx hZ hown (host := "") (Or.inl (hw _ (List.mem_of_getElem? (i := 22) rfl))) Via.refl e0 (own_Ob_t B0.1) (g := (mkF m 1 #[rv o] [(.ref o)])) rfl rfl (hb hby d4_1)
  refine own_pre (T' := T1) (f' := (mkF m 4 #[rv o] [(.int (1 : Int32))])) (fun t k => st1 t k) ?_
  refine oA1 X1 hx (hb hby d4_4) (pc' := 5) rfl rfl rfl ?_
  obtain ⟨T2, X2, e2, st2⟩ := getF X1 hx hZ hown (host := "") (Or.inl (hw _ (List.mem_of_getElem? (i := 24) rfl))) Via.refl e1 (own_Ob_s B0.1) (g := (mkF m 5 #[rv o] [(.ref o), (.int (1 : Int32))])) rfl rfl (hb hby d4_5)
  refine own_pre (T' := T2) (f' := (mkF m 8 #[rv o] [(.int (3 : Int32)), (.int (1 : Int32))])) (fun t k => st2 t k) ?_
  refine oN X2 hx (hb hby d4_8) (pc' := 11) rfl (tlt (by decide : (1 : Int32) < (3 : Int32))).2.1 ?_
  refine oA1 X2 hx (hb hby d4_11) (pc' := 12) rfl rfl rfl ?_
  obtain ⟨T3, X3, e3, st3⟩ := getF X2 hx hZ hown (host := "") (Or.inl (hw _ (List.mem_of_getElem? (i := 13) rfl))) Via.refl e2 (own_Ob_p B0.1) (g := (mkF m 12 #[rv o] [(.ref o)])) rfl rfl (hb hby d4_12)
  refine own_pre (T' := T3) (f' := (mkF m 15 #[rv o] [(.ref P)])) (fun t k => st3 t k) ?_
  refine oA1 X3 hx (hb hby d4_15) (pc' := 16) rfl rfl rfl ?_
  obtain ⟨T4, X4, e4, st4⟩ := getF X3 hx hZ hown (host := "") (Or.inl (hw _ (List.mem_of_getElem? (i := 22) rfl))) Via.refl e3 (own_Ob_t B0.1) (g := (mkF m 16 #[rv o] [(.ref o), (.ref P)])) rfl rfl (hb hby d4_16)
  refine own_pre (T' := T4) (f' := (mkF m 19 #[rv o] [(.int (1 : Int32)), (.ref P)])) (fun t k => st4 t k) ?_
  refine own_pre (T' := T4) (f' := (mkF m 20 #[rv o] [(.int v1)])) (fun t k => own_ldI X4 hx hZ e4 (own_An_vp B0) (by decide) rfl (g := (mkF m 19 #[rv o] [(.int (1 : Int32)), (.ref P)])) rfl rfl (hb hby d4_19) t k) ?_
  refine oG X4 hx (hb hby d4_20) (pc' := 25) (by decide) (by decide) ?_
  exact own_retI X4 hx hlk hret (hb hby d4_25) (⟨rfl, e4, rfl⟩) (by decide) (by decide)
set_option maxRecDepth 65536 in
set_option maxHeartbeats 40000000 in
theorem own_next_3_2 (l : Launch) (Z : State) (a0 : Array Value) (hw : ∀ d ∈ tables_1, d.before a0 Z = true) (ws : List Jvm.Cond) (w_NO_ANCHORS : Addr) (k_NO_ANCHORS : ClassId) (h0 : Heap) (F : own_F Z h0 w_NO_ANCHORS k_NO_ANCHORS) (hB : Heap) (Fb : own_F Z hB w_NO_ANCHORS k_NO_ANCHORS) (o : Addr) (P O : Addr) (kP kO : ClassId) (v0 v1 v2 v3 v4 v5 v6 v7 u0 u1 u2 u3 u4 u5 u6 u7 : Int32)  (B0 : own_An Z hB h0 o P O kP kO [(.int v0), (.int v1), (.int v2), (.int v3), (.int v4), (.int v5), (.int v6), (.int v7)] [(.int u0), (.int u1), (.int u2), (.int u3), (.int u4), (.int u5), (.int u6), (.int u7)] (3 : Int32) (2 : Int32))  :
    own_C l (⟨"com/example/orthonorm/orthonorm/sanskrit/Anchors", "nextPlace", "()I"⟩ : MethodName) prog_37_method_3_code 1 (some .int) ws (own_R 0 0) #[(.ref o)] Z h0 (own_Q0 (some (.int v2)) h0) := by
  have F0 := F
  obtain ⟨S_NO_ANCHORS, E_NO_ANCHORS, V_NO_ANCHORS⟩ := F
  refine own_enter (LS := #[rv o]) (plainFor_of_name (by first | (simp [plainName, overriddenIn, x]; done) | decide +kernel)) (fun m => by first | (simp [entryFrame, mkF, argsToLocals, Value.category, maxLocals]; done) | rfl) ?_
  intro p e s m below meth c s₁ hx hby hml hown0 hnm hret hlk hZ X0 e0 hsh
  have hown : s.vm.findClass "com/example/orthonorm/orthonorm/sanskrit/Anchors" = some m.cls := hown0
  have sn := own_snI hw
  have N0 := Fr.nil hB.size
  refine oA1 X0 hx (hb hby d4_0) (pc' := 1) rfl rfl rfl ?_
  obtain ⟨T1, X1, e1, st1⟩ := getF X0 hx hZ hown (host := "") (Or.inl (hw _ (List.mem_of_getElem? (i := 22) rfl))) Via.refl e0 (own_Ob_t B0.1) (g := (mkF m 1 #[rv o] [(.ref o)])) rfl rfl (hb hby d4_1)
  refine own_pre (T' := T1) (f' := (mkF m 4 #[rv o] [(.int (2 : Int32))])) (fun t k => st1 t k) ?_
  refine oA1 X1 hx (hb hby d4_4) (pc' := 5) rfl rfl rfl ?_
  obtain ⟨T2, X2, e2, st2⟩ := getF X1 hx hZ hown (host := "") (Or.inl (hw _ (List.mem_of_getElem? (i := 24) rfl))) Via.refl e1 (own_Ob_s B0.1) (g := (mkF m 5 #[rv o] [(.ref o), (.int (2 : Int32))])) rfl rfl (hb hby d4_5)
  refine own_pre (T' := T2) (f' := (mkF m 8 #[rv o] [(.int (3 : Int32)), (.int (2 : Int32))])) (fun t k => st2 t k) ?_
  refine oN X2 hx (hb hby d4_8) (pc' := 11) rfl (tlt (by decide : (2 : Int32) < (3 : Int32))).2.1 ?_
  refine oA1 X2 hx (hb hby d4_11) (pc' := 12) rfl rfl rfl ?_
  obtain ⟨T3, X3, e3, st3⟩ := getF X2 hx hZ hown (host := "") (Or.inl (hw _ (List.mem_of_getElem? (i := 13) rfl))) Via.refl e2 (own_Ob_p B0.1) (g := (mkF m 12 #[rv o] [(.ref o)])) rfl rfl (hb hby d4_12)
  refine own_pre (T' := T3) (f' := (mkF m 15 #[rv o] [(.ref P)])) (fun t k => st3 t k) ?_
  refine oA1 X3 hx (hb hby d4_15) (pc' := 16) rfl rfl rfl ?_
  obtain ⟨T4, X4, e4, st4⟩ := getF X3 hx hZ hown (host := "") (Or.inl (hw _ (List.mem_of_getElem? (i := 22) rfl))) Via.refl e3 (own_Ob_t B0.1) (g := (mkF m 16 #[rv o] [(.ref o), (.ref P)])) rfl rfl (hb hby d4_16)
  refine own_pre (T' := T4) (f' := (mkF m 19 #[rv o] [(.int (2 : Int32)), (.ref P)])) (fun t k => st4 t k) ?_
  refine own_pre (T' := T4) (f' := (mkF m 20 #[rv o] [(.int v2)])) (fun t k => own_ldI X4 hx hZ e4 (own_An_vp B0) (by decide) rfl (g := (mkF m 19 #[rv o] [(.int (2 : Int32)), (.ref P)])) rfl rfl (hb hby d4_19) t k) ?_
  refine oG X4 hx (hb hby d4_20) (pc' := 25) (by decide) (by decide) ?_
  exact own_retI X4 hx hlk hret (hb hby d4_25) (⟨rfl, e4, rfl⟩) (by decide) (by decide)
set_option maxRecDepth 65536 in
set_option maxHeartbeats 40000000 in
theorem own_next_3_3 (l : Launch) (Z : State) (a0 : Array Value) (hw : ∀ d ∈ tables_1, d.before a0 Z = true) (ws : List Jvm.Cond) (w_NO_ANCHORS : Addr) (k_NO_ANCHORS : ClassId) (h0 : Heap) (F : own_F Z h0 w_NO_ANCHORS k_NO_ANCHORS) (hB : Heap) (Fb : own_F Z hB w_NO_ANCHORS k_NO_ANCHORS) (o : Addr) (P O : Addr) (kP kO : ClassId) (v0 v1 v2 v3 v4 v5 v6 v7 u0 u1 u2 u3 u4 u5 u6 u7 : Int32)  (B0 : own_An Z hB h0 o P O kP kO [(.int v0), (.int v1), (.int v2), (.int v3), (.int v4), (.int v5), (.int v6), (.int v7)] [(.int u0), (.int u1), (.int u2), (.int u3), (.int u4), (.int u5), (.int u6), (.int u7)] (3 : Int32) (3 : Int32))  :
    own_C l (⟨"com/example/orthonorm/orthonorm/sanskrit/Anchors", "nextPlace", "()I"⟩ : MethodName) prog_37_method_3_code 1 (some .int) ws (own_R 0 0) #[(.ref o)] Z h0 (own_Q0 (some (.int (2147483647 : Int32))) h0) := by
  have F0 := F
  obtain ⟨S_NO_ANCHORS, E_NO_ANCHORS, V_NO_ANCHORS⟩ := F
  refine own_enter (LS := #[rv o]) (plainFor_of_name (by first | (simp [plainName, overriddenIn, x]; done) | decide +kernel)) (fun m => by first | (simp [entryFrame, mkF, argsToLocals, Value.category, maxLocals]; done) | rfl) ?_
  intro p e s m below meth c s₁ hx hby hml hown0 hnm hret hlk hZ X0 e0 hsh
  have hown : s.vm.findClass "com/example/orthonorm/orthonorm/sanskrit/Anchors" = some m.cls := hown0
  have sn := own_snI hw
  have N0 := Fr.nil hB.size
  refine oA1 X0 hx (hb hby d4_0) (pc' := 1) rfl rfl rfl ?_
  obtain ⟨T1, X1, e1, st1⟩ := getF X0 hx hZ hown (host := "") (Or.inl (hw _ (List.mem_of_getElem? (i := 22) rfl))) Via.refl e0 (own_Ob_t B0.1) (g := (mkF m 1 #[rv o] [(.ref o)])) rfl rfl (hb hby d4_1)
  refine own_pre (T' := T1) (f' := (mkF m 4 #[rv o] [(.int (3 : Int32))])) (fun t k => st1 t k) ?_
  refine oA1 X1 hx (hb hby d4_4) (pc' := 5) rfl rfl rfl ?_
  obtain ⟨T2, X2, e2, st2⟩ := getF X1 hx hZ hown (host := "") (Or.inl (hw _ (List.mem_of_getElem? (i := 24) rfl))) Via.refl e1 (own_Ob_s B0.1) (g := (mkF m 5 #[rv o] [(.ref o), (.int (3 : Int32))])) rfl rfl (hb hby d4_5)
  refine own_pre (T' := T2) (f' := (mkF m 8 #[rv o] [(.int (3 : Int32)), (.int (3 : Int32))])) (fun t k => st2 t k) ?_
  refine oY X2 hx (hb hby d4_8) (pc' := 23) (flt (by decide : ¬ ((3 : Int32) < (3 : Int32)))).2.1 (by decide) (by decide) ?_
  refine own_pre (T' := T2) (f' := (mkF m 25 #[rv o] [(.int (2147483647 : Int32))])) (fun t k => X2.ldcInt hx hown (mvT hZ (hw _ (List.mem_of_getElem? (i := 31) rfl))) (g := (mkF m 23 #[rv o] [])) rfl (hb hby d4_23) t k) ?_
  exact own_retI X2 hx hlk hret (hb hby d4_25) (⟨rfl, e2, rfl⟩) (by decide) (by decide)
set_option maxRecDepth 65536 in
set_option maxHeartbeats 40000000 in
theorem own_next0 (l : Launch) (Z : State) (a0 : Array Value) (hw : ∀ d ∈ tables_1, d.before a0 Z = true) (ws : List Jvm.Cond) (w_NO_ANCHORS : Addr) (k_NO_ANCHORS : ClassId) (h0 : Heap) (F : own_F Z h0 w_NO_ANCHORS k_NO_ANCHORS) (hB : Heap) (Fb : own_F Z hB w_NO_ANCHORS k_NO_ANCHORS) (o : Addr)  (B0 : own_Ob Z hB h0 o (.ref w_NO_ANCHORS) (.ref w_NO_ANCHORS) (0 : Int32) (0 : Int32)) :
    own_C l (⟨"com/example/orthonorm/orthonorm/sanskrit/Anchors", "nextPlace", "()I"⟩ : MethodName) prog_37_method_3_code 1 (some .int) ws (own_R 0 0) #[(.ref o)] Z h0 (own_Q0 (some (.int (2147483647 : Int32))) h0) := by
  have F0 := F
  obtain ⟨S_NO_ANCHORS, E_NO_ANCHORS, V_NO_ANCHORS⟩ := F
  refine own_enter (LS := #[rv o]) (plainFor_of_name (by first | (simp [plainName, overriddenIn, x]; done) | decide +kernel)) (fun m => by first | (simp [entryFrame, mkF, argsToLocals, Value.category, maxLocals]; done) | rfl) ?_
  intro p e s m below meth c s₁ hx hby hml hown0 hnm hret hlk hZ X0 e0 hsh
  have hown : s.vm.findClass "com/example/orthonorm/orthonorm/sanskrit/Anchors" = some m.cls := hown0
  have sn := own_snI hw
  have N0 := Fr.nil hB.size
  refine oA1 X0 hx (hb hby d4_0) (pc' := 1) rfl rfl rfl ?_
  obtain ⟨T1, X1, e1, st1⟩ := getF X0 hx hZ hown (host := "") (Or.inl (hw _ (List.mem_of_getElem? (i := 22) rfl))) Via.refl e0 (own_Ob_t B0) (g := (mkF m 1 #[rv o] [(.ref o)])) rfl rfl (hb hby d4_1)
  refine own_pre (T' := T1) (f' := (mkF m 4 #[rv o] [(.int (0 : Int32))])) (fun t k => st1 t k) ?_
  refine oA1 X1 hx (hb hby d4_4) (pc' := 5) rfl rfl rfl ?_
  obtain ⟨T2, X2, e2, st2⟩ := getF X1 hx hZ hown (host := "") (Or.inl (hw _ (List.mem_of_getElem? (i := 24) rfl))) Via.refl e1 (own_Ob_s B0) (g := (mkF m 5 #[rv o] [(.ref o), (.int (0 : Int32))])) rfl rfl (hb hby d4_5)
  refine own_pre (T' := T2) (f' := (mkF m 8 #[rv o] [(.int (0 : Int32)), (.int (0 : Int32))])) (fun t k => st2 t k) ?_
  refine oY X2 hx (hb hby d4_8) (pc' := 23) (flt (by decide : ¬ ((0 : Int32) < (0 : Int32)))).2.1 (by decide) (by decide) ?_
  refine own_pre (T' := T2) (f' := (mkF m 25 #[rv o] [(.int (2147483647 : Int32))])) (fun t k => X2.ldcInt hx hown (mvT hZ (hw _ (List.mem_of_getElem? (i := 31) rfl))) (g := (mkF m 23 #[rv o] [])) rfl (hb hby d4_23) t k) ?_
  exact own_retI X2 hx hlk hret (hb hby d4_25) (⟨rfl, e2, rfl⟩) (by decide) (by decide)
theorem d3_0 : decode prog_37_method_5_code 0 = .ok (.aload_n 0, 1) := by decide +kernel
theorem d3_1 : decode prog_37_method_5_code 1 = .ok (.getfield 23, 3) := by decide +kernel
theorem d3_4 : decode prog_37_method_5_code 4 = .ok (.aload_n 0, 1) := by decide +kernel
theorem d3_5 : decode prog_37_method_5_code 5 = .ok (.getfield 19, 3) := by decide +kernel
theorem d3_8 : decode prog_37_method_5_code 8 = .ok (.if_icmp .ge 29, 3) := by decide +kernel
theorem d3_37 : decode prog_37_method_5_code 37 = .ok (.aload_n 0, 1) := by decide +kernel
theorem d3_38 : decode prog_37_method_5_code 38 = .ok (.getfield 23, 3) := by decide +kernel
theorem d3_41 : decode prog_37_method_5_code 41 = .ok (.aload_n 0, 1) := by decide +kernel
theorem d3_42 : decode prog_37_method_5_code 42 = .ok (.getfield 19, 3) := by decide +kernel
theorem d3_45 : decode prog_37_method_5_code 45 = .ok (.if_icmp .ge 35, 3) := by decide +kernel
theorem d3_80 : decode prog_37_method_5_code 80 = .ok (.iconst (-1), 1) := by decide +kernel
theorem d3_81 : decode prog_37_method_5_code 81 = .ok (.ireturn, 1) := by decide +kernel
set_option maxRecDepth 65536 in
set_option maxHeartbeats 40000000 in
theorem own_at0 (l : Launch) (Z : State) (a0 : Array Value) (hw : ∀ d ∈ tables_1, d.before a0 Z = true) (ws : List Jvm.Cond) (w_NO_ANCHORS : Addr) (k_NO_ANCHORS : ClassId) (h0 : Heap) (F : own_F Z h0 w_NO_ANCHORS k_NO_ANCHORS) (hB : Heap) (Fb : own_F Z hB w_NO_ANCHORS k_NO_ANCHORS) (o : Addr) (x1 : Int32) (B0 : own_Ob Z hB h0 o (.ref w_NO_ANCHORS) (.ref w_NO_ANCHORS) (0 : Int32) (0 : Int32)) :
    own_C l (⟨"com/example/orthonorm/orthonorm/sanskrit/Anchors", "takeAt", "(I)I"⟩ : MethodName) prog_37_method_5_code 2 (some .int) ws (own_R 0 0) #[(.ref o), (.int x1)] Z h0 (own_Q0 (some (.int (-1 : Int32))) h0) := by
  have F0 := F
  obtain ⟨S_NO_ANCHORS, E_NO_ANCHORS, V_NO_ANCHORS⟩ := F
  refine own_enter (LS := #[rv o, iv x1]) (plainFor_of_name (by first | (simp [plainName, overriddenIn, x]; done) | decide +kernel)) (fun m => by first | (simp [entryFrame, mkF, argsToLocals, Value.category, maxLocals]; done) | rfl) ?_
  intro p e s m below meth c s₁ hx hby hml hown0 hnm hret hlk hZ X0 e0 hsh
  have hown : s.vm.findClass "com/example/orthonorm/orthonorm/sanskrit/Anchors" = some m.cls := hown0
  have sn := own_snI hw
  have N0 := Fr.nil hB.size
  refine oA1 X0 hx (hb hby d3_0) (pc' := 1) rfl rfl rfl ?_
  obtain ⟨T1, X1, e1, st1⟩ := getF X0 hx hZ hown (host := "") (Or.inl (hw _ (List.mem_of_getElem? (i := 22) rfl))) Via.refl e0 (own_Ob_t B0) (g := (mkF m 1 #[rv o, iv x1] [(.ref o)])) rfl rfl (hb hby d3_1)
  refine own_pre (T' := T1) (f' := (mkF m 4 #[rv o, iv x1] [(.int (0 : Int32))])) (fun t k => st1 t k) ?_
  refine oA1 X1 hx (hb hby d3_4) (pc' := 5) rfl rfl rfl ?_
  obtain ⟨T2, X2, e2, st2⟩ := getF X1 hx hZ hown (host := "") (Or.inl (hw _ (List.mem_of_getElem? (i := 24) rfl))) Via.refl e1 (own_Ob_s B0) (g := (mkF m 5 #[rv o, iv x1] [(.ref o), (.int (0 : Int32))])) rfl rfl (hb hby d3_5)
  refine own_pre (T' := T2) (f' := (mkF m 8 #[rv o, iv x1] [(.int (0 : Int32)), (.int (0 : Int32))])) (fun t k => st2 t k) ?_
  refine oY X2 hx (hb hby d3_8) (pc' := 37) (flt (by decide : ¬ ((0 : Int32) < (0 : Int32)))).2.1 (by decide) (by decide) ?_
  refine oA1 X2 hx (hb hby d3_37) (pc' := 38) rfl rfl rfl ?_
  obtain ⟨T3, X3, e3, st3⟩ := getF X2 hx hZ hown (host := "") (Or.inl (hw _ (List.mem_of_getElem? (i := 22) rfl))) Via.refl e2 (own_Ob_t B0) (g := (mkF m 38 #[rv o, iv x1] [(.ref o)])) rfl rfl (hb hby d3_38)
  refine own_pre (T' := T3) (f' := (mkF m 41 #[rv o, iv x1] [(.int (0 : Int32))])) (fun t k => st3 t k) ?_
  refine oA1 X3 hx (hb hby d3_41) (pc' := 42) rfl rfl rfl ?_
  obtain ⟨T4, X4, e4, st4⟩ := getF X3 hx hZ hown (host := "") (Or.inl (hw _ (List.mem_of_getElem? (i := 24) rfl))) Via.refl e3 (own_Ob_s B0) (g := (mkF m 42 #[rv o, iv x1] [(.ref o), (.int (0 : Int32))])) rfl rfl (hb hby d3_42)
  refine own_pre (T' := T4) (f' := (mkF m 45 #[rv o, iv x1] [(.int (0 : Int32)), (.int (0 : Int32))])) (fun t k => st4 t k) ?_
  refine oY X4 hx (hb hby d3_45) (pc' := 80) (flt (by decide : ¬ ((0 : Int32) < (0 : Int32)))).2.1 (by decide) (by decide) ?_
  refine oC X4 hx (-1 : Int32) (hb hby d3_80) (pc' := 81) rfl rfl ?_
  exact own_retI X4 hx hlk hret (hb hby d3_81) (⟨rfl, e4, rfl⟩) (by decide) (by decide)
theorem d3_11 : decode prog_37_method_5_code 11 = .ok (.aload_n 0, 1) := by decide +kernel
theorem d3_12 : decode prog_37_method_5_code 12 = .ok (.getfield 13, 3) := by decide +kernel
theorem d3_15 : decode prog_37_method_5_code 15 = .ok (.aload_n 0, 1) := by decide +kernel
theorem d3_16 : decode prog_37_method_5_code 16 = .ok (.getfield 23, 3) := by decide +kernel
theorem d3_19 : decode prog_37_method_5_code 19 = .ok (.iaload, 1) := by decide +kernel
theorem d3_20 : decode prog_37_method_5_code 20 = .ok (.iload_n 1, 1) := by decide +kernel
theorem d3_21 : decode prog_37_method_5_code 21 = .ok (.if_icmp .ge 16, 3) := by decide +kernel
theorem d3_48 : decode prog_37_method_5_code 48 = .ok (.aload_n 0, 1) := by decide +kernel
theorem d3_49 : decode prog_37_method_5_code 49 = .ok (.getfield 13, 3) := by decide +kernel
theorem d3_52 : decode prog_37_method_5_code 52 = .ok (.aload_n 0, 1) := by decide +kernel
theorem d3_53 : decode prog_37_method_5_code 53 = .ok (.getfield 23, 3) := by decide +kernel
theorem d3_56 : decode prog_37_method_5_code 56 = .ok (.iaload, 1) := by decide +kernel
theorem d3_57 : decode prog_37_method_5_code 57 = .ok (.iload_n 1, 1) := by decide +kernel
theorem d3_58 : decode prog_37_method_5_code 58 = .ok (.if_icmp .ne 22, 3) := by decide +kernel
set_option maxRecDepth 65536 in
set_option maxHeartbeats 40000000 in
theorem own_at_1_0_0_0 (l : Launch) (Z : State) (a0 : Array Value) (hw : ∀ d ∈ tables_1, d.before a0 Z = true) (ws : List Jvm.Cond) (w_NO_ANCHORS : Addr) (k_NO_ANCHORS : ClassId) (h0 : Heap) (F : own_F Z h0 w_NO_ANCHORS k_NO_ANCHORS) (hB : Heap) (Fb : own_F Z hB w_NO_ANCHORS k_NO_ANCHORS) (o : Addr) (P O : Addr) (kP kO : ClassId) (v0 v1 v2 v3 v4 v5 v6 v7 u0 u1 u2 u3 u4 u5 u6 u7 : Int32)  (B0 : own_An Z hB h0 o P O kP kO [(.int v0), (.int v1), (.int v2), (.int v3), (.int v4), (.int v5), (.int v6), (.int v7)] [(.int u0), (.int u1), (.int u2), (.int u3), (.int u4), (.int u5), (.int u6), (.int u7)] (1 : Int32) (0 : Int32)) (x1 : Int32) (l0 : ¬ (v0 < x1)) (eq : ¬ (v0 = x1)) :
    own_C l (⟨"com/example/orthonorm/orthonorm/sanskrit/Anchors", "takeAt", "(I)I"⟩ : MethodName) prog_37_method_5_code 2 (some .int) ws (own_R 0 0) #[(.ref o), (.int x1)] Z h0 (own_Q0 (some (.int (-1 : Int32))) h0) := by
  have F0 := F
  obtain ⟨S_NO_ANCHORS, E_NO_ANCHORS, V_NO_ANCHORS⟩ := F
  refine own_enter (LS := #[rv o, iv x1]) (plainFor_of_name (by first | (simp [plainName, overriddenIn, x]; done) | decide +kernel)) (fun m => by first | (simp [entryFrame, mkF, argsToLocals, Value.category, maxLocals]; done) | rfl) ?_
  intro p e s m below meth c s₁ hx hby hml hown0 hnm hret hlk hZ X0 e0 hsh
  have hown : s.vm.findClass "com/example/orthonorm/orthonorm/sanskrit/Anchors" = some m.cls := hown0
  have sn := own_snI hw
  have N0 := Fr.nil hB.size
  refine oA1 X0 hx (hb hby d3_0) (pc' := 1) rfl rfl rfl ?_
  obtain ⟨T1, X1, e1, st1⟩ := getF X0 hx hZ hown (host := "") (Or.inl (hw _ (List.mem_of_getElem? (i := 22) rfl))) Via.refl e0 (own_Ob_t B0.1) (g := (mkF m 1 #[rv o, iv x1] [(.ref o)])) rfl rfl (hb hby d3_1)
  refine own_pre (T' := T1) (f' := (mkF m 4 #[rv o, iv x1] [(.int (0 : Int32))])) (fun t k => st1 t k) ?_
  refine oA1 X1 hx (hb hby d3_4) (pc' := 5) rfl rfl rfl ?_
  obtain ⟨T2, X2, e2, st2⟩ := getF X1 hx hZ hown (host := "") (Or.inl (hw _ (List.mem_of_getElem? (i := 24) rfl))) Via.refl e1 (own_Ob_s B0.1) (g := (mkF m 5 #[rv o, iv x1] [(.ref o), (.int (0 : Int32))])) rfl rfl (hb hby d3_5)
  refine own_pre (T' := T2) (f' := (mkF m 8 #[rv o, iv x1] [(.int (1 : Int32)), (.int (0 : Int32))])) (fun t k => st2 t k) ?_
  refine oN X2 hx (hb hby d3_8) (pc' := 11) rfl (tlt (by decide : (0 : Int32) < (1 : Int32))).2.1 ?_
  refine oA1 X2 hx (hb hby d3_11) (pc' := 12) rfl rfl rfl ?_
  obtain ⟨T3, X3, e3, st3⟩ := getF X2 hx hZ hown (host := "") (Or.inl (hw _ (List.mem_of_getElem? (i := 13) rfl))) Via.refl e2 (own_Ob_p B0.1) (g := (mkF m 12 #[rv o, iv x1] [(.ref o)])) rfl rfl (hb hby d3_12)
  refine own_pre (T' := T3) (f' := (mkF m 15 #[rv o, iv x1] [(.ref P)])) (fun t k => st3 t k) ?_
  refine oA1 X3 hx (hb hby d3_15) (pc' := 16) rfl rfl rfl ?_
  obtain ⟨T4, X4, e4, st4⟩ := getF X3 hx hZ hown (host := "") (Or.inl (hw _ (List.mem_of_getElem? (i := 22) rfl))) Via.refl e3 (own_Ob_t B0.1) (g := (mkF m 16 #[rv o, iv x1] [(.ref o), (.ref P)])) rfl rfl (hb hby d3_16)
  refine own_pre (T' := T4) (f' := (mkF m 19 #[rv o, iv x1] [(.int (0 : Int32)), (.ref P)])) (fun t k => st4 t k) ?_
  refine own_pre (T' := T4) (f' := (mkF m 20 #[rv o, iv x1] [(.int v0)])) (fun t k => own_ldI X4 hx hZ e4 (own_An_vp B0) (by decide) rfl (g := (mkF m 19 #[rv o, iv x1] [(.int (0 : Int32)), (.ref P)])) rfl rfl (hb hby d3_19) t k) ?_
  refine oI1 X4 hx (hb hby d3_20) (pc' := 21) rfl rfl ?_
  refine oY X4 hx (hb hby d3_21) (pc' := 37) (flt l0).2.1 (by decide) (by decide) ?_
  refine oA1 X4 hx (hb hby d3_37) (pc' := 38) rfl rfl rfl ?_
  obtain ⟨T5, X5, e5, st5⟩ := getF X4 hx hZ hown (host := "") (Or.inl (hw _ (List.mem_of_getElem? (i := 22) rfl))) Via.refl e4 (own_Ob_t B0.1) (g := (mkF m 38 #[rv o, iv x1] [(.ref o)])) rfl rfl (hb hby d3_38)
  refine own_pre (T' := T5) (f' := (mkF m 41 #[rv o, iv x1] [(.int (0 : Int32))])) (fun t k => st5 t k) ?_
  refine oA1 X5 hx (hb hby d3_41) (pc' := 42) rfl rfl rfl ?_
  obtain ⟨T6, X6, e6, st6⟩ := getF X5 hx hZ hown (host := "") (Or.inl (hw _ (List.mem_of_getElem? (i := 24) rfl))) Via.refl e5 (own_Ob_s B0.1) (g := (mkF m 42 #[rv o, iv x1] [(.ref o), (.int (0 : Int32))])) rfl rfl (hb hby d3_42)
  refine own_pre (T' := T6) (f' := (mkF m 45 #[rv o, iv x1] [(.int (1 : Int32)), (.int (0 : Int32))])) (fun t k => st6 t k) ?_
  refine oN X6 hx (hb hby d3_45) (pc' := 48) rfl (tlt (by decide : (0 : Int32) < (1 : Int32))).2.1 ?_
  refine oA1 X6 hx (hb hby d3_48) (pc' := 49) rfl rfl rfl ?_
  obtain ⟨T7, X7, e7, st7⟩ := getF X6 hx hZ hown (host := "") (Or.inl (hw _ (List.mem_of_getElem? (i := 13) rfl))) Via.refl e6 (own_Ob_p B0.1) (g := (mkF m 49 #[rv o, iv x1] [(.ref o)])) rfl rfl (hb hby d3_49)
  refine own_pre (T' := T7) (f' := (mkF m 52 #[rv o, iv x1] [(.ref P)])) (fun t k => st7 t k) ?_
  refine oA1 X7 hx (hb hby d3_52) (pc' := 53) rfl rfl rfl ?_
  obtain ⟨T8, X8, e8, st8⟩ := getF X7 hx hZ hown (host := "") (Or.inl (hw _ (List.mem_of_getElem? (i := 22) rfl))) Via.refl e7 (own_Ob_t B0.1) (g := (mkF m 53 #[rv o, iv x1] [(.ref o), (.ref P)])) rfl rfl (hb hby d3_53)
  refine own_pre (T' := T8) (f' := (mkF m 56 #[rv o, iv x1] [(.int (0 : Int32)), (.ref P)])) (fun t k => st8 t k) ?_
  refine own_pre (T' := T8) (f' := (mkF m 57 #[rv o, iv x1] [(.int v0)])) (fun t k => own_ldI X8 hx hZ e8 (own_An_vp B0) (by decide) rfl (g := (mkF m 56 #[rv o, iv x1] [(.int (0 : Int32)), (.ref P)])) rfl rfl (hb hby d3_56) t k) ?_
  refine oI1 X8 hx (hb hby d3_57) (pc' := 58) rfl rfl ?_
  refine oY X8 hx (hb hby d3_58) (pc' := 80) (feq eq).2 (by decide) (by decide) ?_
  refine oC X8 hx (-1 : Int32) (hb hby d3_80) (pc' := 81) rfl rfl ?_
  exact own_retI X8 hx hlk hret (hb hby d3_81) (⟨rfl, e8, rfl⟩) (by decide) (by decide)
theorem d3_61 : decode prog_37_method_5_code 61 = .ok (.aload_n 0, 1) := by decide +kernel
theorem d3_62 : decode prog_37_method_5_code 62 = .ok (.getfield 16, 3) := by decide +kernel
theorem d3_65 : decode prog_37_method_5_code 65 = .ok (.aload_n 0, 1) := by decide +kernel
theorem d3_66 : decode prog_37_method_5_code 66 = .ok (.dup, 1) := by decide +kernel
theorem d3_67 : decode prog_37_method_5_code 67 = .ok (.getfield 23, 3) := by decide +kernel
theorem d3_70 : decode prog_37_method_5_code 70 = .ok (.dup_x1, 1) := by decide +kernel
theorem d3_71 : decode prog_37_method_5_code 71 = .ok (.iconst 1, 1) := by decide +kernel
theorem d3_72 : decode prog_37_method_5_code 72 = .ok (.iadd, 1) := by decide +kernel
theorem d3_73 : decode prog_37_method_5_code 73 = .ok (.putfield 23, 3) := by decide +kernel
theorem d3_76 : decode prog_37_method_5_code 76 = .ok (.iaload, 1) := by decide +kernel
theorem d3_77 : decode prog_37_method_5_code 77 = .ok (.goto 4, 3) := by decide +kernel
set_option maxRecDepth 65536 in
set_option maxHeartbeats 40000000 in
theorem own_at_1_0_0_1 (l : Launch) (Z : State) (a0 : Array Value) (hw : ∀ d ∈ tables_1, d.before a0 Z = true) (ws : List Jvm.Cond) (w_NO_ANCHORS : Addr) (k_NO_ANCHORS : ClassId) (h0 : Heap) (F : own_F Z h0 w_NO_ANCHORS k_NO_ANCHORS) (hB : Heap) (Fb : own_F Z hB w_NO_ANCHORS k_NO_ANCHORS) (o : Addr) (P O : Addr) (kP kO : ClassId) (v0 v1 v2 v3 v4 v5 v6 v7 u0 u1 u2 u3 u4 u5 u6 u7 : Int32)  (B0 : own_An Z hB h0 o P O kP kO [(.int v0), (.int v1), (.int v2), (.int v3), (.int v4), (.int v5), (.int v6), (.int v7)] [(.int u0), (.int u1), (.int u2), (.int u3), (.int u4), (.int u5), (.int u6), (.int u7)] (1 : Int32) (0 : Int32)) (x1 : Int32) (l0 : ¬ (v0 < x1)) (eq : v0 = x1) :
    own_C l (⟨"com/example/orthonorm/orthonorm/sanskrit/Anchors", "takeAt", "(I)I"⟩ : MethodName) prog_37_method_5_code 2 (some .int) ws (own_RC 0 0 0 0) #[(.ref o), (.int x1)] Z h0 (fun v h' L => v = (some (.int u0)) ∧ Fr hB.size L ∧ own_An Z hB h' o P O kP kO [(.int v0), (.int v1), (.int v2), (.int v3), (.int v4), (.int v5), (.int v6), (.int v7)] [(.int u0), (.int u1), (.int u2), (.int u3), (.int u4), (.int u5), (.int u6), (.int u7)] (1 : Int32) (1 : Int32)) := by
  have F0 := F
  obtain ⟨S_NO_ANCHORS, E_NO_ANCHORS, V_NO_ANCHORS⟩ := F
  refine own_enter (LS := #[rv o, iv x1]) (plainFor_of_name (by first | (simp [plainName, overriddenIn, x]; done) | decide +kernel)) (fun m => by first | (simp [entryFrame, mkF, argsToLocals, Value.category, maxLocals]; done) | rfl) ?_
  intro p e s m below meth c s₁ hx hby hml hown0 hnm hret hlk hZ X0 e0 hsh
  have hown : s.vm.findClass "com/example/orthonorm/orthonorm/sanskrit/Anchors" = some m.cls := hown0
  have sn := own_snI hw
  have N0 := Fr.nil hB.size
  refine oA1 X0 hx (hb hby d3_0) (pc' := 1) rfl rfl rfl ?_
  obtain ⟨T1, X1, e1, st1⟩ := getF X0 hx hZ hown (host := "") (Or.inl (hw _ (List.mem_of_getElem? (i := 22) rfl))) Via.refl e0 (own_Ob_t B0.1) (g := (mkF m 1 #[rv o, iv x1] [(.ref o)])) rfl rfl (hb hby d3_1)
  refine own_pre (T' := T1) (f' := (mkF m 4 #[rv o, iv x1] [(.int (0 : Int32))])) (fun t k => st1 t k) ?_
  refine oA1 X1 hx (hb hby d3_4) (pc' := 5) rfl rfl rfl ?_
  obtain ⟨T2, X2, e2, st2⟩ := getF X1 hx hZ hown (host := "") (Or.inl (hw _ (List.mem_of_getElem? (i := 24) rfl))) Via.refl e1 (own_Ob_s B0.1) (g := (mkF m 5 #[rv o, iv x1] [(.ref o), (.int (0 : Int32))])) rfl rfl (hb hby d3_5)
  refine own_pre (T' := T2) (f' := (mkF m 8 #[rv o, iv x1] [(.int (1 : Int32)), (.int (0 : Int32))])) (fun t k => st2 t k) ?_
  refine oN X2 hx (hb hby d3_8) (pc' := 11) rfl (tlt (by decide : (0 : Int32) < (1 : Int32))).2.1 ?_
  refine oA1 X2 hx (hb hby d3_11) (pc' := 12) rfl rfl rfl ?_
  obtain ⟨T3, X3, e3, st3⟩ := getF X2 hx hZ hown (host := "") (Or.inl (hw _ (List.mem_of_getElem? (i := 13) rfl))) Via.refl e2 (own_Ob_p B0.1) (g := (mkF m 12 #[rv o, iv x1] [(.ref o)])) rfl rfl (hb hby d3_12)
  refine own_pre (T' := T3) (f' := (mkF m 15 #[rv o, iv x1] [(.ref P)])) (fun t k => st3 t k) ?_
  refine oA1 X3 hx (hb hby d3_15) (pc' := 16) rfl rfl rfl ?_
  obtain ⟨T4, X4, e4, st4⟩ := getF X3 hx hZ hown (host := "") (Or.inl (hw _ (List.mem_of_getElem? (i := 22) rfl))) Via.refl e3 (own_Ob_t B0.1) (g := (mkF m 16 #[rv o, iv x1] [(.ref o), (.ref P)])) rfl rfl (hb hby d3_16)
  refine own_pre (T' := T4) (f' := (mkF m 19 #[rv o, iv x1] [(.int (0 : Int32)), (.ref P)])) (fun t k => st4 t k) ?_
  refine own_pre (T' := T4) (f' := (mkF m 20 #[rv o, iv x1] [(.int v0)])) (fun t k => own_ldI X4 hx hZ e4 (own_An_vp B0) (by decide) rfl (g := (mkF m 19 #[rv o, iv x1] [(.int (0 : Int32)), (.ref P)])) rfl rfl (hb hby d3_19) t k) ?_
  refine oI1 X4 hx (hb hby d3_20) (pc' := 21) rfl rfl ?_
  refine oY X4 hx (hb hby d3_21) (pc' := 37) (flt l0).2.1 (by decide) (by decide) ?_
  refine oA1 X4 hx (hb hby d3_37) (pc' := 38) rfl rfl rfl ?_
  obtain ⟨T5, X5, e5, st5⟩ := getF X4 hx hZ hown (host := "") (Or.inl (hw _ (List.mem_of_getElem? (i := 22) rfl))) Via.refl e4 (own_Ob_t B0.1) (g := (mkF m 38 #[rv o, iv x1] [(.ref o)])) rfl rfl (hb hby d3_38)
  refine own_pre (T' := T5) (f' := (mkF m 41 #[rv o, iv x1] [(.int (0 : Int32))])) (fun t k => st5 t k) ?_
  refine oA1 X5 hx (hb hby d3_41) (pc' := 42) rfl rfl rfl ?_
  obtain ⟨T6, X6, e6, st6⟩ := getF X5 hx hZ hown (host := "") (Or.inl (hw _ (List.mem_of_getElem? (i := 24) rfl))) Via.refl e5 (own_Ob_s B0.1) (g := (mkF m 42 #[rv o, iv x1] [(.ref o), (.int (0 : Int32))])) rfl rfl (hb hby d3_42)
  refine own_pre (T' := T6) (f' := (mkF m 45 #[rv o, iv x1] [(.int (1 : Int32)), (.int (0 : Int32))])) (fun t k => st6 t k) ?_
  refine oN X6 hx (hb hby d3_45) (pc' := 48) rfl (tlt (by decide : (0 : Int32) < (1 : Int32))).2.1 ?_
  refine oA1 X6 hx (hb hby d3_48) (pc' := 49) rfl rfl rfl ?_
  obtain ⟨T7, X7, e7, st7⟩ := getF X6 hx hZ hown (host := "") (Or.inl (hw _ (List.mem_of_getElem? (i := 13) rfl))) Via.refl e6 (own_Ob_p B0.1) (g := (mkF m 49 #[rv o, iv x1] [(.ref o)])) rfl rfl (hb hby d3_49)
  refine own_pre (T' := T7) (f' := (mkF m 52 #[rv o, iv x1] [(.ref P)])) (fun t k => st7 t k) ?_
  refine oA1 X7 hx (hb hby d3_52) (pc' := 53) rfl rfl rfl ?_
  obtain ⟨T8, X8, e8, st8⟩ := getF X7 hx hZ hown (host := "") (Or.inl (hw _ (List.mem_of_getElem? (i := 22) rfl))) Via.refl e7 (own_Ob_t B0.1) (g := (mkF m 53 #[rv o, iv x1] [(.ref o), (.ref P)])) rfl rfl (hb hby d3_53)
  refine own_pre (T' := T8) (f' := (mkF m 56 #[rv o, iv x1] [(.int (0 : Int32)), (.ref P)])) (fun t k => st8 t k) ?_
  refine own_pre (T' := T8) (f' := (mkF m 57 #[rv o, iv x1] [(.int v0)])) (fun t k => own_ldI X8 hx hZ e8 (own_An_vp B0) (by decide) rfl (g := (mkF m 56 #[rv o, iv x1] [(.int (0 : Int32)), (.ref P)])) rfl rfl (hb hby d3_56) t k) ?_
  refine oI1 X8 hx (hb hby d3_57) (pc' := 58) rfl rfl ?_
  refine oN X8 hx (hb hby d3_58) (pc' := 61) rfl (teq eq).2 ?_
  refine oA1 X8 hx (hb hby d3_61) (pc' := 62) rfl rfl rfl ?_
  obtain ⟨T9, X9, e9, st9⟩ := getF X8 hx hZ hown (host := "") (Or.inl (hw _ (List.mem_of_getElem? (i := 15) rfl))) Via.refl e8 (own_Ob_o B0.1) (g := (mkF m 62 #[rv o, iv x1] [(.ref o)])) rfl rfl (hb hby d3_62)
  refine own_pre (T' := T9) (f' := (mkF m 65 #[rv o, iv x1] [(.ref O)])) (fun t k => st9 t k) ?_
  refine oA1 X9 hx (hb hby d3_65) (pc' := 66) rfl rfl rfl ?_
  refine oD X9 hx (hb hby d3_66) (pc' := 67) rfl rfl ?_
  obtain ⟨T10, X10, e10, st10⟩ := getF X9 hx hZ hown (host := "") (Or.inl (hw _ (List.mem_of_getElem? (i := 22) rfl))) Via.refl e9 (own_Ob_t B0.1) (g := (mkF m 67 #[rv o, iv x1] [(.ref o), (.ref o), (.ref O)])) rfl rfl (hb hby d3_67)
  refine own_pre (T' := T10) (f' := (mkF m 70 #[rv o, iv x1] [(.int (0 : Int32)), (.ref o), (.ref O)])) (fun t k => st10 t k) ?_
  refine own_pre (T' := T10) (f' := (mkF m 71 #[rv o, iv x1] [(.int (0 : Int32)), (.ref o), (.int (0 : Int32)), (.ref O)])) (fun t k => XS.dupX1 X10.here hx rfl (hb hby d3_70) rfl rfl rfl k) ?_
  refine oC X10 hx (1 : Int32) (hb hby d3_71) (pc' := 72) rfl rfl ?_
  refine own_pre (T' := T10) (f' := (mkF m 73 #[rv o, iv x1] [(.int ((0 : Int32) + (1 : Int32))), (.ref o), (.int (0 : Int32)), (.ref O)])) (fun t k => XS.iadd X10.here hx rfl (hb hby d3_72) rfl k) ?_
  rw [show ((0 : Int32) + (1 : Int32)) = (1 : Int32) from by decide]
  obtain ⟨T11, h11, X11, e11, W11, st11⟩ := putF X10 hx hZ hown (host := "") (Or.inl (hw _ (List.mem_of_getElem? (i := 22) rfl))) Via.refl e10 (own_Ob_t B0.1) (own_Ob_E B0.1) (Or.inl (hw _ (List.mem_of_getElem? (i := 23) rfl))) (hw _ (List.mem_of_getElem? (i := 3) rfl)) (ty := .int) (by decide) rfl rfl (g := (mkF m 73 #[rv o, iv x1] [(.int (1 : Int32)), (.ref o), (.int (0 : Int32)), (.ref O)])) rfl rfl (hb hby d3_73)
  have N11 := Fr.snoc X11 N0 (own_Ob_g B0.1)
  have B11 : own_An Z hB h11 o P O kP kO [(.int v0), (.int v1), (.int v2), (.int v3), (.int v4), (.int v5), (.int v6), (.int v7)] [(.int u0), (.int u1), (.int u2), (.int u3), (.int u4), (.int u5), (.int u6), (.int u7)] (1 : Int32) (1 : Int32) := own_An_wt sn B0 W11
  refine own_pre (T' := T11) (f' := (mkF m 76 #[rv o, iv x1] [(.int (0 : Int32)), (.ref O)])) (fun t k => st11 t k) ?_
  refine own_pre (T' := T11) (f' := (mkF m 77 #[rv o, iv x1] [(.int u0)])) (fun t k => own_ldI X11 hx hZ e11 (own_An_vo B11) (by decide) rfl (g := (mkF m 76 #[rv o, iv x1] [(.int (0 : Int32)), (.ref O)])) rfl rfl (hb hby d3_76) t k) ?_
  refine oG X11 hx (hb hby d3_77) (pc' := 81) (by decide) (by decide) ?_
  exact own_retI X11 hx hlk hret (hb hby d3_81) (by rw [e11]; exact ⟨rfl, N11, B11⟩) (by decide) (by decide)
theorem d3_24 : decode prog_37_method_5_code 24 = .ok (.aload_n 0, 1) := by decide +kernel
theorem d3_25 : decode prog_37_method_5_code 25 = .ok (.dup, 1) := by decide +kernel
theorem d3_26 : decode prog_37_method_5_code 26 = .ok (.getfield 23, 3) := by decide +kernel
theorem d3_29 : decode prog_37_method_5_code 29 = .ok (.iconst 1, 1) := by decide +kernel
theorem d3_30 : decode prog_37_method_5_code 30 = .ok (.iadd, 1) := by decide +kernel
theorem d3_31 : decode prog_37_method_5_code 31 = .ok (.putfield 23, 3) := by decide +kernel
theorem d3_34 : decode prog_37_method_5_code 34 = .ok (.goto (-34), 3) := by decide +kernel
set_option maxRecDepth 65536 in
set_option maxHeartbeats 40000000 in
theorem own_at_1_0_1_0 (l : Launch) (Z : State) (a0 : Array Value) (hw : ∀ d ∈ tables_1, d.before a0 Z = true) (ws : List Jvm.Cond) (w_NO_ANCHORS : Addr) (k_NO_ANCHORS : ClassId) (h0 : Heap) (F : own_F Z h0 w_NO_ANCHORS k_NO_ANCHORS) (hB : Heap) (Fb : own_F Z hB w_NO_ANCHORS k_NO_ANCHORS) (o : Addr) (P O : Addr) (kP kO : ClassId) (v0 v1 v2 v3 v4 v5 v6 v7 u0 u1 u2 u3 u4 u5 u6 u7 : Int32)  (B0 : own_An Z hB h0 o P O kP kO [(.int v0), (.int v1), (.int v2), (.int v3), (.int v4), (.int v5), (.int v6), (.int v7)] [(.int u0), (.int u1), (.int u2), (.int u3), (.int u4), (.int u5), (.int u6), (.int u7)] (1 : Int32) (0 : Int32)) (x1 : Int32) (l0 : v0 < x1) :
    own_C l (⟨"com/example/orthonorm/orthonorm/sanskrit/Anchors", "takeAt", "(I)I"⟩ : MethodName) prog_37_method_5_code 2 (some .int) ws (own_RC 0 0 0 0) #[(.ref o), (.int x1)] Z h0 (fun v h' L => v = (some (.int (-1 : Int32))) ∧ Fr hB.size L ∧ own_An Z hB h' o P O kP kO [(.int v0), (.int v1), (.int v2), (.int v3), (.int v4), (.int v5), (.int v6), (.int v7)] [(.int u0), (.int u1), (.int u2), (.int u3), (.int u4), (.int u5), (.int u6), (.int u7)] (1 : Int32) (1 : Int32)) := by
  have F0 := F
  obtain ⟨S_NO_ANCHORS, E_NO_ANCHORS, V_NO_ANCHORS⟩ := F
  refine own_enter (LS := #[rv o, iv x1]) (plainFor_of_name (by first | (simp [plainName, overriddenIn, x]; done) | decide +kernel)) (fun m => by first | (simp [entryFrame, mkF, argsToLocals, Value.category, maxLocals]; done) | rfl) ?_
  intro p e s m below meth c s₁ hx hby hml hown0 hnm hret hlk hZ X0 e0 hsh
  have hown : s.vm.findClass "com/example/orthonorm/orthonorm/sanskrit/Anchors" = some m.cls := hown0
  have sn := own_snI hw
  have N0 := Fr.nil hB.size
  refine oA1 X0 hx (hb hby d3_0) (pc' := 1) rfl rfl rfl ?_
  obtain ⟨T1, X1, e1, st1⟩ := getF X0 hx hZ hown (host := "") (Or.inl (hw _ (List.mem_of_getElem? (i := 22) rfl))) Via.refl e0 (own_Ob_t B0.1) (g := (mkF m 1 #[rv o, iv x1] [(.ref o)])) rfl rfl (hb hby d3_1)
  refine own_pre (T' := T1) (f' := (mkF m 4 #[rv o, iv x1] [(.int (0 : Int32))])) (fun t k => st1 t k) ?_
  refine oA1 X1 hx (hb hby d3_4) (pc' := 5) rfl rfl rfl ?_
  obtain ⟨T2, X2, e2, st2⟩ := getF X1 hx hZ hown (host := "") (Or.inl (hw _ (List.mem_of_getElem? (i := 24) rfl))) Via.refl e1 (own_Ob_s B0.1) (g := (mkF m 5 #[rv o, iv x1] [(.ref o), (.int (0 : Int32))])) rfl rfl (hb hby d3_5)
  refine own_pre (T' := T2) (f' := (mkF m 8 #[rv o, iv x1] [(.int (1 : Int32)), (.int (0 : Int32))])) (fun t k => st2 t k) ?_
  refine oN X2 hx (hb hby d3_8) (pc' := 11) rfl (tlt (by decide : (0 : Int32) < (1 : Int32))).2.1 ?_
  refine oA1 X2 hx (hb hby d3_11) (pc' := 12) rfl rfl rfl ?_
  obtain ⟨T3, X3, e3, st3⟩ := getF X2 hx hZ hown (host := "") (Or.inl (hw _ (List.mem_of_getElem? (i := 13) rfl))) Via.refl e2 (own_Ob_p B0.1) (g := (mkF m 12 #[rv o, iv x1] [(.ref o)])) rfl rfl (hb hby d3_12)
  refine own_pre (T' := T3) (f' := (mkF m 15 #[rv o, iv x1] [(.ref P)])) (fun t k => st3 t k) ?_
  refine oA1 X3 hx (hb hby d3_15) (pc' := 16) rfl rfl rfl ?_
  obtain ⟨T4, X4, e4, st4⟩ := getF X3 hx hZ hown (host := "") (Or.inl (hw _ (List.mem_of_getElem? (i := 22) rfl))) Via.refl e3 (own_Ob_t B0.1) (g := (mkF m 16 #[rv o, iv x1] [(.ref o), (.ref P)])) rfl rfl (hb hby d3_16)
  refine own_pre (T' := T4) (f' := (mkF m 19 #[rv o, iv x1] [(.int (0 : Int32)), (.ref P)])) (fun t k => st4 t k) ?_
  refine own_pre (T' := T4) (f' := (mkF m 20 #[rv o, iv x1] [(.int v0)])) (fun t k => own_ldI X4 hx hZ e4 (own_An_vp B0) (by decide) rfl (g := (mkF m 19 #[rv o, iv x1] [(.int (0 : Int32)), (.ref P)])) rfl rfl (hb hby d3_19) t k) ?_
  refine oI1 X4 hx (hb hby d3_20) (pc' := 21) rfl rfl ?_
  refine oN X4 hx (hb hby d3_21) (pc' := 24) rfl (tlt l0).2.1 ?_
  refine oA1 X4 hx (hb hby d3_24) (pc' := 25) rfl rfl rfl ?_
  refine oD X4 hx (hb hby d3_25) (pc' := 26) rfl rfl ?_
  obtain ⟨T5, X5, e5, st5⟩ := getF X4 hx hZ hown (host := "") (Or.inl (hw _ (List.mem_of_getElem? (i := 22) rfl))) Via.refl e4 (own_Ob_t B0.1) (g := (mkF m 26 #[rv o, iv x1] [(.ref o), (.ref o)])) rfl rfl (hb hby d3_26)
  refine own_pre (T' := T5) (f' := (mkF m 29 #[rv o, iv x1] [(.int (0 : Int32)), (.ref o)])) (fun t k => st5 t k) ?_
  refine oC X5 hx (1 : Int32) (hb hby d3_29) (pc' := 30) rfl rfl ?_
  refine own_pre (T' := T5) (f' := (mkF m 31 #[rv o, iv x1] [(.int ((0 : Int32) + (1 : Int32))), (.ref o)])) (fun t k => XS.iadd X5.here hx rfl (hb hby d3_30) rfl k) ?_
  rw [show ((0 : Int32) + (1 : Int32)) = (1 : Int32) from by decide]
  obtain ⟨T6, h6, X6, e6, W6, st6⟩ := putF X5 hx hZ hown (host := "") (Or.inl (hw _ (List.mem_of_getElem? (i := 22) rfl))) Via.refl e5 (own_Ob_t B0.1) (own_Ob_E B0.1) (Or.inl (hw _ (List.mem_of_getElem? (i := 23) rfl))) (hw _ (List.mem_of_getElem? (i := 3) rfl)) (ty := .int) (by decide) rfl rfl (g := (mkF m 31 #[rv o, iv x1] [(.int (1 : Int32)), (.ref o)])) rfl rfl (hb hby d3_31)
  have N6 := Fr.snoc X6 N0 (own_Ob_g B0.1)
  have B6 : own_An Z hB h6 o P O kP kO [(.int v0), (.int v1), (.int v2), (.int v3), (.int v4), (.int v5), (.int v6), (.int v7)] [(.int u0), (.int u1), (.int u2), (.int u3), (.int u4), (.int u5), (.int u6), (.int u7)] (1 : Int32) (1 : Int32) := own_An_wt sn B0 W6
  refine own_pre (T' := T6) (f' := (mkF m 34 #[rv o, iv x1] [])) (fun t k => st6 t k) ?_
  refine oG X6 hx (hb hby d3_34) (pc' := 0) (by decide) (by decide) ?_
  refine oA1 X6 hx (hb hby d3_0) (pc' := 1) rfl rfl rfl ?_
  obtain ⟨T7, X7, e7, st7⟩ := getF X6 hx hZ hown (host := "") (Or.inl (hw _ (List.mem_of_getElem? (i := 22) rfl))) Via.refl e6 (own_Ob_t B6.1) (g := (mkF m 1 #[rv o, iv x1] [(.ref o)])) rfl rfl (hb hby d3_1)
  refine own_pre (T' := T7) (f' := (mkF m 4 #[rv o, iv x1] [(.int (1 : Int32))])) (fun t k => st7 t k) ?_
  refine oA1 X7 hx (hb hby d3_4) (pc' := 5) rfl rfl rfl ?_
  obtain ⟨T8, X8, e8, st8⟩ := getF X7 hx hZ hown (host := "") (Or.inl (hw _ (List.mem_of_getElem? (i := 24) rfl))) Via.refl e7 (own_Ob_s B6.1) (g := (mkF m 5 #[rv o, iv x1] [(.ref o), (.int (1 : Int32))])) rfl rfl (hb hby d3_5)
  refine own_pre (T' := T8) (f' := (mkF m 8 #[rv o, iv x1] [(.int (1 : Int32)), (.int (1 : Int32))])) (fun t k => st8 t k) ?_
  refine oY X8 hx (hb hby d3_8) (pc' := 37) (flt (by decide : ¬ ((1 : Int32) < (1 : Int32)))).2.1 (by decide) (by decide) ?_
  refine oA1 X8 hx (hb hby d3_37) (pc' := 38) rfl rfl rfl ?_
  obtain ⟨T9, X9, e9, st9⟩ := getF X8 hx hZ hown (host := "") (Or.inl (hw _ (List.mem_of_getElem? (i := 22) rfl))) Via.refl e8 (own_Ob_t B6.1) (g := (mkF m 38 #[rv o, iv x1] [(.ref o)])) rfl rfl (hb hby d3_38)
  refine own_pre (T' := T9) (f' := (mkF m 41 #[rv o, iv x1] [(.int (1 : Int32))])) (fun t k => st9 t k) ?_
  refine oA1 X9 hx (hb hby d3_41) (pc' := 42) rfl rfl rfl ?_
  obtain ⟨T10, X10, e10, st10⟩ := getF X9 hx hZ hown (host := "") (Or.inl (hw _ (List.mem_of_getElem? (i := 24) rfl))) Via.refl e9 (own_Ob_s B6.1) (g := (mkF m 42 #[rv o, iv x1] [(.ref o), (.int (1 : Int32))])) rfl rfl (hb hby d3_42)
  refine own_pre (T' := T10) (f' := (mkF m 45 #[rv o, iv x1] [(.int (1 : Int32)), (.int (1 : Int32))])) (fun t k => st10 t k) ?_
  refine oY X10 hx (hb hby d3_45) (pc' := 80) (flt (by decide : ¬ ((1 : Int32) < (1 : Int32)))).2.1 (by decide) (by decide) ?_
  refine oC X10 hx (-1 : Int32) (hb hby d3_80) (pc' := 81) rfl rfl ?_
  exact own_retI X10 hx hlk hret (hb hby d3_81) (by rw [e10]; exact ⟨rfl, N6, B6⟩) (by decide) (by decide)
set_option maxRecDepth 65536 in
set_option maxHeartbeats 40000000 in
theorem own_at_1_1_1_0 (l : Launch) (Z : State) (a0 : Array Value) (hw : ∀ d ∈ tables_1, d.before a0 Z = true) (ws : List Jvm.Cond) (w_NO_ANCHORS : Addr) (k_NO_ANCHORS : ClassId) (h0 : Heap) (F : own_F Z h0 w_NO_ANCHORS k_NO_ANCHORS) (hB : Heap) (Fb : own_F Z hB w_NO_ANCHORS k_NO_ANCHORS) (o : Addr) (P O : Addr) (kP kO : ClassId) (v0 v1 v2 v3 v4 v5 v6 v7 u0 u1 u2 u3 u4 u5 u6 u7 : Int32)  (B0 : own_An Z hB h0 o P O kP kO [(.int v0), (.int v1), (.int v2), (.int v3), (.int v4), (.int v5), (.int v6), (.int v7)] [(.int u0), (.int u1), (.int u2), (.int u3), (.int u4), (.int u5), (.int u6), (.int u7)] (1 : Int32) (1 : Int32)) (x1 : Int32)  :
    own_C l (⟨"com/example/orthonorm/orthonorm/sanskrit/Anchors", "takeAt", "(I)I"⟩ : MethodName) prog_37_method_5_code 2 (some .int) ws (own_R 0 0) #[(.ref o), (.int x1)] Z h0 (own_Q0 (some (.int (-1 : Int32))) h0) := by
  have F0 := F
  obtain ⟨S_NO_ANCHORS, E_NO_ANCHORS, V_NO_ANCHORS⟩ := F
  refine own_enter (LS := #[rv o, iv x1]) (plainFor_of_name (by first | (simp [plainName, overriddenIn, x]; done) | decide +kernel)) (fun m => by first | (simp [entryFrame, mkF, argsToLocals, Value.category, maxLocals]; done) | rfl) ?_
  intro p e s m below meth c s₁ hx hby hml hown0 hnm hret hlk hZ X0 e0 hsh
  have hown : s.vm.findClass "com/example/orthonorm/orthonorm/sanskrit/Anchors" = some m.cls := hown0
  have sn := own_snI hw
  have N0 := Fr.nil hB.size
  refine oA1 X0 hx (hb hby d3_0) (pc' := 1) rfl rfl rfl ?_
  obtain ⟨T1, X1, e1, st1⟩ := getF X0 hx hZ hown (host := "") (Or.inl (hw _ (List.mem_of_getElem? (i := 22) rfl))) Via.refl e0 (own_Ob_t B0.1) (g := (mkF m 1 #[rv o, iv x1] [(.ref o)])) rfl rfl (hb hby d3_1)
  refine own_pre (T' := T1) (f' := (mkF m 4 #[rv o, iv x1] [(.int (1 : Int32))])) (fun t k => st1 t k) ?_
  refine oA1 X1 hx (hb hby d3_4) (pc' := 5) rfl rfl rfl ?_
  obtain ⟨T2, X2, e2, st2⟩ := getF X1 hx hZ hown (host := "") (Or.inl (hw _ (List.mem_of_getElem? (i := 24) rfl))) Via.refl e1 (own_Ob_s B0.1) (g := (mkF m 5 #[rv o, iv x1] [(.ref o), (.int (1 : Int32))])) rfl rfl (hb hby d3_5)
  refine own_pre (T' := T2) (f' := (mkF m 8 #[rv o, iv x1] [(.int (1 : Int32)), (.int (1 : Int32))])) (fun t k => st2 t k) ?_
  refine oY X2 hx (hb hby d3_8) (pc' := 37) (flt (by decide : ¬ ((1 : Int32) < (1 : Int32)))).2.1 (by decide) (by decide) ?_
  refine oA1 X2 hx (hb hby d3_37) (pc' := 38) rfl rfl rfl ?_
  obtain ⟨T3, X3, e3, st3⟩ := getF X2 hx hZ hown (host := "") (Or.inl (hw _ (List.mem_of_getElem? (i := 22) rfl))) Via.refl e2 (own_Ob_t B0.1) (g := (mkF m 38 #[rv o, iv x1] [(.ref o)])) rfl rfl (hb hby d3_38)
  refine own_pre (T' := T3) (f' := (mkF m 41 #[rv o, iv x1] [(.int (1 : Int32))])) (fun t k => st3 t k) ?_
  refine oA1 X3 hx (hb hby d3_41) (pc' := 42) rfl rfl rfl ?_
  obtain ⟨T4, X4, e4, st4⟩ := getF X3 hx hZ hown (host := "") (Or.inl (hw _ (List.mem_of_getElem? (i := 24) rfl))) Via.refl e3 (own_Ob_s B0.1) (g := (mkF m 42 #[rv o, iv x1] [(.ref o), (.int (1 : Int32))])) rfl rfl (hb hby d3_42)
  refine own_pre (T' := T4) (f' := (mkF m 45 #[rv o, iv x1] [(.int (1 : Int32)), (.int (1 : Int32))])) (fun t k => st4 t k) ?_
  refine oY X4 hx (hb hby d3_45) (pc' := 80) (flt (by decide : ¬ ((1 : Int32) < (1 : Int32)))).2.1 (by decide) (by decide) ?_
  refine oC X4 hx (-1 : Int32) (hb hby d3_80) (pc' := 81) rfl rfl ?_
  exact own_retI X4 hx hlk hret (hb hby d3_81) (⟨rfl, e4, rfl⟩) (by decide) (by decide)
set_option maxRecDepth 65536 in
set_option maxHeartbeats 40000000 in
theorem own_at_2_0_0_0 (l : Launch) (Z : State) (a0 : Array Value) (hw : ∀ d ∈ tables_1, d.before a0 Z = true) (ws : List Jvm.Cond) (w_NO_ANCHORS : Addr) (k_NO_ANCHORS : ClassId) (h0 : Heap) (F : own_F Z h0 w_NO_ANCHORS k_NO_ANCHORS) (hB : Heap) (Fb : own_F Z hB w_NO_ANCHORS k_NO_ANCHORS) (o : Addr) (P O : Addr) (kP kO : ClassId) (v0 v1 v2 v3 v4 v5 v6 v7 u0 u1 u2 u3 u4 u5 u6 u7 : Int32)  (B0 : own_An Z hB h0 o P O kP kO [(.int v0), (.int v1), (.int v2), (.int v3), (.int v4), (.int v5), (.int v6), (.int v7)] [(.int u0), (.int u1), (.int u2), (.int u3), (.int u4), (.int u5), (.int u6), (.int u7)] (2 : Int32) (0 : Int32)) (x1 : Int32) (l0 : ¬ (v0 < x1)) (eq : ¬ (v0 = x1)) :
    own_C l (⟨"com/example/orthonorm/orthonorm/sanskrit/Anchors", "takeAt", "(I)I"⟩ : MethodName) prog_37_method_5_code 2 (some .int) ws (own_R 0 0) #[(.ref o), (.int x1)] Z h0 (own_Q0 (some (.int (-1 : Int32))) h0) := by
  have F0 := F
  obtain ⟨S_NO_ANCHORS, E_NO_ANCHORS, V_NO_ANCHORS⟩ := F
  refine own_enter (LS := #[rv o, iv x1]) (plainFor_of_name (by first | (simp [plainName, overriddenIn, x]; done) | decide +kernel)) (fun m => by first | (simp [entryFrame, mkF, argsToLocals, Value.category, maxLocals]; done) | rfl) ?_
  intro p e s m below meth c s₁ hx hby hml hown0 hnm hret hlk hZ X0 e0 hsh
  have hown : s.vm.findClass "com/example/orthonorm/orthonorm/sanskrit/Anchors" = some m.cls := hown0
  have sn := own_snI hw
  have N0 := Fr.nil hB.size
  refine oA1 X0 hx (hb hby d3_0) (pc' := 1) rfl rfl rfl ?_
  obtain ⟨T1, X1, e1, st1⟩ := getF X0 hx hZ hown (host := "") (Or.inl (hw _ (List.mem_of_getElem? (i := 22) rfl))) Via.refl e0 (own_Ob_t B0.1) (g := (mkF m 1 #[rv o, iv x1] [(.ref o)])) rfl rfl (hb hby d3_1)
  refine own_pre (T' := T1) (f' := (mkF m 4 #[rv o, iv x1] [(.int (0 : Int32))])) (fun t k => st1 t k) ?_
  refine oA1 X1 hx (hb hby d3_4) (pc' := 5) rfl rfl rfl ?_
  obtain ⟨T2, X2, e2, st2⟩ := getF X1 hx hZ hown (host := "") (Or.inl (hw _ (List.mem_of_getElem? (i := 24) rfl))) Via.refl e1 (own_Ob_s B0.1) (g := (mkF m 5 #[rv o, iv x1] [(.ref o), (.int (0 : Int32))])) rfl rfl (hb hby d3_5)
  refine own_pre (T' := T2) (f' := (mkF m 8 #[rv o, iv x1] [(.int (2 : Int32)), (.int (0 : Int32))])) (fun t k => st2 t k) ?_
  refine oN X2 hx (hb hby d3_8) (pc' := 11) rfl (tlt (by decide : (0 : Int32) < (2 : Int32))).2.1 ?_
  refine oA1 X2 hx (hb hby d3_11) (pc' := 12) rfl rfl rfl ?_
  obtain ⟨T3, X3, e3, st3⟩ := getF X2 hx hZ hown (host := "") (Or.inl (hw _ (List.mem_of_getElem? (i := 13) rfl))) Via.refl e2 (own_Ob_p B0.1) (g := (mkF m 12 #[rv o, iv x1] [(.ref o)])) rfl rfl (hb hby d3_12)
  refine own_pre (T' := T3) (f' := (mkF m 15 #[rv o, iv x1] [(.ref P)])) (fun t k => st3 t k) ?_
  refine oA1 X3 hx (hb hby d3_15) (pc' := 16) rfl rfl rfl ?_
  obtain ⟨T4, X4, e4, st4⟩ := getF X3 hx hZ hown (host := "") (Or.inl (hw _ (List.mem_of_getElem? (i := 22) rfl))) Via.refl e3 (own_Ob_t B0.1) (g := (mkF m 16 #[rv o, iv x1] [(.ref o), (.ref P)])) rfl rfl (hb hby d3_16)
  refine own_pre (T' := T4) (f' := (mkF m 19 #[rv o, iv x1] [(.int (0 : Int32)), (.ref P)])) (fun t k => st4 t k) ?_
  refine own_pre (T' := T4) (f' := (mkF m 20 #[rv o, iv x1] [(.int v0)])) (fun t k => own_ldI X4 hx hZ e4 (own_An_vp B0) (by decide) rfl (g := (mkF m 19 #[rv o, iv x1] [(.int (0 : Int32)), (.ref P)])) rfl rfl (hb hby d3_19) t k) ?_
  refine oI1 X4 hx (hb hby d3_20) (pc' := 21) rfl rfl ?_
  refine oY X4 hx (hb hby d3_21) (pc' := 37) (flt l0).2.1 (by decide) (by decide) ?_
  refine oA1 X4 hx (hb hby d3_37) (pc' := 38) rfl rfl rfl ?_
  obtain ⟨T5, X5, e5, st5⟩ := getF X4 hx hZ hown (host := "") (Or.inl (hw _ (List.mem_of_getElem? (i := 22) rfl))) Via.refl e4 (own_Ob_t B0.1) (g := (mkF m 38 #[rv o, iv x1] [(.ref o)])) rfl rfl (hb hby d3_38)
  refine own_pre (T' := T5) (f' := (mkF m 41 #[rv o, iv x1] [(.int (0 : Int32))])) (fun t k => st5 t k) ?_
  refine oA1 X5 hx (hb hby d3_41) (pc' := 42) rfl rfl rfl ?_
  obtain ⟨T6, X6, e6, st6⟩ := getF X5 hx hZ hown (host := "") (Or.inl (hw _ (List.mem_of_getElem? (i := 24) rfl))) Via.refl e5 (own_Ob_s B0.1) (g := (mkF m 42 #[rv o, iv x1] [(.ref o), (.int (0 : Int32))])) rfl rfl (hb hby d3_42)
  refine own_pre (T' := T6) (f' := (mkF m 45 #[rv o, iv x1] [(.int (2 : Int32)), (.int (0 : Int32))])) (fun t k => st6 t k) ?_
  refine oN X6 hx (hb hby d3_45) (pc' := 48) rfl (tlt (by decide : (0 : Int32) < (2 : Int32))).2.1 ?_
  refine oA1 X6 hx (hb hby d3_48) (pc' := 49) rfl rfl rfl ?_
  obtain ⟨T7, X7, e7, st7⟩ := getF X6 hx hZ hown (host := "") (Or.inl (hw _ (List.mem_of_getElem? (i := 13) rfl))) Via.refl e6 (own_Ob_p B0.1) (g := (mkF m 49 #[rv o, iv x1] [(.ref o)])) rfl rfl (hb hby d3_49)
  refine own_pre (T' := T7) (f' := (mkF m 52 #[rv o, iv x1] [(.ref P)])) (fun t k => st7 t k) ?_
  refine oA1 X7 hx (hb hby d3_52) (pc' := 53) rfl rfl rfl ?_
  obtain ⟨T8, X8, e8, st8⟩ := getF X7 hx hZ hown (host := "") (Or.inl (hw _ (List.mem_of_getElem? (i := 22) rfl))) Via.refl e7 (own_Ob_t B0.1) (g := (mkF m 53 #[rv o, iv x1] [(.ref o), (.ref P)])) rfl rfl (hb hby d3_53)
  refine own_pre (T' := T8) (f' := (mkF m 56 #[rv o, iv x1] [(.int (0 : Int32)), (.ref P)])) (fun t k => st8 t k) ?_
  refine own_pre (T' := T8) (f' := (mkF m 57 #[rv o, iv x1] [(.int v0)])) (fun t k => own_ldI X8 hx hZ e8 (own_An_vp B0) (by decide) rfl (g := (mkF m 56 #[rv o, iv x1] [(.int (0 : Int32)), (.ref P)])) rfl rfl (hb hby d3_56) t k) ?_
  refine oI1 X8 hx (hb hby d3_57) (pc' := 58) rfl rfl ?_
  refine oY X8 hx (hb hby d3_58) (pc' := 80) (feq eq).2 (by decide) (by decide) ?_
  refine oC X8 hx (-1 : Int32) (hb hby d3_80) (pc' := 81) rfl rfl ?_
  exact own_retI X8 hx hlk hret (hb hby d3_81) (⟨rfl, e8, rfl⟩) (by decide) (by decide)
set_option maxRecDepth 65536 in
set_option maxHeartbeats 40000000 in
theorem own_at_2_0_0_1 (l : Launch) (Z : State) (a0 : Array Value) (hw : ∀ d ∈ tables_1, d.before a0 Z = true) (ws : List Jvm.Cond) (w_NO_ANCHORS : Addr) (k_NO_ANCHORS : ClassId) (h0 : Heap) (F : own_F Z h0 w_NO_ANCHORS k_NO_ANCHORS) (hB : Heap) (Fb : own_F Z hB w_NO_ANCHORS k_NO_ANCHORS) (o : Addr) (P O : Addr) (kP kO : ClassId) (v0 v1 v2 v3 v4 v5 v6 v7 u0 u1 u2 u3 u4 u5 u6 u7 : Int32)  (B0 : own_An Z hB h0 o P O kP kO [(.int v0), (.int v1), (.int v2), (.int v3), (.int v4), (.int v5), (.int v6), (.int v7)] [(.int u0), (.int u1), (.int u2), (.int u3), (.int u4), (.int u5), (.int u6), (.int u7)] (2 : Int32) (0 : Int32)) (x1 : Int32) (l0 : ¬ (v0 < x1)) (eq : v0 = x1) :
    own_C l (⟨"com/example/orthonorm/orthonorm/sanskrit/Anchors", "takeAt", "(I)I"⟩ : MethodName) prog_37_method_5_code 2 (some .int) ws (own_RC 0 0 0 0) #[(.ref o), (.int x1)] Z h0 (fun v h' L => v = (some (.int u0)) ∧ Fr hB.size L ∧ own_An Z hB h' o P O kP kO [(.int v0), (.int v1), (.int v2), (.int v3), (.int v4), (.int v5), (.int v6), (.int v7)] [(.int u0), (.int u1), (.int u2), (.int u3), (.int u4), (.int u5), (.int u6), (.int u7)] (2 : Int32) (1 : Int32)) := by
  have F0 := F
  obtain ⟨S_NO_ANCHORS, E_NO_ANCHORS, V_NO_ANCHORS⟩ := F
  refine own_enter (LS := #[rv o, iv x1]) (plainFor_of_name (by first | (simp [plainName, overriddenIn, x]; done) | decide +kernel)) (fun m => by first | (simp [entryFrame, mkF, argsToLocals, Value.category, maxLocals]; done) | rfl) ?_
  intro p e s m below meth c s₁ hx hby hml hown0 hnm hret hlk hZ X0 e0 hsh
  have hown : s.vm.findClass "com/example/orthonorm/orthonorm/sanskrit/Anchors" = some m.cls := hown0
  have sn := own_snI hw
  have N0 := Fr.nil hB.size
  refine oA1 X0 hx (hb hby d3_0) (pc' := 1) rfl rfl rfl ?_
  obtain ⟨T1, X1, e1, st1⟩ := getF X0 hx hZ hown (host := "") (Or.inl (hw _ (List.mem_of_getElem? (i := 22) rfl))) Via.refl e0 (own_Ob_t B0.1) (g := (mkF m 1 #[rv o, iv x1] [(.ref o)])) rfl rfl (hb hby d3_1)
  refine own_pre (T' := T1) (f' := (mkF m 4 #[rv o, iv x1] [(.int (0 : Int32))])) (fun t k => st1 t k) ?_
  refine oA1 X1 hx (hb hby d3_4) (pc' := 5) rfl rfl rfl ?_
  obtain ⟨T2, X2, e2, st2⟩ := getF X1 hx hZ hown (host := "") (Or.inl (hw _ (List.mem_of_getElem? (i := 24) rfl))) Via.refl e1 (own_Ob_s B0.1) (g := (mkF m 5 #[rv o, iv x1] [(.ref o), (.int (0 : Int32))])) rfl rfl (hb hby d3_5)
  refine own_pre (T' := T2) (f' := (mkF m 8 #[rv o, iv x1] [(.int (2 : Int32)), (.int (0 : Int32))])) (fun t k => st2 t k) ?_
  refine oN X2 hx (hb hby d3_8) (pc' := 11) rfl (tlt (by decide : (0 : Int32) < (2 : Int32))).2.1 ?_
  refine oA1 X2 hx (hb hby d3_11) (pc' := 12) rfl rfl rfl ?_
  obtain ⟨T3, X3, e3, st3⟩ := getF X2 hx hZ hown (host := "") (Or.inl (hw _ (List.mem_of_getElem? (i := 13) rfl))) Via.refl e2 (own_Ob_p B0.1) (g := (mkF m 12 #[rv o, iv x1] [(.ref o)])) rfl rfl (hb hby d3_12)
  refine own_pre (T' := T3) (f' := (mkF m 15 #[rv o, iv x1] [(.ref P)])) (fun t k => st3 t k) ?_
  refine oA1 X3 hx (hb hby d3_15) (pc' := 16) rfl rfl rfl ?_
  obtain ⟨T4, X4, e4, st4⟩ := getF X3 hx hZ hown (host := "") (Or.inl (hw _ (List.mem_of_getElem? (i := 22) rfl))) Via.refl e3 (own_Ob_t B0.1) (g := (mkF m 16 #[rv o, iv x1] [(.ref o), (.ref P)])) rfl rfl (hb hby d3_16)
  refine own_pre (T' := T4) (f' := (mkF m 19 #[rv o, iv x1] [(.int (0 : Int32)), (.ref P)])) (fun t k => st4 t k) ?_
  refine own_pre (T' := T4) (f' := (mkF m 20 #[rv o, iv x1] [(.int v0)])) (fun t k => own_ldI X4 hx hZ e4 (own_An_vp B0) (by decide) rfl (g := (mkF m 19 #[rv o, iv x1] [(.int (0 : Int32)), (.ref P)])) rfl rfl (hb hby d3_19) t k) ?_
  refine oI1 X4 hx (hb hby d3_20) (pc' := 21) rfl rfl ?_
  refine oY X4 hx (hb hby d3_21) (pc' := 37) (flt l0).2.1 (by decide) (by decide) ?_
  refine oA1 X4 hx (hb hby d3_37) (pc' := 38) rfl rfl rfl ?_
  obtain ⟨T5, X5, e5, st5⟩ := getF X4 hx hZ hown (host := "") (Or.inl (hw _ (List.mem_of_getElem? (i := 22) rfl))) Via.refl e4 (own_Ob_t B0.1) (g := (mkF m 38 #[rv o, iv x1] [(.ref o)])) rfl rfl (hb hby d3_38)
  refine own_pre (T' := T5) (f' := (mkF m 41 #[rv o, iv x1] [(.int (0 : Int32))])) (fun t k => st5 t k) ?_
  refine oA1 X5 hx (hb hby d3_41) (pc' := 42) rfl rfl rfl ?_
  obtain ⟨T6, X6, e6, st6⟩ := getF X5 hx hZ hown (host := "") (Or.inl (hw _ (List.mem_of_getElem? (i := 24) rfl))) Via.refl e5 (own_Ob_s B0.1) (g := (mkF m 42 #[rv o, iv x1] [(.ref o), (.int (0 : Int32))])) rfl rfl (hb hby d3_42)
  refine own_pre (T' := T6) (f' := (mkF m 45 #[rv o, iv x1] [(.int (2 : Int32)), (.int (0 : Int32))])) (fun t k => st6 t k) ?_
  refine oN X6 hx (hb hby d3_45) (pc' := 48) rfl (tlt (by decide : (0 : Int32) < (2 : Int32))).2.1 ?_
  refine oA1 X6 hx (hb hby d3_48) (pc' := 49) rfl rfl rfl ?_
  obtain ⟨T7, X7, e7, st7⟩ := getF X6 hx hZ hown (host := "") (Or.inl (hw _ (List.mem_of_getElem? (i := 13) rfl))) Via.refl e6 (own_Ob_p B0.1) (g := (mkF m 49 #[rv o, iv x1] [(.ref o)])) rfl rfl (hb hby d3_49)
  refine own_pre (T' := T7) (f' := (mkF m 52 #[rv o, iv x1] [(.ref P)])) (fun t k => st7 t k) ?_
  refine oA1 X7 hx (hb hby d3_52) (pc' := 53) rfl rfl rfl ?_
  obtain ⟨T8, X8, e8, st8⟩ := getF X7 hx hZ hown (host := "") (Or.inl (hw _ (List.mem_of_getElem? (i := 22) rfl))) Via.refl e7 (own_Ob_t B0.1) (g := (mkF m 53 #[rv o, iv x1] [(.ref o), (.ref P)])) rfl rfl (hb hby d3_53)
  refine own_pre (T' := T8) (f' := (mkF m 56 #[rv o, iv x1] [(.int (0 : Int32)), (.ref P)])) (fun t k => st8 t k) ?_
  refine own_pre (T' := T8) (f' := (mkF m 57 #[rv o, iv x1] [(.int v0)])) (fun t k => own_ldI X8 hx hZ e8 (own_An_vp B0) (by decide) rfl (g := (mkF m 56 #[rv o, iv x1] [(.int (0 : Int32)), (.ref P)])) rfl rfl (hb hby d3_56) t k) ?_
  refine oI1 X8 hx (hb hby d3_57) (pc' := 58) rfl rfl ?_
  refine oN X8 hx (hb hby d3_58) (pc' := 61) rfl (teq eq).2 ?_
  refine oA1 X8 hx (hb hby d3_61) (pc' := 62) rfl rfl rfl ?_
  obtain ⟨T9, X9, e9, st9⟩ := getF X8 hx hZ hown (host := "") (Or.inl (hw _ (List.mem_of_getElem? (i := 15) rfl))) Via.refl e8 (own_Ob_o B0.1) (g := (mkF m 62 #[rv o, iv x1] [(.ref o)])) rfl rfl (hb hby d3_62)
  refine own_pre (T' := T9) (f' := (mkF m 65 #[rv o, iv x1] [(.ref O)])) (fun t k => st9 t k) ?_
  refine oA1 X9 hx (hb hby d3_65) (pc' := 66) rfl rfl rfl ?_
  refine oD X9 hx (hb hby d3_66) (pc' := 67) rfl rfl ?_
  obtain ⟨T10, X10, e10, st10⟩ := getF X9 hx hZ hown (host := "") (Or.inl (hw _ (List.mem_of_getElem? (i := 22) rfl))) Via.refl e9 (own_Ob_t B0.1) (g := (mkF m 67 #[rv o, iv x1] [(.ref o), (.ref o), (.ref O)])) rfl rfl (hb hby d3_67)
  refine own_pre (T' := T10) (f' := (mkF m 70 #[rv o, iv x1] [(.int (0 : Int32)), (.ref o), (.ref O)])) (fun t k => st10 t k) ?_
  refine own_pre (T' := T10) (f' := (mkF m 71 #[rv o, iv x1] [(.int (0 : Int32)), (.ref o), (.int (0 : Int32)), (.ref O)])) (fun t k => XS.dupX1 X10.here hx rfl (hb hby d3_70) rfl rfl rfl k) ?_
  refine oC X10 hx (1 : Int32) (hb hby d3_71) (pc' := 72) rfl rfl ?_
  refine own_pre (T' := T10) (f' := (mkF m 73 #[rv o, iv x1] [(.int ((0 : Int32) + (1 : Int32))), (.ref o), (.int (0 : Int32)), (.ref O)])) (fun t k => XS.iadd X10.here hx rfl (hb hby d3_72) rfl k) ?_
  rw [show ((0 : Int32) + (1 : Int32)) = (1 : Int32) from by decide]
  obtain ⟨T11, h11, X11, e11, W11, st11⟩ := putF X10 hx hZ hown (host := "") (Or.inl (hw _ (List.mem_of_getElem? (i := 22) rfl))) Via.refl e10 (own_Ob_t B0.1) (own_Ob_E B0.1) (Or.inl (hw _ (List.mem_of_getElem? (i := 23) rfl))) (hw _ (List.mem_of_getElem? (i := 3) rfl)) (ty := .int) (by decide) rfl rfl (g := (mkF m 73 #[rv o, iv x1] [(.int (1 : Int32)), (.ref o), (.int (0 : Int32)), (.ref O)])) rfl rfl (hb hby d3_73)
  have N11 := Fr.snoc X11 N0 (own_Ob_g B0.1)
  have B11 : own_An Z hB h11 o P O kP kO [(.int v0), (.int v1), (.int v2), (.int v3), (.int v4), (.int v5), (.int v6), (.int v7)] [(.int u0), (.int u1), (.int u2), (.int u3), (.int u4), (.int u5), (.int u6), (.int u7)] (2 : Int32) (1 : Int32) := own_An_wt sn B0 W11
  refine own_pre (T' := T11) (f' := (mkF m 76 #[rv o, iv x1] [(.int (0 : Int32)), (.ref O)])) (fun t k => st11 t k) ?_
  refine own_pre (T' := T11) (f' := (mkF m 77 #[rv o, iv x1] [(.int u0)])) (fun t k => own_ldI X11 hx hZ e11 (own_An_vo B11) (by decide) rfl (g := (mkF m 76 #[rv o, iv x1] [(.int (0 : Int32)), (.ref O)])) rfl rfl (hb hby d3_76) t k) ?_
  refine oG X11 hx (hb hby d3_77) (pc' := 81) (by decide) (by decide) ?_
  exact own_retI X11 hx hlk hret (hb hby d3_81) (by rw [e11]; exact ⟨rfl, N11, B11⟩) (by decide) (by decide)
set_option maxRecDepth 65536 in
set_option maxHeartbeats 40000000 in
theorem own_at_2_0_1_0 (l : Launch) (Z : State) (a0 : Array Value) (hw : ∀ d ∈ tables_1, d.before a0 Z = true) (ws : List Jvm.Cond) (w_NO_ANCHORS : Addr) (k_NO_ANCHORS : ClassId) (h0 : Heap) (F : own_F Z h0 w_NO_ANCHORS k_NO_ANCHORS) (hB : Heap) (Fb : own_F Z hB w_NO_ANCHORS k_NO_ANCHORS) (o : Addr) (P O : Addr) (kP kO : ClassId) (v0 v1 v2 v3 v4 v5 v6 v7 u0 u1 u2 u3 u4 u5 u6 u7 : Int32)  (B0 : own_An Z hB h0 o P O kP kO [(.int v0), (.int v1), (.int v2), (.int v3), (.int v4), (.int v5), (.int v6), (.int v7)] [(.int u0), (.int u1), (.int u2), (.int u3), (.int u4), (.int u5), (.int u6), (.int u7)] (2 : Int32) (0 : Int32)) (x1 : Int32) (l0 : v0 < x1) (l1 : ¬ (v1 < x1)) (eq : ¬ (v1 = x1)) :
    own_C l (⟨"com/example/orthonorm/orthonorm/sanskrit/Anchors", "takeAt", "(I)I"⟩ : MethodName) prog_37_method_5_code 2 (some .int) ws (own_RC 0 0 0 0) #[(.ref o), (.int x1)] Z h0 (fun v h' L => v = (some (.int (-1 : Int32))) ∧ Fr hB.size L ∧ own_An Z hB h' o P O kP kO [(.int v0), (.int v1), (.int v2), (.int v3), (.int v4), (.int v5), (.int v6), (.int v7)] [(.int u0), (.int u1), (.int u2), (.int u3), (.int u4), (.int u5), (.int u6), (.int u7)] (2 : Int32) (1 : Int32)) := by
  have F0 := F
  obtain ⟨S_NO_ANCHORS, E_NO_ANCHORS, V_NO_ANCHORS⟩ := F
  refine own_enter (LS := #[rv o, iv x1]) (plainFor_of_name (by first | (simp [plainName, overriddenIn, x]; done) | decide +kernel)) (fun m => by first | (simp [entryFrame, mkF, argsToLocals, Value.category, maxLocals]; done) | rfl) ?_
  intro p e s m below meth c s₁ hx hby hml hown0 hnm hret hlk hZ X0 e0 hsh
  have hown : s.vm.findClass "com/example/orthonorm/orthonorm/sanskrit/Anchors" = some m.cls := hown0
  have sn := own_snI hw
  have N0 := Fr.nil hB.size
  refine oA1 X0 hx (hb hby d3_0) (pc' := 1) rfl rfl rfl ?_
  obtain ⟨T1, X1, e1, st1⟩ := getF X0 hx hZ hown (host := "") (Or.inl (hw _ (List.mem_of_getElem? (i := 22) rfl))) Via.refl e0 (own_Ob_t B0.1) (g := (mkF m 1 #[rv o, iv x1] [(.ref o)])) rfl rfl (hb hby d3_1)
  refine own_pre (T' := T1) (f' := (mkF m 4 #[rv o, iv x1] [(.int (0 : Int32))])) (fun t k => st1 t k) ?_
  refine oA1 X1 hx (hb hby d3_4) (pc' := 5) rfl rfl rfl ?_
  obtain ⟨T2, X2, e2, st2⟩ := getF X1 hx hZ hown (host := "") (Or.inl (hw _ (List.mem_of_getElem? (i := 24) rfl))) Via.refl e1 (own_Ob_s B0.1) (g := (mkF m 5 #[rv o, iv x1] [(.ref o), (.int (0 : Int32))])) rfl rfl (hb hby d3_5)
  refine own_pre (T' := T2) (f' := (mkF m 8 #[rv o, iv x1] [(.int (2 : Int32)), (.int (0 : Int32))])) (fun t k => st2 t k) ?_
  refine oN X2 hx (hb hby d3_8) (pc' := 11) rfl (tlt (by decide : (0 : Int32) < (2 : Int32))).2.1 ?_
  refine oA1 X2 hx (hb hby d3_11) (pc' := 12) rfl rfl rfl ?_
  obtain ⟨T3, X3, e3, st3⟩ := getF X2 hx hZ hown (host := "") (Or.inl (hw _ (List.mem_of_getElem? (i := 13) rfl))) Via.refl e2 (own_Ob_p B0.1) (g := (mkF m 12 #[rv o, iv x1] [(.ref o)])) rfl rfl (hb hby d3_12)
  refine own_pre (T' := T3) (f' := (mkF m 15 #[rv o, iv x1] [(.ref P)])) (fun t k => st3 t k) ?_
  refine oA1 X3 hx (hb hby d3_15) (pc' := 16) rfl rfl rfl ?_
  obtain ⟨T4, X4, e4, st4⟩ := getF X3 hx hZ hown (host := "") (Or.inl (hw _ (List.mem_of_getElem? (i := 22) rfl))) Via.refl e3 (own_Ob_t B0.1) (g := (mkF m 16 #[rv o, iv x1] [(.ref o), (.ref P)])) rfl rfl (hb hby d3_16)
  refine own_pre (T' := T4) (f' := (mkF m 19 #[rv o, iv x1] [(.int (0 : Int32)), (.ref P)])) (fun t k => st4 t k) ?_
  refine own_pre (T' := T4) (f' := (mkF m 20 #[rv o, iv x1] [(.int v0)])) (fun t k => own_ldI X4 hx hZ e4 (own_An_vp B0) (by decide) rfl (g := (mkF m 19 #[rv o, iv x1] [(.int (0 : Int32)), (.ref P)])) rfl rfl (hb hby d3_19) t k) ?_
  refine oI1 X4 hx (hb hby d3_20) (pc' := 21) rfl rfl ?_
  refine oN X4 hx (hb hby d3_21) (pc' := 24) rfl (tlt l0).2.1 ?_
  refine oA1 X4 hx (hb hby d3_24) (pc' := 25) rfl rfl rfl ?_
  refine oD X4 hx (hb hby d3_25) (pc' := 26) rfl rfl ?_
  obtain ⟨T5, X5, e5, st5⟩ := getF X4 hx hZ hown (host := "") (Or.inl (hw _ (List.mem_of_getElem? (i := 22) rfl))) Via.refl e4 (own_Ob_t B0.1) (g := (mkF m 26 #[rv o, iv x1] [(.ref o), (.ref o)])) rfl rfl (hb hby d3_26)
  refine own_pre (T' := T5) (f' := (mkF m 29 #[rv o, iv x1] [(.int (0 : Int32)), (.ref o)])) (fun t k => st5 t k) ?_
  refine oC X5 hx (1 : Int32) (hb hby d3_29) (pc' := 30) rfl rfl ?_
  refine own_pre (T' := T5) (f' := (mkF m 31 #[rv o, iv x1] [(.int ((0 : Int32) + (1 : Int32))), (.ref o)])) (fun t k => XS.iadd X5.here hx rfl (hb hby d3_30) rfl k) ?_
  rw [show ((0 : Int32) + (1 : Int32)) = (1 : Int32) from by decide]
  obtain ⟨T6, h6, X6, e6, W6, st6⟩ := putF X5 hx hZ hown (host := "") (Or.inl (hw _ (List.mem_of_getElem? (i := 22) rfl))) Via.refl e5 (own_Ob_t B0.1) (own_Ob_E B0.1) (Or.inl (hw _ (List.mem_of_getElem? (i := 23) rfl))) (hw _ (List.mem_of_getElem? (i := 3) rfl)) (ty := .int) (by decide) rfl rfl (g := (mkF m 31 #[rv o, iv x1] [(.int (1 : Int32)), (.ref o)])) rfl rfl (hb hby d3_31)
  have N6 := Fr.snoc X6 N0 (own_Ob_g B0.1)
  have B6 : own_An Z hB h6 o P O kP kO [(.int v0), (.int v1), (.int v2), (.int v3), (.int v4), (.int v5), (.int v6), (.int v7)] [(.int u0), (.int u1), (.int u2), (.int u3), (.int u4), (.int u5), (.int u6), (.int u7)] (2 : Int32) (1 : Int32) := own_An_wt sn B0 W6
  refine own_pre (T' := T6) (f' := (mkF m 34 #[rv o, iv x1] [])) (fun t k => st6 t k) ?_
  refine oG X6 hx (hb hby d3_34) (pc' := 0) (by decide) (by decide) ?_
  refine oA1 X6 hx (hb hby d3_0) (pc' := 1) rfl rfl rfl ?_
  obtain ⟨T7, X7, e7, st7⟩ := getF X6 hx hZ hown (host := "") (Or.inl (hw _ (List.mem_of_getElem? (i := 22) rfl))) Via.refl e6 (own_Ob_t B6.1) (g := (mkF m 1 #[rv o, iv x1] [(.ref o)])) rfl rfl (hb hby d3_1)
  refine own_pre (T' := T7) (f' := (mkF m 4 #[rv o, iv x1] [(.int (1 : Int32))])) (fun t k => st7 t k) ?_
  refine oA1 X7 hx (hb hby d3_4) (pc' := 5) rfl rfl rfl ?_
  obtain ⟨T8, X8, e8, st8⟩ := getF X7 hx hZ hown (host := "") (Or.inl (hw _ (List.mem_of_getElem? (i := 24) rfl))) Via.refl e7 (own_Ob_s B6.1) (g := (mkF m 5 #[rv o, iv x1] [(.ref o), (.int (1 : Int32))])) rfl rfl (hb hby d3_5)
  refine own_pre (T' := T8) (f' := (mkF m 8 #[rv o, iv x1] [(.int (2 : Int32)), (.int (1 : Int32))])) (fun t k => st8 t k) ?_
  refine oN X8 hx (hb hby d3_8) (pc' := 11) rfl (tlt (by decide : (1 : Int32) < (2 : Int32))).2.1 ?_
  refine oA1 X8 hx (hb hby d3_11) (pc' := 12) rfl rfl rfl ?_
  obtain ⟨T9, X9, e9, st9⟩ := getF X8 hx hZ hown (host := "") (Or.inl (hw _ (List.mem_of_getElem? (i := 13) rfl))) Via.refl e8 (own_Ob_p B6.1) (g := (mkF m 12 #[rv o, iv x1] [(.ref o)])) rfl rfl (hb hby d3_12)
  refine own_pre (T' := T9) (f' := (mkF m 15 #[rv o, iv x1] [(.ref P)])) (fun t k => st9 t k) ?_
  refine oA1 X9 hx (hb hby d3_15) (pc' := 16) rfl rfl rfl ?_
  obtain ⟨T10, X10, e10, st10⟩ := getF X9 hx hZ hown (host := "") (Or.inl (hw _ (List.mem_of_getElem? (i := 22) rfl))) Via.refl e9 (own_Ob_t B6.1) (g := (mkF m 16 #[rv o, iv x1] [(.ref o), (.ref P)])) rfl rfl (hb hby d3_16)
  refine own_pre (T' := T10) (f' := (mkF m 19 #[rv o, iv x1] [(.int (1 : Int32)), (.ref P)])) (fun t k => st10 t k) ?_
  refine own_pre (T' := T10) (f' := (mkF m 20 #[rv o, iv x1] [(.int v1)])) (fun t k => own_ldI X10 hx hZ e10 (own_An_vp B6) (by decide) rfl (g := (mkF m 19 #[rv o, iv x1] [(.int (1 : Int32)), (.ref P)])) rfl rfl (hb hby d3_19) t k) ?_
  refine oI1 X10 hx (hb hby d3_20) (pc' := 21) rfl rfl ?_
  refine oY X10 hx (hb hby d3_21) (pc' := 37) (flt l1).2.1 (by decide) (by decide) ?_
  refine oA1 X10 hx (hb hby d3_37) (pc' := 38) rfl rfl rfl ?_
  obtain ⟨T11, X11, e11, st11⟩ := getF X10 hx hZ hown (host := "") (Or.inl (hw _ (List.mem_of_getElem? (i := 22) rfl))) Via.refl e10 (own_Ob_t B6.1) (g := (mkF m 38 #[rv o, iv x1] [(.ref o)])) rfl rfl (hb hby d3_38)
  refine own_pre (T' := T11) (f' := (mkF m 41 #[rv o, iv x1] [(.int (1 : Int32))])) (fun t k => st11 t k) ?_
  refine oA1 X11 hx (hb hby d3_41) (pc' := 42) rfl rfl rfl ?_
  obtain ⟨T12, X12, e12, st12⟩ := getF X11 hx hZ hown (host := "") (Or.inl (hw _ (List.mem_of_getElem? (i := 24) rfl))) Via.refl e11 (own_Ob_s B6.1) (g := (mkF m 42 #[rv o, iv x1] [(.ref o), (.int (1 : Int32))])) rfl rfl (hb hby d3_42)
  refine own_pre (T' := T12) (f' := (mkF m 45 #[rv o, iv x1] [(.int (2 : Int32)), (.int (1 : Int32))])) (fun t k => st12 t k) ?_
  refine oN X12 hx (hb hby d3_45) (pc' := 48) rfl (tlt (by decide : (1 : Int32) < (2 : Int32))).2.1 ?_
  refine oA1 X12 hx (hb hby d3_48) (pc' := 49) rfl rfl rfl ?_
  obtain ⟨T13, X13, e13, st13⟩ := getF X12 hx hZ hown (host := "") (Or.inl (hw _ (List.mem_of_getElem? (i := 13) rfl))) Via.refl e12 (own_Ob_p B6.1) (g := (mkF m 49 #[rv o, iv x1] [(.ref o)])) rfl rfl (hb hby d3_49)
  refine own_pre (T' := T13) (f' := (mkF m 52 #[rv o, iv x1] [(.ref P)])) (fun t k => st13 t k) ?_
  refine oA1 X13 hx (hb hby d3_52) (pc' := 53) rfl rfl rfl ?_
  obtain ⟨T14, X14, e14, st14⟩ := getF X13 hx hZ hown (host := "") (Or.inl (hw _ (List.mem_of_getElem? (i := 22) rfl))) Via.refl e13 (own_Ob_t B6.1) (g := (mkF m 53 #[rv o, iv x1] [(.ref o), (.ref P)])) rfl rfl (hb hby d3_53)
  refine own_pre (T' := T14) (f' := (mkF m 56 #[rv o, iv x1] [(.int (1 : Int32)), (.ref P)])) (fun t k => st14 t k) ?_
  refine own_pre (T' := T14) (f' := (mkF m 57 #[rv o, iv x1] [(.int v1)])) (fun t k => own_ldI X14 hx hZ e14 (own_An_vp B6) (by decide) rfl (g := (mkF m 56 #[rv o, iv x1] [(.int (1 : Int32)), (.ref P)])) rfl rfl (hb hby d3_56) t k) ?_
  refine oI1 X14 hx (hb hby d3_57) (pc' := 58) rfl rfl ?_
  refine oY X14 hx (hb hby d3_58) (pc' := 80) (feq eq).2 (by decide) (by decide) ?_
  refine oC X14 hx (-1 : Int32) (hb hby d3_80) (pc' := 81) rfl rfl ?_
  exact own_retI X14 hx hlk hret (hb hby d3_81) (by rw [e14]; exact ⟨rfl, N6, B6⟩) (by decide) (by decide)
set_option maxRecDepth 65536 in
set_option maxHeartbeats 40000000 in
theorem own_at_2_0_1_1 (l : Launch) (Z : State) (a0 : Array Value) (hw : ∀ d ∈ tables_1, d.before a0 Z = true) (ws : List Jvm.Cond) (w_NO_ANCHORS : Addr) (k_NO_ANCHORS : ClassId) (h0 : Heap) (F : own_F Z h0 w_NO_ANCHORS k_NO_ANCHORS) (hB : Heap) (Fb : own_F Z hB w_NO_ANCHORS k_NO_ANCHORS) (o : Addr) (P O : Addr) (kP kO : ClassId) (v0 v1 v2 v3 v4 v5 v6 v7 u0 u1 u2 u3 u4 u5 u6 u7 : Int32)  (B0 : own_An Z hB h0 o P O kP kO [(.int v0), (.int v1), (.int v2), (.int v3), (.int v4), (.int v5), (.int v6), (.int v7)] [(.int u0), (.int u1), (.int u2), (.int u3), (.int u4), (.int u5), (.int u6), (.int u7)] (2 : Int32) (0 : Int32)) (x1 : Int32) (l0 : v0 < x1) (l1 : ¬ (v1 < x1)) (eq : v1 = x1) :
    own_C l (⟨"com/example/orthonorm/orthonorm/sanskrit/Anchors", "takeAt", "(I)I"⟩ : MethodName) prog_37_method_5_code 2 (some .int) ws (own_RC 0 0 0 0) #[(.ref o), (.int x1)] Z h0 (fun v h' L => v = (some (.int u1)) ∧ Fr hB.size L ∧ own_An Z hB h' o P O kP kO [(.int v0), (.int v1), (.int v2), (.int v3), (.int v4), (.int v5), (.int v6), (.int v7)] [(.int u0), (.int u1), (.int u2), (.int u3), (.int u4), (.int u5), (.int u6), (.int u7)] (2 : Int32) (2 : Int32)) := by
  have F0 := F
  obtain ⟨S_NO_ANCHORS, E_NO_ANCHORS, V_NO_ANCHORS⟩ := F
  refine own_enter (LS := #[rv o, iv x1]) (plainFor_of_name (by first | (simp [plainName, overriddenIn, x]; done) | decide +kernel)) (fun m => by first | (simp [entryFrame, mkF, argsToLocals, Value.category, maxLocals]; done) | rfl) ?_
  intro p e s m below meth c s₁ hx hby hml hown0 hnm hret hlk hZ X0 e0 hsh
  have hown : s.vm.findClass "com/example/orthonorm/orthonorm/sanskrit/Anchors" = some m.cls := hown0
  have sn := own_snI hw
  have N0 := Fr.nil hB.size
  refine oA1 X0 hx (hb hby d3_0) (pc' := 1) rfl rfl rfl ?_
  obtain ⟨T1, X1, e1, st1⟩ := getF X0 hx hZ hown (host := "") (Or.inl (hw _ (List.mem_of_getElem? (i := 22) rfl))) Via.refl e0 (own_Ob_t B0.1) (g := (mkF m 1 #[rv o, iv x1] [(.ref o)])) rfl rfl (hb hby d3_1)
  refine own_pre (T' := T1) (f' := (mkF m 4 #[rv o, iv x1] [(.int (0 : Int32))])) (fun t k => st1 t k) ?_
  refine oA1 X1 hx (hb hby d3_4) (pc' := 5) rfl rfl rfl ?_
  obtain ⟨T2, X2, e2, st2⟩ := getF X1 hx hZ hown (host := "") (Or.inl (hw _ (List.mem_of_getElem? (i := 24) rfl))) Via.refl e1 (own_Ob_s B0.1) (g := (mkF m 5 #[rv o, iv x1] [(.ref o), (.int (0 : Int32))])) rfl rfl (hb hby d3_5)
  refine own_pre (T' := T2) (f' := (mkF m 8 #[rv o, iv x1] [(.int (2 : Int32)), (.int (0 : Int32))])) (fun t k => st2 t k) ?_
  refine oN X2 hx (hb hby d3_8) (pc' := 11) rfl (tlt (by decide : (0 : Int32) < (2 : Int32))).2.1 ?_
  refine oA1 X2 hx (hb hby d3_11) (pc' := 12) rfl rfl rfl ?_
  obtain ⟨T3, X3, e3, st3⟩ := getF X2 hx hZ hown (host := "") (Or.inl (hw _ (List.mem_of_getElem? (i := 13) rfl))) Via.refl e2 (own_Ob_p B0.1) (g := (mkF m 12 #[rv o, iv x1] [(.ref o)])) rfl rfl (hb hby d3_12)
  refine own_pre (T' := T3) (f' := (mkF m 15 #[rv o, iv x1] [(.ref P)])) (fun t k => st3 t k) ?_
  refine oA1 X3 hx (hb hby d3_15) (pc' := 16) rfl rfl rfl ?_
  obtain ⟨T4, X4, e4, st4⟩ := getF X3 hx hZ hown (host := "") (Or.inl (hw _ (List.mem_of_getElem? (i := 22) rfl))) Via.refl e3 (own_Ob_t B0.1) (g := (mkF m 16 #[rv o, iv x1] [(.ref o), (.ref P)])) rfl rfl (hb hby d3_16)
  refine own_pre (T' := T4) (f' := (mkF m 19 #[rv o, iv x1] [(.int (0 : Int32)), (.ref P)])) (fun t k => st4 t k) ?_
  refine own_pre (T' := T4) (f' := (mkF m 20 #[rv o, iv x1] [(.int v0)])) (fun t k => own_ldI X4 hx hZ e4 (own_An_vp B0) (by decide) rfl (g := (mkF m 19 #[rv o, iv x1] [(.int (0 : Int32)), (.ref P)])) rfl rfl (hb hby d3_19) t k) ?_
  refine oI1 X4 hx (hb hby d3_20) (pc' := 21) rfl rfl ?_
  refine oN X4 hx (hb hby d3_21) (pc' := 24) rfl (tlt l0).2.1 ?_
  refine oA1 X4 hx (hb hby d3_24) (pc' := 25) rfl rfl rfl ?_
  refine oD X4 hx (hb hby d3_25) (pc' := 26) rfl rfl ?_
  obtain ⟨T5, X5, e5, st5⟩ := getF X4 hx hZ hown (host := "") (Or.inl (hw _ (List.mem_of_getElem? (i := 22) rfl))) Via.refl e4 (own_Ob_t B0.1) (g := (mkF m 26 #[rv o, iv x1] [(.ref o), (.ref o)])) rfl rfl (hb hby d3_26)
  refine own_pre (T' := T5) (f' := (mkF m 29 #[rv o, iv x1] [(.int (0 : Int32)), (.ref o)])) (fun t k => st5 t k) ?_
  refine oC X5 hx (1 : Int32) (hb hby d3_29) (pc' := 30) rfl rfl ?_
  refine own_pre (T' := T5) (f' := (mkF m 31 #[rv o, iv x1] [(.int ((0 : Int32) + (1 : Int32))), (.ref o)])) (fun t k => XS.iadd X5.here hx rfl (hb hby d3_30) rfl k) ?_
  rw [show ((0 : Int32) + (1 : Int32)) = (1 : Int32) from by decide]
  obtain ⟨T6, h6, X6, e6, W6, st6⟩ := putF X5 hx hZ hown (host := "") (Or.inl (hw _ (List.mem_of_getElem? (i := 22) rfl))) Via.refl e5 (own_Ob_t B0.1) (own_Ob_E B0.1) (Or.inl (hw _ (List.mem_of_getElem? (i := 23) rfl))) (hw _ (List.mem_of_getElem? (i := 3) rfl)) (ty := .int) (by decide) rfl rfl (g := (mkF m 31 #[rv o, iv x1] [(.int (1 : Int32)), (.ref o)])) rfl rfl (hb hby d3_31)
  have N6 := Fr.snoc X6 N0 (own_Ob_g B0.1)
  have B6 : own_An Z hB h6 o P O kP kO [(.int v0), (.int v1), (.int v2), (.int v3), (.int v4), (.int v5), (.int v6), (.int v7)] [(.int u0), (.int u1), (.int u2), (.int u3), (.int u4), (.int u5), (.int u6), (.int u7)] (2 : Int32) (1 : Int32) := own_An_wt sn B0 W6
  refine own_pre (T' := T6) (f' := (mkF m 34 #[rv o, iv x1] [])) (fun t k => st6 t k) ?_
  refine oG X6 hx (hb hby d3_34) (pc' := 0) (by decide) (by decide) ?_
  refine oA1 X6 hx (hb hby d3_0) (pc' := 1) rfl rfl rfl ?_
  obtain ⟨T7, X7, e7, st7⟩ := getF X6 hx hZ hown (host := "") (Or.inl (hw _ (List.mem_of_getElem? (i := 22) rfl))) Via.refl e6 (own_Ob_t B6.1) (g := (mkF m 1 #[rv o, iv x1] [(.ref o)])) rfl rfl (hb hby d3_1)
  refine own_pre (T' := T7) (f' := (mkF m 4 #[rv o, iv x1] [(.int (1 : Int32))])) (fun t k => st7 t k) ?_
  refine oA1 X7 hx (hb hby d3_4) (pc' := 5) rfl rfl rfl ?_
  obtain ⟨T8, X8, e8, st8⟩ := getF X7 hx hZ hown (host := "") (Or.inl (hw _ (List.mem_of_getElem? (i := 24) rfl))) Via.refl e7 (own_Ob_s B6.1) (g := (mkF m 5 #[rv o, iv x1] [(.ref o), (.int (1 : Int32))])) rfl rfl (hb hby d3_5)
  refine own_pre (T' := T8) (f' := (mkF m 8 #[rv o, iv x1] [(.int (2 : Int32)), (.int (1 : Int32))])) (fun t k => st8 t k) ?_
  refine oN X8 hx (hb hby d3_8) (pc' := 11) rfl (tlt (by decide : (1 : Int32) < (2 : Int32))).2.1 ?_
  refine oA1 X8 hx (hb hby d3_11) (pc' := 12) rfl rfl rfl ?_
  obtain ⟨T9, X9, e9, st9⟩ := getF X8 hx hZ hown (host := "") (Or.inl (hw _ (List.mem_of_getElem? (i := 13) rfl))) Via.refl e8 (own_Ob_p B6.1) (g := (mkF m 12 #[rv o, iv x1] [(.ref o)])) rfl rfl (hb hby d3_12)
  refine own_pre (T' := T9) (f' := (mkF m 15 #[rv o, iv x1] [(.ref P)])) (fun t k => st9 t k) ?_
  refine oA1 X9 hx (hb hby d3_15) (pc' := 16) rfl rfl rfl ?_
  obtain ⟨T10, X10, e10, st10⟩ := getF X9 hx hZ hown (host := "") (Or.inl (hw _ (List.mem_of_getElem? (i := 22) rfl))) Via.refl e9 (own_Ob_t B6.1) (g := (mkF m 16 #[rv o, iv x1] [(.ref o), (.ref P)])) rfl rfl (hb hby d3_16)
  refine own_pre (T' := T10) (f' := (mkF m 19 #[rv o, iv x1] [(.int (1 : Int32)), (.ref P)])) (fun t k => st10 t k) ?_
  refine own_pre (T' := T10) (f' := (mkF m 20 #[rv o, iv x1] [(.int v1)])) (fun t k => own_ldI X10 hx hZ e10 (own_An_vp B6) (by decide) rfl (g := (mkF m 19 #[rv o, iv x1] [(.int (1 : Int32)), (.ref P)])) rfl rfl (hb hby d3_19) t k) ?_
  refine oI1 X10 hx (hb hby d3_20) (pc' := 21) rfl rfl ?_
  refine oY X10 hx (hb hby d3_21) (pc' := 37) (flt l1).2.1 (by decide) (by decide) ?_
  refine oA1 X10 hx (hb hby d3_37) (pc' := 38) rfl rfl rfl ?_
  obtain ⟨T11, X11, e11, st11⟩ := getF X10 hx hZ hown (host := "") (Or.inl (hw _ (List.mem_of_getElem? (i := 22) rfl))) Via.refl e10 (own_Ob_t B6.1) (g := (mkF m 38 #[rv o, iv x1] [(.ref o)])) rfl rfl (hb hby d3_38)
  refine own_pre (T' := T11) (f' := (mkF m 41 #[rv o, iv x1] [(.int (1 : Int32))])) (fun t k => st11 t k) ?_
  refine oA1 X11 hx (hb hby d3_41) (pc' := 42) rfl rfl rfl ?_
  obtain ⟨T12, X12, e12, st12⟩ := getF X11 hx hZ hown (host := "") (Or.inl (hw _ (List.mem_of_getElem? (i := 24) rfl))) Via.refl e11 (own_Ob_s B6.1) (g := (mkF m 42 #[rv o, iv x1] [(.ref o), (.int (1 : Int32))])) rfl rfl (hb hby d3_42)
  refine own_pre (T' := T12) (f' := (mkF m 45 #[rv o, iv x1] [(.int (2 : Int32)), (.int (1 : Int32))])) (fun t k => st12 t k) ?_
  refine oN X12 hx (hb hby d3_45) (pc' := 48) rfl (tlt (by decide : (1 : Int32) < (2 : Int32))).2.1 ?_
  refine oA1 X12 hx (hb hby d3_48) (pc' := 49) rfl rfl rfl ?_
  obtain ⟨T13, X13, e13, st13⟩ := getF X12 hx hZ hown (host := "") (Or.inl (hw _ (List.mem_of_getElem? (i := 13) rfl))) Via.refl e12 (own_Ob_p B6.1) (g := (mkF m 49 #[rv o, iv x1] [(.ref o)])) rfl rfl (hb hby d3_49)
  refine own_pre (T' := T13) (f' := (mkF m 52 #[rv o, iv x1] [(.ref P)])) (fun t k => st13 t k) ?_
  refine oA1 X13 hx (hb hby d3_52) (pc' := 53) rfl rfl rfl ?_
  obtain ⟨T14, X14, e14, st14⟩ := getF X13 hx hZ hown (host := "") (Or.inl (hw _ (List.mem_of_getElem? (i := 22) rfl))) Via.refl e13 (own_Ob_t B6.1) (g := (mkF m 53 #[rv o, iv x1] [(.ref o), (.ref P)])) rfl rfl (hb hby d3_53)
  refine own_pre (T' := T14) (f' := (mkF m 56 #[rv o, iv x1] [(.int (1 : Int32)), (.ref P)])) (fun t k => st14 t k) ?_
  refine own_pre (T' := T14) (f' := (mkF m 57 #[rv o, iv x1] [(.int v1)])) (fun t k => own_ldI X14 hx hZ e14 (own_An_vp B6) (by decide) rfl (g := (mkF m 56 #[rv o, iv x1] [(.int (1 : Int32)), (.ref P)])) rfl rfl (hb hby d3_56) t k) ?_
  refine oI1 X14 hx (hb hby d3_57) (pc' := 58) rfl rfl ?_
  refine oN X14 hx (hb hby d3_58) (pc' := 61) rfl (teq eq).2 ?_
  refine oA1 X14 hx (hb hby d3_61) (pc' := 62) rfl rfl rfl ?_
  obtain ⟨T15, X15, e15, st15⟩ := getF X14 hx hZ hown (host := "") (Or.inl (hw _ (List.mem_of_getElem? (i := 15) rfl))) Via.refl e14 (own_Ob_o B6.1) (g := (mkF m 62 #[rv o, iv x1] [(.ref o)])) rfl rfl (hb hby d3_62)
  refine own_pre (T' := T15) (f' := (mkF m 65 #[rv o, iv x1] [(.ref O)])) (fun t k => st15 t k) ?_
  refine oA1 X15 hx (hb hby d3_65) (pc' := 66) rfl rfl rfl ?_
  refine oD X15 hx (hb hby d3_66) (pc' := 67) rfl rfl ?_
  obtain ⟨T16, X16, e16, st16⟩ := getF X15 hx hZ hown (host := "") (Or.inl (hw _ (List.mem_of_getElem? (i := 22) rfl))) Via.refl e15 (own_Ob_t B6.1) (g := (mkF m 67 #[rv o, iv x1] [(.ref o), (.ref o), (.ref O)])) rfl rfl (hb hby d3_67)
  refine own_pre (T' := T16) (f' := (mkF m 70 #[rv o, iv x1] [(.int (1 : Int32)), (.ref o), (.ref O)])) (fun t k => st16 t k) ?_
  refine own_pre (T' := T16) (f' := (mkF m 71 #[rv o, iv x1] [(.int (1 : Int32)), (.ref o), (.int (1 : Int32)), (.ref O)])) (fun t k => XS.dupX1 X16.here hx rfl (hb hby d3_70) rfl rfl rfl k) ?_
  refine oC X16 hx (1 : Int32) (hb hby d3_71) (pc' := 72) rfl rfl ?_
  refine own_pre (T' := T16) (f' := (mkF m 73 #[rv o, iv x1] [(.int ((1 : Int32) + (1 : Int32))), (.ref o), (.int (1 : Int32)), (.ref O)])) (fun t k => XS.iadd X16.here hx rfl (hb hby d3_72) rfl k) ?_
  rw [show ((1 : Int32) + (1 : Int32)) = (2 : Int32) from by decide]
  obtain ⟨T17, h17, X17, e17, W17, st17⟩ := putF X16 hx hZ hown (host := "") (Or.inl (hw _ (List.mem_of_getElem? (i := 22) rfl))) Via.refl e16 (own_Ob_t B6.1) (own_Ob_E B6.1) (Or.inl (hw _ (List.mem_of_getElem? (i := 23) rfl))) (hw _ (List.mem_of_getElem? (i := 3) rfl)) (ty := .int) (by decide) rfl rfl (g := (mkF m 73 #[rv o, iv x1] [(.int (2 : Int32)), (.ref o), (.int (1 : Int32)), (.ref O)])) rfl rfl (hb hby d3_73)
  have N17 := Fr.snoc X17 N6 (own_Ob_g B6.1)
  have B17 : own_An Z hB h17 o P O kP kO [(.int v0), (.int v1), (.int v2), (.int v3), (.int v4), (.int v5), (.int v6), (.int v7)] [(.int u0), (.int u1), (.int u2), (.int u3), (.int u4), (.int u5), (.int u6), (.int u7)] (2 : Int32) (2 : Int32) := own_An_wt sn B6 W17
  refine own_pre (T' := T17) (f' := (mkF m 76 #[rv o, iv x1] [(.int (1 : Int32)), (.ref O)])) (fun t k => st17 t k) ?_
  refine own_pre (T' := T17) (f' := (mkF m 77 #[rv o, iv x1] [(.int u1)])) (fun t k => own_ldI X17 hx hZ e17 (own_An_vo B17) (by decide) rfl (g := (mkF m 76 #[rv o, iv x1] [(.int (1 : Int32)), (.ref O)])) rfl rfl (hb hby d3_76) t k) ?_
  refine oG X17 hx (hb hby d3_77) (pc' := 81) (by decide) (by decide) ?_
  exact own_retI X17 hx hlk hret (hb hby d3_81) (by rw [e17]; exact ⟨rfl, N17, B17⟩) (by decide) (by decide)
set_option maxRecDepth 65536 in
set_option maxHeartbeats 40000000 in
theorem own_at_2_0_2_0 (l : Launch) (Z : State) (a0 : Array Value) (hw : ∀ d ∈ tables_1, d.before a0 Z = true) (ws : List Jvm.Cond) (w_NO_ANCHORS : Addr) (k_NO_ANCHORS : ClassId) (h0 : Heap) (F : own_F Z h0 w_NO_ANCHORS k_NO_ANCHORS) (hB : Heap) (Fb : own_F Z hB w_NO_ANCHORS k_NO_ANCHORS) (o : Addr) (P O : Addr) (kP kO : ClassId) (v0 v1 v2 v3 v4 v5 v6 v7 u0 u1 u2 u3 u4 u5 u6 u7 : Int32)  (B0 : own_An Z hB h0 o P O kP kO [(.int v0), (.int v1), (.int v2), (.int v3), (.int v4), (.int v5), (.int v6), (.int v7)] [(.int u0), (.int u1), (.int u2), (.int u3), (.int u4), (.int u5), (.int u6), (.int u7)] (2 : Int32) (0 : Int32)) (x1 : Int32) (l0 : v0 < x1) (l1 : v1 < x1) :
    own_C l (⟨"com/example/orthonorm/orthonorm/sanskrit/Anchors", "takeAt", "(I)I"⟩ : MethodName) prog_37_method_5_code 2 (some .int) ws (own_RC 0 0 0 0) #[(.ref o), (.int x1)] Z h0 (fun v h' L => v = (some (.int (-1 : Int32))) ∧ Fr hB.size L ∧ own_An Z hB h' o P O kP kO [(.int v0), (.int v1), (.int v2), (.int v3), (.int v4), (.int v5), (.int v6), (.int v7)] [(.int u0), (.int u1), (.int u2), (.int u3), (.int u4), (.int u5), (.int u6), (.int u7)] (2 : Int32) (2 : Int32)) := by
  have F0 := F
  obtain ⟨S_NO_ANCHORS, E_NO_ANCHORS, V_NO_ANCHORS⟩ := F
  refine own_enter (LS := #[rv o, iv x1]) (plainFor_of_name (by first | (simp [plainName, overriddenIn, x]; done) | decide +kernel)) (fun m => by first | (simp [entryFrame, mkF, argsToLocals, Value.category, maxLocals]; done) | rfl) ?_
  intro p e s m below meth c s₁ hx hby hml hown0 hnm hret hlk hZ X0 e0 hsh
  have hown : s.vm.findClass "com/example/orthonorm/orthonorm/sanskrit/Anchors" = some m.cls := hown0
  have sn := own_snI hw
  have N0 := Fr.nil hB.size
  refine oA1 X0 hx (hb hby d3_0) (pc' := 1) rfl rfl rfl ?_
  obtain ⟨T1, X1, e1, st1⟩ := getF X0 hx hZ hown (host := "") (Or.inl (hw _ (List.mem_of_getElem? (i := 22) rfl))) Via.refl e0 (own_Ob_t B0.1) (g := (mkF m 1 #[rv o, iv x1] [(.ref o)])) rfl rfl (hb hby d3_1)
  refine own_pre (T' := T1) (f' := (mkF m 4 #[rv o, iv x1] [(.int (0 : Int32))])) (fun t k => st1 t k) ?_
  refine oA1 X1 hx (hb hby d3_4) (pc' := 5) rfl rfl rfl ?_
  obtain ⟨T2, X2, e2, st2⟩ := getF X1 hx hZ hown (host := "") (Or.inl (hw _ (List.mem_of_getElem? (i := 24) rfl))) Via.refl e1 (own_Ob_s B0.1) (g := (mkF m 5 #[rv o, iv x1] [(.ref o), (.int (0 : Int32))])) rfl rfl (hb hby d3_5)
  refine own_pre (T' := T2) (f' := (mkF m 8 #[rv o, iv x1] [(.int (2 : Int32)), (.int (0 : Int32))])) (fun t k => st2 t k) ?_
  refine oN X2 hx (hb hby d3_8) (pc' := 11) rfl (tlt (by decide : (0 : Int32) < (2 : Int32))).2.1 ?_
  refine oA1 X2 hx (hb hby d3_11) (pc' := 12) rfl rfl rfl ?_
  obtain ⟨T3, X3, e3, st3⟩ := getF X2 hx hZ hown (host := "") (Or.inl (hw _ (List.mem_of_getElem? (i := 13) rfl))) Via.refl e2 (own_Ob_p B0.1) (g := (mkF m 12 #[rv o, iv x1] [(.ref o)])) rfl rfl (hb hby d3_12)
  refine own_pre (T' := T3) (f' := (mkF m 15 #[rv o, iv x1] [(.ref P)])) (fun t k => st3 t k) ?_
  refine oA1 X3 hx (hb hby d3_15) (pc' := 16) rfl rfl rfl ?_
  obtain ⟨T4, X4, e4, st4⟩ := getF X3 hx hZ hown (host := "") (Or.inl (hw _ (List.mem_of_getElem? (i := 22) rfl))) Via.refl e3 (own_Ob_t B0.1) (g := (mkF m 16 #[rv o, iv x1] [(.ref o), (.ref P)])) rfl rfl (hb hby d3_16)
  refine own_pre (T' := T4) (f' := (mkF m 19 #[rv o, iv x1] [(.int (0 : Int32)), (.ref P)])) (fun t k => st4 t k) ?_
  refine own_pre (T' := T4) (f' := (mkF m 20 #[rv o, iv x1] [(.int v0)])) (fun t k => own_ldI X4 hx hZ e4 (own_An_vp B0) (by decide) rfl (g := (mkF m 19 #[rv o, iv x1] [(.int (0 : Int32)), (.ref P)])) rfl rfl (hb hby d3_19) t k) ?_
  refine oI1 X4 hx (hb hby d3_20) (pc' := 21) rfl rfl ?_
  refine oN X4 hx (hb hby d3_21) (pc' := 24) rfl (tlt l0).2.1 ?_
  refine oA1 X4 hx (hb hby d3_24) (pc' := 25) rfl rfl rfl ?_
  refine oD X4 hx (hb hby d3_25) (pc' := 26) rfl rfl ?_
  obtain ⟨T5, X5, e5, st5⟩ := getF X4 hx hZ hown (host := "") (Or.inl (hw _ (List.mem_of_getElem? (i := 22) rfl))) Via.refl e4 (own_Ob_t B0.1) (g := (mkF m 26 #[rv o, iv x1] [(.ref o), (.ref o)])) rfl rfl (hb hby d3_26)
  refine own_pre (T' := T5) (f' := (mkF m 29 #[rv o, iv x1] [(.int (0 : Int32)), (.ref o)])) (fun t k => st5 t k) ?_
  refine oC X5 hx (1 : Int32) (hb hby d3_29) (pc' := 30) rfl rfl ?_
  refine own_pre (T' := T5) (f' := (mkF m 31 #[rv o, iv x1] [(.int ((0 : Int32) + (1 : Int32))), (.ref o)])) (fun t k => XS.iadd X5.here hx rfl (hb hby d3_30) rfl k) ?_
  rw [show ((0 : Int32) + (1 : Int32)) = (1 : Int32) from by decide]
  obtain ⟨T6, h6, X6, e6, W6, st6⟩ := putF X5 hx hZ hown (host := "") (Or.inl (hw _ (List.mem_of_getElem? (i := 22) rfl))) Via.refl e5 (own_Ob_t B0.1) (own_Ob_E B0.1) (Or.inl (hw _ (List.mem_of_getElem? (i := 23) rfl))) (hw _ (List.mem_of_getElem? (i := 3) rfl)) (ty := .int) (by decide) rfl rfl (g := (mkF m 31 #[rv o, iv x1] [(.int (1 : Int32)), (.ref o)])) rfl rfl (hb hby d3_31)
  have N6 := Fr.snoc X6 N0 (own_Ob_g B0.1)
  have B6 : own_An Z hB h6 o P O kP kO [(.int v0), (.int v1), (.int v2), (.int v3), (.int v4), (.int v5), (.int v6), (.int v7)] [(.int u0), (.int u1), (.int u2), (.int u3), (.int u4), (.int u5), (.int u6), (.int u7)] (2 : Int32) (1 : Int32) := own_An_wt sn B0 W6
  refine own_pre (T' := T6) (f' := (mkF m 34 #[rv o, iv x1] [])) (fun t k => st6 t k) ?_
  refine oG X6 hx (hb hby d3_34) (pc' := 0) (by decide) (by decide) ?_
  refine oA1 X6 hx (hb hby d3_0) (pc' := 1) rfl rfl rfl ?_
  obtain ⟨T7, X7, e7, st7⟩ := getF X6 hx hZ hown (host := "") (Or.inl (hw _ (List.mem_of_getElem? (i := 22) rfl))) Via.refl e6 (own_Ob_t B6.1) (g := (mkF m 1 #[rv o, iv x1] [(.ref o)])) rfl rfl (hb hby d3_1)
  refine own_pre (T' := T7) (f' := (mkF m 4 #[rv o, iv x1] [(.int (1 : Int32))])) (fun t k => st7 t k) ?_
  refine oA1 X7 hx (hb hby d3_4) (pc' := 5) rfl rfl rfl ?_
  obtain ⟨T8, X8, e8, st8⟩ := getF X7 hx hZ hown (host := "") (Or.inl (hw _ (List.mem_of_getElem? (i := 24) rfl))) Via.refl e7 (own_Ob_s B6.1) (g := (mkF m 5 #[rv o, iv x1] [(.ref o), (.int (1 : Int32))])) rfl rfl (hb hby d3_5)
  refine own_pre (T' := T8) (f' := (mkF m 8 #[rv o, iv x1] [(.int (2 : Int32)), (.int (1 : Int32))])) (fun t k => st8 t k) ?_
  refine oN X8 hx (hb hby d3_8) (pc' := 11) rfl (tlt (by decide : (1 : Int32) < (2 : Int32))).2.1 ?_
  refine oA1 X8 hx (hb hby d3_11) (pc' := 12) rfl rfl rfl ?_
  obtain ⟨T9, X9, e9, st9⟩ := getF X8 hx hZ hown (host := "") (Or.inl (hw _ (List.mem_of_getElem? (i := 13) rfl))) Via.refl e8 (own_Ob_p B6.1) (g := (mkF m 12 #[rv o, iv x1] [(.ref o)])) rfl rfl (hb hby d3_12)
  refine own_pre (T' := T9) (f' := (mkF m 15 #[rv o, iv x1] [(.ref P)])) (fun t k => st9 t k) ?_
  refine oA1 X9 hx (hb hby d3_15) (pc' := 16) rfl rfl rfl ?_
  obtain ⟨T10, X10, e10, st10⟩ := getF X9 hx hZ hown (host := "") (Or.inl (hw _ (List.mem_of_getElem? (i := 22) rfl))) Via.refl e9 (own_Ob_t B6.1) (g := (mkF m 16 #[rv o, iv x1] [(.ref o), (.ref P)])) rfl rfl (hb hby d3_16)
  refine own_pre (T' := T10) (f' := (mkF m 19 #[rv o, iv x1] [(.int (1 : Int32)), (.ref P)])) (fun t k => st10 t k) ?_
  refine own_pre (T' := T10) (f' := (mkF m 20 #[rv o, iv x1] [(.int v1)])) (fun t k => own_ldI X10 hx hZ e10 (own_An_vp B6) (by decide) rfl (g := (mkF m 19 #[rv o, iv x1] [(.int (1 : Int32)), (.ref P)])) rfl rfl (hb hby d3_19) t k) ?_
  refine oI1 X10 hx (hb hby d3_20) (pc' := 21) rfl rfl ?_
  refine oN X10 hx (hb hby d3_21) (pc' := 24) rfl (tlt l1).2.1 ?_
  refine oA1 X10 hx (hb hby d3_24) (pc' := 25) rfl rfl rfl ?_
  refine oD X10 hx (hb hby d3_25) (pc' := 26) rfl rfl ?_
  obtain ⟨T11, X11, e11, st11⟩ := getF X10 hx hZ hown (host := "") (Or.inl (hw _ (List.mem_of_getElem? (i := 22) rfl))) Via.refl e10 (own_Ob_t B6.1) (g := (mkF m 26 #[rv o, iv x1] [(.ref o), (.ref o)])) rfl rfl (hb hby d3_26)
  refine own_pre (T' := T11) (f' := (mkF m 29 #[rv o, iv x1] [(.int (1 : Int32)), (.ref o)])) (fun t k => st11 t k) ?_
  refine oC X11 hx (1 : Int32) (hb hby d3_29) (pc' := 30) rfl rfl ?_
  refine own_pre (T' := T11) (f' := (mkF m 31 #[rv o, iv x1] [(.int ((1 : Int32) + (1 : Int32))), (.ref o)])) (fun t k => XS.iadd X11.here hx rfl (hb hby d3_30) rfl k) ?_
  rw [show ((1 : Int32) + (1 : Int32)) = (2 : Int32) from by decide]
  obtain ⟨T12, h12, X12, e12, W12, st12⟩ := putF X11 hx hZ hown (host := "") (Or.inl (hw _ (List.mem_of_getElem? (i := 22) rfl))) Via.refl e11 (own_Ob_t B6.1) (own_Ob_E B6.1) (Or.inl (hw _ (List.mem_of_getElem? (i := 23) rfl))) (hw _ (List.mem_of_getElem? (i := 3) rfl)) (ty := .int) (by decide) rfl rfl (g := (mkF m 31 #[rv o, iv x1] [(.int (2 : Int32)), (.ref o)])) rfl rfl (hb hby d3_31)
  have N12 := Fr.snoc X12 N6 (own_Ob_g B6.1)
  have B12 : own_An Z hB h12 o P O kP kO [(.int v0), (.int v1), (.int v2), (.int v3), (.int v4), (.int v5), (.int v6), (.int v7)] [(.int u0), (.int u1), (.int u2), (.int u3), (.int u4), (.int u5), (.int u6), (.int u7)] (2 : Int32) (2 : Int32) := own_An_wt sn B6 W12
  refine own_pre (T' := T12) (f' := (mkF m 34 #[rv o, iv x1] [])) (fun t k => st12 t k) ?_
  refine oG X12 hx (hb hby d3_34) (pc' := 0) (by decide) (by decide) ?_
  refine oA1 X12 hx (hb hby d3_0) (pc' := 1) rfl rfl rfl ?_
  obtain ⟨T13, X13, e13, st13⟩ := getF X12 hx hZ hown (host := "") (Or.inl (hw _ (List.mem_of_getElem? (i := 22) rfl))) Via.refl e12 (own_Ob_t B12.1) (g := (mkF m 1 #[rv o, iv x1] [(.ref o)])) rfl rfl (hb hby d3_1)
  refine own_pre (T' := T13) (f' := (mkF m 4 #[rv o, iv x1] [(.int (2 : Int32))])) (fun t k => st13 t k) ?_
  refine oA1 X13 hx (hb hby d3_4) (pc' := 5) rfl rfl rfl ?_
  obtain ⟨T14, X14, e14, st14⟩ := getF X13 hx hZ hown (host := "") (Or.inl (hw _ (List.mem_of_getElem? (i := 24) rfl))) Via.refl e13 (own_Ob_s B12.1) (g := (mkF m 5 #[rv o, iv x1] [(.ref o), (.int (2 : Int32))])) rfl rfl (hb hby d3_5)
  refine own_pre (T' := T14) (f' := (mkF m 8 #[rv o, iv x1] [(.int (2 : Int32)), (.int (2 : Int32))])) (fun t k => st14 t k) ?_
  refine oY X14 hx (hb hby d3_8) (pc' := 37) (flt (by decide : ¬ ((2 : Int32) < (2 : Int32)))).2.1 (by decide) (by decide) ?_
  refine oA1 X14 hx (hb hby d3_37) (pc' := 38) rfl rfl rfl ?_
  obtain ⟨T15, X15, e15, st15⟩ := getF X14 hx hZ hown (host := "") (Or.inl (hw _ (List.mem_of_getElem? (i := 22) rfl))) Via.refl e14 (own_Ob_t B12.1) (g := (mkF m 38 #[rv o, iv x1] [(.ref o)])) rfl rfl (hb hby d3_38)
  refine own_pre (T' := T15) (f' := (mkF m 41 #[rv o, iv x1] [(.int (2 : Int32))])) (fun t k => st15 t k) ?_
  refine oA1 X15 hx (hb hby d3_41) (pc' := 42) rfl rfl rfl ?_
  obtain ⟨T16, X16, e16, st16⟩ := getF X15 hx hZ hown (host := "") (Or.inl (hw _ (List.mem_of_getElem? (i := 24) rfl))) Via.refl e15 (own_Ob_s B12.1) (g := (mkF m 42 #[rv o, iv x1] [(.ref o), (.int (2 : Int32))])) rfl rfl (hb hby d3_42)
  refine own_pre (T' := T16) (f' := (mkF m 45 #[rv o, iv x1] [(.int (2 : Int32)), (.int (2 : Int32))])) (fun t k => st16 t k) ?_
  refine oY X16 hx (hb hby d3_45) (pc' := 80) (flt (by decide : ¬ ((2 : Int32) < (2 : Int32)))).2.1 (by decide) (by decide) ?_
  refine oC X16 hx (-1 : Int32) (hb hby d3_80) (pc' := 81) rfl rfl ?_
  exact own_retI X16 hx hlk hret (hb hby d3_81) (by rw [e16]; exact ⟨rfl, N12, B12⟩) (by decide) (by decide)
set_option maxRecDepth 65536 in
set_option maxHeartbeats 40000000 in
theorem own_at_2_1_1_0 (l : Launch) (Z : State) (a0 : Array Value) (hw : ∀ d ∈ tables_1, d.before a0 Z = true) (ws : List Jvm.Cond) (w_NO_ANCHORS : Addr) (k_NO_ANCHORS : ClassId) (h0 : Heap) (F : own_F Z h0 w_NO_ANCHORS k_NO_ANCHORS) (hB : Heap) (Fb : own_F Z hB w_NO_ANCHORS k_NO_ANCHORS) (o : Addr) (P O : Addr) (kP kO : ClassId) (v0 v1 v2 v3 v4 v5 v6 v7 u0 u1 u2 u3 u4 u5 u6 u7 : Int32)  (B0 : own_An Z hB h0 o P O kP kO [(.int v0), (.int v1), (.int v2), (.int v3), (.int v4), (.int v5), (.int v6), (.int v7)] [(.int u0), (.int u1), (.int u2), (.int u3), (.int u4), (.int u5), (.int u6), (.int u7)] (2 : Int32) (1 : Int32)) (x1 : Int32) (l1 : ¬ (v1 < x1)) (eq : ¬ (v1 = x1)) :
    own_C l (⟨"com/example/orthonorm/orthonorm/sanskrit/Anchors", "takeAt", "(I)I"⟩ : MethodName) prog_37_method_5_code 2 (some .int) ws (own_R 0 0) #[(.ref o), (.int x1)] Z h0 (own_Q0 (some (.int (-1 : Int32))) h0) := by
  have F0 := F
  obtain ⟨S_NO_ANCHORS, E_NO_ANCHORS, V_NO_ANCHORS⟩ := F
  refine own_enter (LS := #[rv o, iv x1]) (plainFor_of_name (by first | (simp [plainName, overriddenIn, x]; done) | decide +kernel)) (fun m => by first | (simp [entryFrame, mkF, argsToLocals, Value.category, maxLocals]; done) | rfl) ?_
  intro p e s m below meth c s₁ hx hby hml hown0 hnm hret hlk hZ X0 e0 hsh
  have hown : s.vm.findClass "com/example/orthonorm/orthonorm/sanskrit/Anchors" = some m.cls := hown0
  have sn := own_snI hw
  have N0 := Fr.nil hB.size
  refine oA1 X0 hx (hb hby d3_0) (pc' := 1) rfl rfl rfl ?_
  obtain ⟨T1, X1, e1, st1⟩ := getF X0 hx hZ hown (host := "") (Or.inl (hw _ (List.mem_of_getElem? (i := 22) rfl))) Via.refl e0 (own_Ob_t B0.1) (g := (mkF m 1 #[rv o, iv x1] [(.ref o)])) rfl rfl (hb hby d3_1)
  refine own_pre (T' := T1) (f' := (mkF m 4 #[rv o, iv x1] [(.int (1 : Int32))])) (fun t k => st1 t k) ?_
  refine oA1 X1 hx (hb hby d3_4) (pc' := 5) rfl rfl rfl ?_
  obtain ⟨T2, X2, e2, st2⟩ := getF X1 hx hZ hown (host := "") (Or.inl (hw _ (List.mem_of_getElem? (i := 24) rfl))) Via.refl e1 (own_Ob_s B0.1) (g := (mkF m 5 #[rv o, iv x1] [(.ref o), (.int (1 : Int32))])) rfl rfl (hb hby d3_5)
  refine own_pre (T' := T2) (f' := (mkF m 8 #[rv o, iv x1] [(.int (2 : Int32)), (.int (1 : Int32))])) (fun t k => st2 t k) ?_
  refine oN X2 hx (hb hby d3_8) (pc' := 11) rfl (tlt (by decide : (1 : Int32) < (2 : Int32))).2.1 ?_
  refine oA1 X2 hx (hb hby d3_11) (pc' := 12) rfl rfl rfl ?_
  obtain ⟨T3, X3, e3, st3⟩ := getF X2 hx hZ hown (host := "") (Or.inl (hw _ (List.mem_of_getElem? (i := 13) rfl))) Via.refl e2 (own_Ob_p B0.1) (g := (mkF m 12 #[rv o, iv x1] [(.ref o)])) rfl rfl (hb hby d3_12)
  refine own_pre (T' := T3) (f' := (mkF m 15 #[rv o, iv x1] [(.ref P)])) (fun t k => st3 t k) ?_
  refine oA1 X3 hx (hb hby d3_15) (pc' := 16) rfl rfl rfl ?_
  obtain ⟨T4, X4, e4, st4⟩ := getF X3 hx hZ hown (host := "") (Or.inl (hw _ (List.mem_of_getElem? (i := 22) rfl))) Via.refl e3 (own_Ob_t B0.1) (g := (mkF m 16 #[rv o, iv x1] [(.ref o), (.ref P)])) rfl rfl (hb hby d3_16)
  refine own_pre (T' := T4) (f' := (mkF m 19 #[rv o, iv x1] [(.int (1 : Int32)), (.ref P)])) (fun t k => st4 t k) ?_
  refine own_pre (T' := T4) (f' := (mkF m 20 #[rv o, iv x1] [(.int v1)])) (fun t k => own_ldI X4 hx hZ e4 (own_An_vp B0) (by decide) rfl (g := (mkF m 19 #[rv o, iv x1] [(.int (1 : Int32)), (.ref P)])) rfl rfl (hb hby d3_19) t k) ?_
  refine oI1 X4 hx (hb hby d3_20) (pc' := 21) rfl rfl ?_
  refine oY X4 hx (hb hby d3_21) (pc' := 37) (flt l1).2.1 (by decide) (by decide) ?_
  refine oA1 X4 hx (hb hby d3_37) (pc' := 38) rfl rfl rfl ?_
  obtain ⟨T5, X5, e5, st5⟩ := getF X4 hx hZ hown (host := "") (Or.inl (hw _ (List.mem_of_getElem? (i := 22) rfl))) Via.refl e4 (own_Ob_t B0.1) (g := (mkF m 38 #[rv o, iv x1] [(.ref o)])) rfl rfl (hb hby d3_38)
  refine own_pre (T' := T5) (f' := (mkF m 41 #[rv o, iv x1] [(.int (1 : Int32))])) (fun t k => st5 t k) ?_
  refine oA1 X5 hx (hb hby d3_41) (pc' := 42) rfl rfl rfl ?_
  obtain ⟨T6, X6, e6, st6⟩ := getF X5 hx hZ hown (host := "") (Or.inl (hw _ (List.mem_of_getElem? (i := 24) rfl))) Via.refl e5 (own_Ob_s B0.1) (g := (mkF m 42 #[rv o, iv x1] [(.ref o), (.int (1 : Int32))])) rfl rfl (hb hby d3_42)
  refine own_pre (T' := T6) (f' := (mkF m 45 #[rv o, iv x1] [(.int (2 : Int32)), (.int (1 : Int32))])) (fun t k => st6 t k) ?_
  refine oN X6 hx (hb hby d3_45) (pc' := 48) rfl (tlt (by decide : (1 : Int32) < (2 : Int32))).2.1 ?_
  refine oA1 X6 hx (hb hby d3_48) (pc' := 49) rfl rfl rfl ?_
  obtain ⟨T7, X7, e7, st7⟩ := getF X6 hx hZ hown (host := "") (Or.inl (hw _ (List.mem_of_getElem? (i := 13) rfl))) Via.refl e6 (own_Ob_p B0.1) (g := (mkF m 49 #[rv o, iv x1] [(.ref o)])) rfl rfl (hb hby d3_49)
  refine own_pre (T' := T7) (f' := (mkF m 52 #[rv o, iv x1] [(.ref P)])) (fun t k => st7 t k) ?_
  refine oA1 X7 hx (hb hby d3_52) (pc' := 53) rfl rfl rfl ?_
  obtain ⟨T8, X8, e8, st8⟩ := getF X7 hx hZ hown (host := "") (Or.inl (hw _ (List.mem_of_getElem? (i := 22) rfl))) Via.refl e7 (own_Ob_t B0.1) (g := (mkF m 53 #[rv o, iv x1] [(.ref o), (.ref P)])) rfl rfl (hb hby d3_53)
  refine own_pre (T' := T8) (f' := (mkF m 56 #[rv o, iv x1] [(.int (1 : Int32)), (.ref P)])) (fun t k => st8 t k) ?_
  refine own_pre (T' := T8) (f' := (mkF m 57 #[rv o, iv x1] [(.int v1)])) (fun t k => own_ldI X8 hx hZ e8 (own_An_vp B0) (by decide) rfl (g := (mkF m 56 #[rv o, iv x1] [(.int (1 : Int32)), (.ref P)])) rfl rfl (hb hby d3_56) t k) ?_
  refine oI1 X8 hx (hb hby d3_57) (pc' := 58) rfl rfl ?_
  refine oY X8 hx (hb hby d3_58) (pc' := 80) (feq eq).2 (by decide) (by decide) ?_
  refine oC X8 hx (-1 : Int32) (hb hby d3_80) (pc' := 81) rfl rfl ?_
  exact own_retI X8 hx hlk hret (hb hby d3_81) (⟨rfl, e8, rfl⟩) (by decide) (by decide)
set_option maxRecDepth 65536 in
set_option maxHeartbeats 40000000 in
theorem own_at_2_1_1_1 (l : Launch) (Z : State) (a0 : Array Value) (hw : ∀ d ∈ tables_1, d.before a0 Z = true) (ws : List Jvm.Cond) (w_NO_ANCHORS : Addr) (k_NO_ANCHORS : ClassId) (h0 : Heap) (F : own_F Z h0 w_NO_ANCHORS k_NO_ANCHORS) (hB : Heap) (Fb : own_F Z hB w_NO_ANCHORS k_NO_ANCHORS) (o : Addr) (P O : Addr) (kP kO : ClassId) (v0 v1 v2 v3 v4 v5 v6 v7 u0 u1 u2 u3 u4 u5 u6 u7 : Int32)  (B0 : own_An Z hB h0 o P O kP kO [(.int v0), (.int v1), (.int v2), (.int v3), (.int v4), (.int v5), (.int v6), (.int v7)] [(.int u0), (.int u1), (.int u2), (.int u3), (.int u4), (.int u5), (.int u6), (.int u7)] (2 : Int32) (1 : Int32)) (x1 : Int32) (l1 : ¬ (v1 < x1)) (eq : v1 = x1) :
    own_C l (⟨"com/example/orthonorm/orthonorm/sanskrit/Anchors", "takeAt", "(I)I"⟩ : MethodName) prog_37_method_5_code 2 (some .int) ws (own_RC 0 0 0 0) #[(.ref o), (.int x1)] Z h0 (fun v h' L => v = (some (.int u1)) ∧ Fr hB.size L ∧ own_An Z hB h' o P O kP kO [(.int v0), (.int v1), (.int v2), (.int v3), (.int v4), (.int v5), (.int v6), (.int v7)] [(.int u0), (.int u1), (.int u2), (.int u3), (.int u4), (.int u5), (.int u6), (.int u7)] (2 : Int32) (2 : Int32)) := by
  have F0 := F
  obtain ⟨S_NO_ANCHORS, E_NO_ANCHORS, V_NO_ANCHORS⟩ := F
  refine own_enter (LS := #[rv o, iv x1]) (plainFor_of_name (by first | (simp [plainName, overriddenIn, x]; done) | decide +kernel)) (fun m => by first | (simp [entryFrame, mkF, argsToLocals, Value.category, maxLocals]; done) | rfl) ?_
  intro p e s m below meth c s₁ hx hby hml hown0 hnm hret hlk hZ X0 e0 hsh
  have hown : s.vm.findClass "com/example/orthonorm/orthonorm/sanskrit/Anchors" = some m.cls := hown0
  have sn := own_snI hw
  have N0 := Fr.nil hB.size
  refine oA1 X0 hx (hb hby d3_0) (pc' := 1) rfl rfl rfl ?_
  obtain ⟨T1, X1, e1, st1⟩ := getF X0 hx hZ hown (host := "") (Or.inl (hw _ (List.mem_of_getElem? (i := 22) rfl))) Via.refl e0 (own_Ob_t B0.1) (g := (mkF m 1 #[rv o, iv x1] [(.ref o)])) rfl rfl (hb hby d3_1)
  refine own_pre (T' := T1) (f' := (mkF m 4 #[rv o, iv x1] [(.int (1 : Int32))])) (fun t k => st1 t k) ?_
  refine oA1 X1 hx (hb hby d3_4) (pc' := 5) rfl rfl rfl ?_
  obtain ⟨T2, X2, e2, st2⟩ := getF X1 hx hZ hown (host := "") (Or.inl (hw _ (List.mem_of_getElem? (i := 24) rfl))) Via.refl e1 (own_Ob_s B0.1) (g := (mkF m 5 #[rv o, iv x1] [(.ref o), (.int (1 : Int32))])) rfl rfl (hb hby d3_5)
  refine own_pre (T' := T2) (f' := (mkF m 8 #[rv o, iv x1] [(.int (2 : Int32)), (.int (1 : Int32))])) (fun t k => st2 t k) ?_
  refine oN X2 hx (hb hby d3_8) (pc' := 11) rfl (tlt (by decide : (1 : Int32) < (2 : Int32))).2.1 ?_
  refine oA1 X2 hx (hb hby d3_11) (pc' := 12) rfl rfl rfl ?_
  obtain ⟨T3, X3, e3, st3⟩ := getF X2 hx hZ hown (host := "") (Or.inl (hw _ (List.mem_of_getElem? (i := 13) rfl))) Via.refl e2 (own_Ob_p B0.1) (g := (mkF m 12 #[rv o, iv x1] [(.ref o)])) rfl rfl (hb hby d3_12)
  refine own_pre (T' := T3) (f' := (mkF m 15 #[rv o, iv x1] [(.ref P)])) (fun t k => st3 t k) ?_
  refine oA1 X3 hx (hb hby d3_15) (pc' := 16) rfl rfl rfl ?_
  obtain ⟨T4, X4, e4, st4⟩ := getF X3 hx hZ hown (host := "") (Or.inl (hw _ (List.mem_of_getElem? (i := 22) rfl))) Via.refl e3 (own_Ob_t B0.1) (g := (mkF m 16 #[rv o, iv x1] [(.ref o), (.ref P)])) rfl rfl (hb hby d3_16)
  refine own_pre (T' := T4) (f' := (mkF m 19 #[rv o, iv x1] [(.int (1 : Int32)), (.ref P)])) (fun t k => st4 t k) ?_
  refine own_pre (T' := T4) (f' := (mkF m 20 #[rv o, iv x1] [(.int v1)])) (fun t k => own_ldI X4 hx hZ e4 (own_An_vp B0) (by decide) rfl (g := (mkF m 19 #[rv o, iv x1] [(.int (1 : Int32)), (.ref P)])) rfl rfl (hb hby d3_19) t k) ?_
  refine oI1 X4 hx (hb hby d3_20) (pc' := 21) rfl rfl ?_
  refine oY X4 hx (hb hby d3_21) (pc' := 37) (flt l1).2.1 (by decide) (by decide) ?_
  refine oA1 X4 hx (hb hby d3_37) (pc' := 38) rfl rfl rfl ?_
  obtain ⟨T5, X5, e5, st5⟩ := getF X4 hx hZ hown (host := "") (Or.inl (hw _ (List.mem_of_getElem? (i := 22) rfl))) Via.refl e4 (own_Ob_t B0.1) (g := (mkF m 38 #[rv o, iv x1] [(.ref o)])) rfl rfl (hb hby d3_38)
  refine own_pre (T' := T5) (f' := (mkF m 41 #[rv o, iv x1] [(.int (1 : Int32))])) (fun t k => st5 t k) ?_
  refine oA1 X5 hx (hb hby d3_41) (pc' := 42) rfl rfl rfl ?_
  obtain ⟨T6, X6, e6, st6⟩ := getF X5 hx hZ hown (host := "") (Or.inl (hw _ (List.mem_of_getElem? (i := 24) rfl))) Via.refl e5 (own_Ob_s B0.1) (g := (mkF m 42 #[rv o, iv x1] [(.ref o), (.int (1 : Int32))])) rfl rfl (hb hby d3_42)
  refine own_pre (T' := T6) (f' := (mkF m 45 #[rv o, iv x1] [(.int (2 : Int32)), (.int (1 : Int32))])) (fun t k => st6 t k) ?_
  refine oN X6 hx (hb hby d3_45) (pc' := 48) rfl (tlt (by decide : (1 : Int32) < (2 : Int32))).2.1 ?_
  refine oA1 X6 hx (hb hby d3_48) (pc' := 49) rfl rfl rfl ?_
  obtain ⟨T7, X7, e7, st7⟩ := getF X6 hx hZ hown (host := "") (Or.inl (hw _ (List.mem_of_getElem? (i := 13) rfl))) Via.refl e6 (own_Ob_p B0.1) (g := (mkF m 49 #[rv o, iv x1] [(.ref o)])) rfl rfl (hb hby d3_49)
  refine own_pre (T' := T7) (f' := (mkF m 52 #[rv o, iv x1] [(.ref P)])) (fun t k => st7 t k) ?_
  refine oA1 X7 hx (hb hby d3_52) (pc' := 53) rfl rfl rfl ?_
  obtain ⟨T8, X8, e8, st8⟩ := getF X7 hx hZ hown (host := "") (Or.inl (hw _ (List.mem_of_getElem? (i := 22) rfl))) Via.refl e7 (own_Ob_t B0.1) (g := (mkF m 53 #[rv o, iv x1] [(.ref o), (.ref P)])) rfl rfl (hb hby d3_53)
  refine own_pre (T' := T8) (f' := (mkF m 56 #[rv o, iv x1] [(.int (1 : Int32)), (.ref P)])) (fun t k => st8 t k) ?_
  refine own_pre (T' := T8) (f' := (mkF m 57 #[rv o, iv x1] [(.int v1)])) (fun t k => own_ldI X8 hx hZ e8 (own_An_vp B0) (by decide) rfl (g := (mkF m 56 #[rv o, iv x1] [(.int (1 : Int32)), (.ref P)])) rfl rfl (hb hby d3_56) t k) ?_
  refine oI1 X8 hx (hb hby d3_57) (pc' := 58) rfl rfl ?_
  refine oN X8 hx (hb hby d3_58) (pc' := 61) rfl (teq eq).2 ?_
  refine oA1 X8 hx (hb hby d3_61) (pc' := 62) rfl rfl rfl ?_
  obtain ⟨T9, X9, e9, st9⟩ := getF X8 hx hZ hown (host := "") (Or.inl (hw _ (List.mem_of_getElem? (i := 15) rfl))) Via.refl e8 (own_Ob_o B0.1) (g := (mkF m 62 #[rv o, iv x1] [(.ref o)])) rfl rfl (hb hby d3_62)
  refine own_pre (T' := T9) (f' := (mkF m 65 #[rv o, iv x1] [(.ref O)])) (fun t k => st9 t k) ?_
  refine oA1 X9 hx (hb hby d3_65) (pc' := 66) rfl rfl rfl ?_
  refine oD X9 hx (hb hby d3_66) (pc' := 67) rfl rfl ?_
  obtain ⟨T10, X10, e10, st10⟩ := getF X9 hx hZ hown (host := "") (Or.inl (hw _ (List.mem_of_getElem? (i := 22) rfl))) Via.refl e9 (own_Ob_t B0.1) (g := (mkF m 67 #[rv o, iv x1] [(.ref o), (.ref o), (.ref O)])) rfl rfl (hb hby d3_67)
  refine own_pre (T' := T10) (f' := (mkF m 70 #[rv o, iv x1] [(.int (1 : Int32)), (.ref o), (.ref O)])) (fun t k => st10 t k) ?_
  refine own_pre (T' := T10) (f' := (mkF m 71 #[rv o, iv x1] [(.int (1 : Int32)), (.ref o), (.int (1 : Int32)), (.ref O)])) (fun t k => XS.dupX1 X10.here hx rfl (hb hby d3_70) rfl rfl rfl k) ?_
  refine oC X10 hx (1 : Int32) (hb hby d3_71) (pc' := 72) rfl rfl ?_
  refine own_pre (T' := T10) (f' := (mkF m 73 #[rv o, iv x1] [(.int ((1 : Int32) + (1 : Int32))), (.ref o), (.int (1 : Int32)), (.ref O)])) (fun t k => XS.iadd X10.here hx rfl (hb hby d3_72) rfl k) ?_
  rw [show ((1 : Int32) + (1 : Int32)) = (2 : Int32) from by decide]
  obtain ⟨T11, h11, X11, e11, W11, st11⟩ := putF X10 hx hZ hown (host := "") (Or.inl (hw _ (List.mem_of_getElem? (i := 22) rfl))) Via.refl e10 (own_Ob_t B0.1) (own_Ob_E B0.1) (Or.inl (hw _ (List.mem_of_getElem? (i := 23) rfl))) (hw _ (List.mem_of_getElem? (i := 3) rfl)) (ty := .int) (by decide) rfl rfl (g := (mkF m 73 #[rv o, iv x1] [(.int (2 : Int32)), (.ref o), (.int (1 : Int32)), (.ref O)])) rfl rfl (hb hby d3_73)
  have N11 := Fr.snoc X11 N0 (own_Ob_g B0.1)
  have B11 : own_An Z hB h11 o P O kP kO [(.int v0), (.int v1), (.int v2), (.int v3), (.int v4), (.int v5), (.int v6), (.int v7)] [(.int u0), (.int u1), (.int u2), (.int u3), (.int u4), (.int u5), (.int u6), (.int u7)] (2 : Int32) (2 : Int32) := own_An_wt sn B0 W11
  refine own_pre (T' := T11) (f' := (mkF m 76 #[rv o, iv x1] [(.int (1 : Int32)), (.ref O)])) (fun t k => st11 t k) ?_
  refine own_pre (T' := T11) (f' := (mkF m 77 #[rv o, iv x1] [(.int u1)])) (fun t k => own_ldI X11 hx hZ e11 (own_An_vo B11) (by decide) rfl (g := (mkF m 76 #[rv o, iv x1] [(.int (1 : Int32)), (.ref O)])) rfl rfl (hb hby d3_76) t k) ?_
  refine oG X11 hx (hb hby d3_77) (pc' := 81) (by decide) (by decide) ?_
  exact own_retI X11 hx hlk hret (hb hby d3_81) (by rw [e11]; exact ⟨rfl, N11, B11⟩) (by decide) (by decide)
set_option maxRecDepth 65536 in
set_option maxHeartbeats 40000000 in
theorem own_at_2_1_2_0 (l : Launch) (Z : State) (a0 : Array Value) (hw : ∀ d ∈ tables_1, d.before a0 Z = true) (ws : List Jvm.Cond) (w_NO_ANCHORS : Addr) (k_NO_ANCHORS : ClassId) (h0 : Heap) (F : own_F Z h0 w_NO_ANCHORS k_NO_ANCHORS) (hB : Heap) (Fb : own_F Z hB w_NO_ANCHORS k_NO_ANCHORS) (o : Addr) (P O : Addr) (kP kO : ClassId) (v0 v1 v2 v3 v4 v5 v6 v7 u0 u1 u2 u3 u4 u5 u6 u7 : Int32)  (B0 : own_An Z hB h0 o P O kP kO [(.int v0), (.int v1), (.int v2), (.int v3), (.int v4), (.int v5), (.int v6), (.int v7)] [(.int u0), (.int u1), (.int u2), (.int u3), (.int u4), (.int u5), (.int u6), (.int u7)] (2 : Int32) (1 : Int32)) (x1 : Int32) (l1 : v1 < x1) :
    own_C l (⟨"com/example/orthonorm/orthonorm/sanskrit/Anchors", "takeAt", "(I)I"⟩ : MethodName) prog_37_method_5_code 2 (some .int) ws (own_RC 0 0 0 0) #[(.ref o), (.int x1)] Z h0 (fun v h' L => v = (some (.int (-1 : Int32))) ∧ Fr hB.size L ∧ own_An Z hB h' o P O kP kO [(.int v0), (.int v1), (.int v2), (.int v3), (.int v4), (.int v5), (.int v6), (.int v7)] [(.int u0), (.int u1), (.int u2), (.int u3), (.int u4), (.int u5), (.int u6), (.int u7)] (2 : Int32) (2 : Int32)) := by
  have F0 := F
  obtain ⟨S_NO_ANCHORS, E_NO_ANCHORS, V_NO_ANCHORS⟩ := F
  refine own_enter (LS := #[rv o, iv x1]) (plainFor_of_name (by first | (simp [plainName, overriddenIn, x]; done) | decide +kernel)) (fun m => by first | (simp [entryFrame, mkF, argsToLocals, Value.category, maxLocals]; done) | rfl) ?_
  intro p e s m below meth c s₁ hx hby hml hown0 hnm hret hlk hZ X0 e0 hsh
  have hown : s.vm.findClass "com/example/orthonorm/orthonorm/sanskrit/Anchors" = some m.cls := hown0
  have sn := own_snI hw
  have N0 := Fr.nil hB.size
  refine oA1 X0 hx (hb hby d3_0) (pc' := 1) rfl rfl rfl ?_
  obtain ⟨T1, X1, e1, st1⟩ := getF X0 hx hZ hown (host := "") (Or.inl (hw _ (List.mem_of_getElem? (i := 22) rfl))) Via.refl e0 (own_Ob_t B0.1) (g := (mkF m 1 #[rv o, iv x1] [(.ref o)])) rfl rfl (hb hby d3_1)
  refine own_pre (T' := T1) (f' := (mkF m 4 #[rv o, iv x1] [(.int (1 : Int32))])) (fun t k => st1 t k) ?_
  refine oA1 X1 hx (hb hby d3_4) (pc' := 5) rfl rfl rfl ?_
  obtain ⟨T2, X2, e2, st2⟩ := getF X1 hx hZ hown (host := "") (Or.inl (hw _ (List.mem_of_getElem? (i := 24) rfl))) Via.refl e1 (own_Ob_s B0.1) (g := (mkF m 5 #[rv o, iv x1] [(.ref o), (.int (1 : Int32))])) rfl rfl (hb hby d3_5)
  refine own_pre (T' := T2) (f' := (mkF m 8 #[rv o, iv x1] [(.int (2 : Int32)), (.int (1 : Int32))])) (fun t k => st2 t k) ?_
  refine oN X2 hx (hb hby d3_8) (pc' := 11) rfl (tlt (by decide : (1 : Int32) < (2 : Int32))).2.1 ?_
  refine oA1 X2 hx (hb hby d3_11) (pc' := 12) rfl rfl rfl ?_
  obtain ⟨T3, X3, e3, st3⟩ := getF X2 hx hZ hown (host := "") (Or.inl (hw _ (List.mem_of_getElem? (i := 13) rfl))) Via.refl e2 (own_Ob_p B0.1) (g := (mkF m 12 #[rv o, iv x1] [(.ref o)])) rfl rfl (hb hby d3_12)
  refine own_pre (T' := T3) (f' := (mkF m 15 #[rv o, iv x1] [(.ref P)])) (fun t k => st3 t k) ?_
  refine oA1 X3 hx (hb hby d3_15) (pc' := 16) rfl rfl rfl ?_
  obtain ⟨T4, X4, e4, st4⟩ := getF X3 hx hZ hown (host := "") (Or.inl (hw _ (List.mem_of_getElem? (i := 22) rfl))) Via.refl e3 (own_Ob_t B0.1) (g := (mkF m 16 #[rv o, iv x1] [(.ref o), (.ref P)])) rfl rfl (hb hby d3_16)
  refine own_pre (T' := T4) (f' := (mkF m 19 #[rv o, iv x1] [(.int (1 : Int32)), (.ref P)])) (fun t k => st4 t k) ?_
  refine own_pre (T' := T4) (f' := (mkF m 20 #[rv o, iv x1] [(.int v1)])) (fun t k => own_ldI X4 hx hZ e4 (own_An_vp B0) (by decide) rfl (g := (mkF m 19 #[rv o, iv x1] [(.int (1 : Int32)), (.ref P)])) rfl rfl (hb hby d3_19) t k) ?_
  refine oI1 X4 hx (hb hby d3_20) (pc' := 21) rfl rfl ?_
  refine oN X4 hx (hb hby d3_21) (pc' := 24) rfl (tlt l1).2.1 ?_
  refine oA1 X4 hx (hb hby d3_24) (pc' := 25) rfl rfl rfl ?_
  refine oD X4 hx (hb hby d3_25) (pc' := 26) rfl rfl ?_
  obtain ⟨T5, X5, e5, st5⟩ := getF X4 hx hZ hown (host := "") (Or.inl (hw _ (List.mem_of_getElem? (i := 22) rfl))) Via.refl e4 (own_Ob_t B0.1) (g := (mkF m 26 #[rv o, iv x1] [(.ref o), (.ref o)])) rfl rfl (hb hby d3_26)
  refine own_pre (T' := T5) (f' := (mkF m 29 #[rv o, iv x1] [(.int (1 : Int32)), (.ref o)])) (fun t k => st5 t k) ?_
  refine oC X5 hx (1 : Int32) (hb hby d3_29) (pc' := 30) rfl rfl ?_
  refine own_pre (T' := T5) (f' := (mkF m 31 #[rv o, iv x1] [(.int ((1 : Int32) + (1 : Int32))), (.ref o)])) (fun t k => XS.iadd X5.here hx rfl (hb hby d3_30) rfl k) ?_
  rw [show ((1 : Int32) + (1 : Int32)) = (2 : Int32) from by decide]
  obtain ⟨T6, h6, X6, e6, W6, st6⟩ := putF X5 hx hZ hown (host := "") (Or.inl (hw _ (List.mem_of_getElem? (i := 22) rfl))) Via.refl e5 (own_Ob_t B0.1) (own_Ob_E B0.1) (Or.inl (hw _ (List.mem_of_getElem? (i := 23) rfl))) (hw _ (List.mem_of_getElem? (i := 3) rfl)) (ty := .int) (by decide) rfl rfl (g := (mkF m 31 #[rv o, iv x1] [(.int (2 : Int32)), (.ref o)])) rfl rfl (hb hby d3_31)
  have N6 := Fr.snoc X6 N0 (own_Ob_g B0.1)
  have B6 : own_An Z hB h6 o P O kP kO [(.int v0), (.int v1), (.int v2), (.int v3), (.int v4), (.int v5), (.int v6), (.int v7)] [(.int u0), (.int u1), (.int u2), (.int u3), (.int u4), (.int u5), (.int u6), (.int u7)] (2 : Int32) (2 : Int32) := own_An_wt sn B0 W6
  refine own_pre (T' := T6) (f' := (mkF m 34 #[rv o, iv x1] [])) (fun t k => st6 t k) ?_
  refine oG X6 hx (hb hby d3_34) (pc' := 0) (by decide) (by decide) ?_
  refine oA1 X6 hx (hb hby d3_0) (pc' := 1) rfl rfl rfl ?_
  obtain ⟨T7, X7, e7, st7⟩ := getF X6 hx hZ hown (host := "") (Or.inl (hw _ (List.mem_of_getElem? (i := 22) rfl))) Via.refl e6 (own_Ob_t B6.1) (g := (mkF m 1 #[rv o, iv x1] [(.ref o)])) rfl rfl (hb hby d3_1)
  refine own_pre (T' := T7) (f' := (mkF m 4 #[rv o, iv x1] [(.int (2 : Int32))])) (fun t k => st7 t k) ?_
  refine oA1 X7 hx (hb hby d3_4) (pc' := 5) rfl rfl rfl ?_
  obtain ⟨T8, X8, e8, st8⟩ := getF X7 hx hZ hown (host := "") (Or.inl (hw _ (List.mem_of_getElem? (i := 24) rfl))) Via.refl e7 (own_Ob_s B6.1) (g := (mkF m 5 #[rv o, iv x1] [(.ref o), (.int (2 : Int32))])) rfl rfl (hb hby d3_5)
  refine own_pre (T' := T8) (f' := (mkF m 8 #[rv o, iv x1] [(.int (2 : Int32)), (.int (2 : Int32))])) (fun t k => st8 t k) ?_
  refine oY X8 hx (hb hby d3_8) (pc' := 37) (flt (by decide : ¬ ((2 : Int32) < (2 : Int32)))).2.1 (by decide) (by decide) ?_
  refine oA1 X8 hx (hb hby d3_37) (pc' := 38) rfl rfl rfl ?_
  obtain ⟨T9, X9, e9, st9⟩ := getF X8 hx hZ hown (host := "") (Or.inl (hw _ (List.mem_of_getElem? (i := 22) rfl))) Via.refl e8 (own_Ob_t B6.1) (g := (mkF m 38 #[rv o, iv x1] [(.ref o)])) rfl rfl (hb hby d3_38)
  refine own_pre (T' := T9) (f' := (mkF m 41 #[rv o, iv x1] [(.int (2 : Int32))])) (fun t k => st9 t k) ?_
  refine oA1 X9 hx (hb hby d3_41) (pc' := 42) rfl rfl rfl ?_
  obtain ⟨T10, X10, e10, st10⟩ := getF X9 hx hZ hown (host := "") (Or.inl (hw _ (List.mem_of_getElem? (i := 24) rfl))) Via.refl e9 (own_Ob_s B6.1) (g := (mkF m 42 #[rv o, iv x1] [(.ref o), (.int (2 : Int32))])) rfl rfl (hb hby d3_42)
  refine own_pre (T' := T10) (f' := (mkF m 45 #[rv o, iv x1] [(.int (2 : Int32)), (.int (2 : Int32))])) (fun t k => st10 t k) ?_
  refine oY X10 hx (hb hby d3_45) (pc' := 80) (flt (by decide : ¬ ((2 : Int32) < (2 : Int32)))).2.1 (by decide) (by decide) ?_
  refine oC X10 hx (-1 : Int32) (hb hby d3_80) (pc' := 81) rfl rfl ?_
  exact own_retI X10 hx hlk hret (hb hby d3_81) (by rw [e10]; exact ⟨rfl, N6, B6⟩) (by decide) (by decide)
set_option maxRecDepth 65536 in
set_option maxHeartbeats 40000000 in
theorem own_at_3_0_0_0 (l : Launch) (Z : State) (a0 : Array Value) (hw : ∀ d ∈ tables_1, d.before a0 Z = true) (ws : List Jvm.Cond) (w_NO_ANCHORS : Addr) (k_NO_ANCHORS : ClassId) (h0 : Heap) (F : own_F Z h0 w_NO_ANCHORS k_NO_ANCHORS) (hB : Heap) (Fb : own_F Z hB w_NO_ANCHORS k_NO_ANCHORS) (o : Addr) (P O : Addr) (kP kO : ClassId) (v0 v1 v2 v3 v4 v5 v6 v7 u0 u1 u2 u3 u4 u5 u6 u7 : Int32)  (B0 : own_An Z hB h0 o P O kP kO [(.int v0), (.int v1), (.int v2), (.int v3), (.int v4), (.int v5), (.int v6), (.int v7)] [(.int u0), (.int u1), (.int u2), (.int u3), (.int u4), (.int u5), (.int u6), (.int u7)] (3 : Int32) (0 : Int32)) (x1 : Int32) (l0 : ¬ (v0 < x1)) (eq : ¬ (v0 = x1)) :
    own_C l (⟨"com/example/orthonorm/orthonorm/sanskrit/Anchors", "takeAt", "(I)I"⟩ : MethodName) prog_37_method_5_code 2 (some .int) ws (own_R 0 0) #[(.ref o), (.int x1)] Z h0 (own_Q0 (some (.int (-1 : Int32))) h0) := by
  have F0 := F
  obtain ⟨S_NO_ANCHORS, E_NO_ANCHORS, V_NO_ANCHORS⟩ := F
  refine own_enter (LS := #[rv o, iv x1]) (plainFor_of_name (by first | (simp [plainName, overriddenIn, x]; done) | decide +kernel)) (fun m => by first | (simp [entryFrame, mkF, argsToLocals, Value.category, maxLocals]; done) | rfl) ?_
  intro p e s m below meth c s₁ hx hby hml hown0 hnm hret hlk hZ X0 e0 hsh
  have hown : s.vm.findClass "com/example/orthonorm/orthonorm/sanskrit/Anchors" = some m.cls := hown0
  have sn := own_snI hw
  have N0 := Fr.nil hB.size
  refine oA1 X0 hx (hb hby d3_0) (pc' := 1) rfl rfl rfl ?_
  obtain ⟨T1, X1, e1, st1⟩ := getF X0 hx hZ hown (host := "") (Or.inl (hw _ (List.mem_of_getElem? (i := 22) rfl))) Via.refl e0 (own_Ob_t B0.1) (g := (mkF m 1 #[rv o, iv x1] [(.ref o)])) rfl rfl (hb hby d3_1)
  refine own_pre (T' := T1) (f' := (mkF m 4 #[rv o, iv x1] [(.int (0 : Int32))])) (fun t k => st1 t k) ?_
  refine oA1 X1 hx (hb hby d3_4) (pc' := 5) rfl rfl rfl ?_
  obtain ⟨T2, X2, e2, st2⟩ := getF X1 hx hZ hown (host := "") (Or.inl (hw _ (List.mem_of_getElem? (i := 24) rfl))) Via.refl e1 (own_Ob_s B0.1) (g := (mkF m 5 #[rv o, iv x1] [(.ref o), (.int (0 : Int32))])) rfl rfl (hb hby d3_5)
  refine own_pre (T' := T2) (f' := (mkF m 8 #[rv o, iv x1] [(.int (3 : Int32)), (.int (0 : Int32))])) (fun t k => st2 t k) ?_
  refine oN X2 hx (hb hby d3_8) (pc' := 11) rfl (tlt (by decide : (0 : Int32) < (3 : Int32))).2.1 ?_
  refine oA1 X2 hx (hb hby d3_11) (pc' := 12) rfl rfl rfl ?_
  obtain ⟨T3, X3, e3, st3⟩ := getF X2 hx hZ hown (host := "") (Or.inl (hw _ (List.mem_of_getElem? (i := 13) rfl))) Via.refl e2 (own_Ob_p B0.1) (g := (mkF m 12 #[rv o, iv x1] [(.ref o)])) rfl rfl (hb hby d3_12)
  refine own_pre (T' := T3) (f' := (mkF m 15 #[rv o, iv x1] [(.ref P)])) (fun t k => st3 t k) ?_
  refine oA1 X3 hx (hb hby d3_15) (pc' := 16) rfl rfl rfl ?_
  obtain ⟨T4, X4, e4, st4⟩ := getF X3 hx hZ hown (host := "") (Or.inl (hw _ (List.mem_of_getElem? (i := 22) rfl))) Via.refl e3 (own_Ob_t B0.1) (g := (mkF m 16 #[rv o, iv x1] [(.ref o), (.ref P)])) rfl rfl (hb hby d3_16)
  refine own_pre (T' := T4) (f' := (mkF m 19 #[rv o, iv x1] [(.int (0 : Int32)), (.ref P)])) (fun t k => st4 t k) ?_
  refine own_pre (T' := T4) (f' := (mkF m 20 #[rv o, iv x1] [(.int v0)])) (fun t k => own_ldI X4 hx hZ e4 (own_An_vp B0) (by decide) rfl (g := (mkF m 19 #[rv o, iv x1] [(.int (0 : Int32)), (.ref P)])) rfl rfl (hb hby d3_19) t k) ?_
  refine oI1 X4 hx (hb hby d3_20) (pc' := 21) rfl rfl ?_
  refine oY X4 hx (hb hby d3_21) (pc' := 37) (flt l0).2.1 (by decide) (by decide) ?_
  refine oA1 X4 hx (hb hby d3_37) (pc' := 38) rfl rfl rfl ?_
  obtain ⟨T5, X5, e5, st5⟩ := getF X4 hx hZ hown (host := "") (Or.inl (hw _ (List.mem_of_getElem? (i := 22) rfl))) Via.refl e4 (own_Ob_t B0.1) (g := (mkF m 38 #[rv o, iv x1] [(.ref o)])) rfl rfl (hb hby d3_38)
  refine own_pre (T' := T5) (f' := (mkF m 41 #[rv o, iv x1] [(.int (0 : Int32))])) (fun t k => st5 t k) ?_
  refine oA1 X5 hx (hb hby d3_41) (pc' := 42) rfl rfl rfl ?_
  obtain ⟨T6, X6, e6, st6⟩ := getF X5 hx hZ hown (host := "") (Or.inl (hw _ (List.mem_of_getElem? (i := 24) rfl))) Via.refl e5 (own_Ob_s B0.1) (g := (mkF m 42 #[rv o, iv x1] [(.ref o), (.int (0 : Int32))])) rfl rfl (hb hby d3_42)
  refine own_pre (T' := T6) (f' := (mkF m 45 #[rv o, iv x1] [(.int (3 : Int32)), (.int (0 : Int32))])) (fun t k => st6 t k) ?_
  refine oN X6 hx (hb hby d3_45) (pc' := 48) rfl (tlt (by decide : (0 : Int32) < (3 : Int32))).2.1 ?_
  refine oA1 X6 hx (hb hby d3_48) (pc' := 49) rfl rfl rfl ?_
  obtain ⟨T7, X7, e7, st7⟩ := getF X6 hx hZ hown (host := "") (Or.inl (hw _ (List.mem_of_getElem? (i := 13) rfl))) Via.refl e6 (own_Ob_p B0.1) (g := (mkF m 49 #[rv o, iv x1] [(.ref o)])) rfl rfl (hb hby d3_49)
  refine own_pre (T' := T7) (f' := (mkF m 52 #[rv o, iv x1] [(.ref P)])) (fun t k => st7 t k) ?_
  refine oA1 X7 hx (hb hby d3_52) (pc' := 53) rfl rfl rfl ?_
  obtain ⟨T8, X8, e8, st8⟩ := getF X7 hx hZ hown (host := "") (Or.inl (hw _ (List.mem_of_getElem? (i := 22) rfl))) Via.refl e7 (own_Ob_t B0.1) (g := (mkF m 53 #[rv o, iv x1] [(.ref o), (.ref P)])) rfl rfl (hb hby d3_53)
  refine own_pre (T' := T8) (f' := (mkF m 56 #[rv o, iv x1] [(.int (0 : Int32)), (.ref P)])) (fun t k => st8 t k) ?_
  refine own_pre (T' := T8) (f' := (mkF m 57 #[rv o, iv x1] [(.int v0)])) (fun t k => own_ldI X8 hx hZ e8 (own_An_vp B0) (by decide) rfl (g := (mkF m 56 #[rv o, iv x1] [(.int (0 : Int32)), (.ref P)])) rfl rfl (hb hby d3_56) t k) ?_
  refine oI1 X8 hx (hb hby d3_57) (pc' := 58) rfl rfl ?_
  refine oY X8 hx (hb hby d3_58) (pc' := 80) (feq eq).2 (by decide) (by decide) ?_
  refine oC X8 hx (-1 : Int32) (hb hby d3_80) (pc' := 81) rfl rfl ?_
  exact own_retI X8 hx hlk hret (hb hby d3_81) (⟨rfl, e8, rfl⟩) (by decide) (by decide)
set_option maxRecDepth 65536 in
set_option maxHeartbeats 40000000 in
theorem own_at_3_0_0_1 (l : Launch) (Z : State) (a0 : Array Value) (hw : ∀ d ∈ tables_1, d.before a0 Z = true) (ws : List Jvm.Cond) (w_NO_ANCHORS : Addr) (k_NO_ANCHORS : ClassId) (h0 : Heap) (F : own_F Z h0 w_NO_ANCHORS k_NO_ANCHORS) (hB : Heap) (Fb : own_F Z hB w_NO_ANCHORS k_NO_ANCHORS) (o : Addr) (P O : Addr) (kP kO : ClassId) (v0 v1 v2 v3 v4 v5 v6 v7 u0 u1 u2 u3 u4 u5 u6 u7 : Int32)  (B0 : own_An Z hB h0 o P O kP kO [(.int v0), (.int v1), (.int v2), (.int v3), (.int v4), (.int v5), (.int v6), (.int v7)] [(.int u0), (.int u1), (.int u2), (.int u3), (.int u4), (.int u5), (.int u6), (.int u7)] (3 : Int32) (0 : Int32)) (x1 : Int32) (l0 : ¬ (v0 < x1)) (eq : v0 = x1) :
    own_C l (⟨"com/example/orthonorm/orthonorm/sanskrit/Anchors", "takeAt", "(I)I"⟩ : MethodName) prog_37_method_5_code 2 (some .int) ws (own_RC 0 0 0 0) #[(.ref o), (.int x1)] Z h0 (fun v h' L => v = (some (.int u0)) ∧ Fr hB.size L ∧ own_An Z hB h' o P O kP kO [(.int v0), (.int v1), (.int v2), (.int v3), (.int v4), (.int v5), (.int v6), (.int v7)] [(.int u0), (.int u1), (.int u2), (.int u3), (.int u4), (.int u5), (.int u6), (.int u7)] (3 : Int32) (1 : Int32)) := by
  have F0 := F
  obtain ⟨S_NO_ANCHORS, E_NO_ANCHORS, V_NO_ANCHORS⟩ := F
  refine own_enter (LS := #[rv o, iv x1]) (plainFor_of_name (by first | (simp [plainName, overriddenIn, x]; done) | decide +kernel)) (fun m => by first | (simp [entryFrame, mkF, argsToLocals, Value.category, maxLocals]; done) | rfl) ?_
  intro p e s m below meth c s₁ hx hby hml hown0 hnm hret hlk hZ X0 e0 hsh
  have hown : s.vm.findClass "com/example/orthonorm/orthonorm/sanskrit/Anchors" = some m.cls := hown0
  have sn := own_snI hw
  have N0 := Fr.nil hB.size
  refine oA1 X0 hx (hb hby d3_0) (pc' := 1) rfl rfl rfl ?_
  obtain ⟨T1, X1, e1, st1⟩ := getF X0 hx hZ hown (host := "") (Or.inl (hw _ (List.mem_of_getElem? (i := 22) rfl))) Via.refl e0 (own_Ob_t B0.1) (g := (mkF m 1 #[rv o, iv x1] [(.ref o)])) rfl rfl (hb hby d3_1)
  refine own_pre (T' := T1) (f' := (mkF m 4 #[rv o, iv x1] [(.int (0 : Int32))])) (fun t k => st1 t k) ?_
  refine oA1 X1 hx (hb hby d3_4) (pc' := 5) rfl rfl rfl ?_
  obtain ⟨T2, X2, e2, st2⟩ := getF X1 hx hZ hown (host := "") (Or.inl (hw _ (List.mem_of_getElem? (i := 24) rfl))) Via.refl e1 (own_Ob_s B0.1) (g := (mkF m 5 #[rv o, iv x1] [(.ref o), (.int (0 : Int32))])) rfl rfl (hb hby d3_5)
  refine own_pre (T' := T2) (f' := (mkF m 8 #[rv o, iv x1] [(.int (3 : Int32)), (.int (0 : Int32))])) (fun t k => st2 t k) ?_
  refine oN X2 hx (hb hby d3_8) (pc' := 11) rfl (tlt (by decide : (0 : Int32) < (3 : Int32))).2.1 ?_
  refine oA1 X2 hx (hb hby d3_11) (pc' := 12) rfl rfl rfl ?_
  obtain ⟨T3, X3, e3, st3⟩ := getF X2 hx hZ hown (host := "") (Or.inl (hw _ (List.mem_of_getElem? (i := 13) rfl))) Via.refl e2 (own_Ob_p B0.1) (g := (mkF m 12 #[rv o, iv x1] [(.ref o)])) rfl rfl (hb hby d3_12)
  refine own_pre (T' := T3) (f' := (mkF m 15 #[rv o, iv x1] [(.ref P)])) (fun t k => st3 t k) ?_
  refine oA1 X3 hx (hb hby d3_15) (pc' := 16) rfl rfl rfl ?_
  obtain ⟨T4, X4, e4, st4⟩ := getF X3 hx hZ hown (host := "") (Or.inl (hw _ (List.mem_of_getElem? (i := 22) rfl))) Via.refl e3 (own_Ob_t B0.1) (g := (mkF m 16 #[rv o, iv x1] [(.ref o), (.ref P)])) rfl rfl (hb hby d3_16)
  refine own_pre (T' := T4) (f' := (mkF m 19 #[rv o, iv x1] [(.int (0 : Int32)), (.ref P)])) (fun t k => st4 t k) ?_
  refine own_pre (T' := T4) (f' := (mkF m 20 #[rv o, iv x1] [(.int v0)])) (fun t k => own_ldI X4 hx hZ e4 (own_An_vp B0) (by decide) rfl (g := (mkF m 19 #[rv o, iv x1] [(.int (0 : Int32)), (.ref P)])) rfl rfl (hb hby d3_19) t k) ?_
  refine oI1 X4 hx (hb hby d3_20) (pc' := 21) rfl rfl ?_
  refine oY X4 hx (hb hby d3_21) (pc' := 37) (flt l0).2.1 (by decide) (by decide) ?_
  refine oA1 X4 hx (hb hby d3_37) (pc' := 38) rfl rfl rfl ?_
  obtain ⟨T5, X5, e5, st5⟩ := getF X4 hx hZ hown (host := "") (Or.inl (hw _ (List.mem_of_getElem? (i := 22) rfl))) Via.refl e4 (own_Ob_t B0.1) (g := (mkF m 38 #[rv o, iv x1] [(.ref o)])) rfl rfl (hb hby d3_38)
  refine own_pre (T' := T5) (f' := (mkF m 41 #[rv o, iv x1] [(.int (0 : Int32))])) (fun t k => st5 t k) ?_
  refine oA1 X5 hx (hb hby d3_41) (pc' := 42) rfl rfl rfl ?_
  obtain ⟨T6, X6, e6, st6⟩ := getF X5 hx hZ hown (host := "") (Or.inl (hw _ (List.mem_of_getElem? (i := 24) rfl))) Via.refl e5 (own_Ob_s B0.1) (g := (mkF m 42 #[rv o, iv x1] [(.ref o), (.int (0 : Int32))])) rfl rfl (hb hby d3_42)
  refine own_pre (T' := T6) (f' := (mkF m 45 #[rv o, iv x1] [(.int (3 : Int32)), (.int (0 : Int32))])) (fun t k => st6 t k) ?_
  refine oN X6 hx (hb hby d3_45) (pc' := 48) rfl (tlt (by decide : (0 : Int32) < (3 : Int32))).2.1 ?_
  refine oA1 X6 hx (hb hby d3_48) (pc' := 49) rfl rfl rfl ?_
  obtain ⟨T7, X7, e7, st7⟩ := getF X6 hx hZ hown (host := "") (Or.inl (hw _ (List.mem_of_getElem? (i := 13) rfl))) Via.refl e6 (own_Ob_p B0.1) (g := (mkF m 49 #[rv o, iv x1] [(.ref o)])) rfl rfl (hb hby d3_49)
  refine own_pre (T' := T7) (f' := (mkF m 52 #[rv o, iv x1] [(.ref P)])) (fun t k => st7 t k) ?_
  refine oA1 X7 hx (hb hby d3_52) (pc' := 53) rfl rfl rfl ?_
  obtain ⟨T8, X8, e8, st8⟩ := getF X7 hx hZ hown (host := "") (Or.inl (hw _ (List.mem_of_getElem? (i := 22) rfl))) Via.refl e7 (own_Ob_t B0.1) (g := (mkF m 53 #[rv o, iv x1] [(.ref o), (.ref P)])) rfl rfl (hb hby d3_53)
  refine own_pre (T' := T8) (f' := (mkF m 56 #[rv o, iv x1] [(.int (0 : Int32)), (.ref P)])) (fun t k => st8 t k) ?_
  refine own_pre (T' := T8) (f' := (mkF m 57 #[rv o, iv x1] [(.int v0)])) (fun t k => own_ldI X8 hx hZ e8 (own_An_vp B0) (by decide) rfl (g := (mkF m 56 #[rv o, iv x1] [(.int (0 : Int32)), (.ref P)])) rfl rfl (hb hby d3_56) t k) ?_
  refine oI1 X8 hx (hb hby d3_57) (pc' := 58) rfl rfl ?_
  refine oN X8 hx (hb hby d3_58) (pc' := 61) rfl (teq eq).2 ?_
  refine oA1 X8 hx (hb hby d3_61) (pc' := 62) rfl rfl rfl ?_
  obtain ⟨T9, X9, e9, st9⟩ := getF X8 hx hZ hown (host := "") (Or.inl (hw _ (List.mem_of_getElem? (i := 15) rfl))) Via.refl e8 (own_Ob_o B0.1) (g := (mkF m 62 #[rv o, iv x1] [(.ref o)])) rfl rfl (hb hby d3_62)
  refine own_pre (T' := T9) (f' := (mkF m 65 #[rv o, iv x1] [(.ref O)])) (fun t k => st9 t k) ?_
  refine oA1 X9 hx (hb hby d3_65) (pc' := 66) rfl rfl rfl ?_
  refine oD X9 hx (hb hby d3_66) (pc' := 67) rfl rfl ?_
  obtain ⟨T10, X10, e10, st10⟩ := getF X9 hx hZ hown (host := "") (Or.inl (hw _ (List.mem_of_getElem? (i := 22) rfl))) Via.refl e9 (own_Ob_t B0.1) (g := (mkF m 67 #[rv o, iv x1] [(.ref o), (.ref o), (.ref O)])) rfl rfl (hb hby d3_67)
  refine own_pre (T' := T10) (f' := (mkF m 70 #[rv o, iv x1] [(.int (0 : Int32)), (.ref o), (.ref O)])) (fun t k => st10 t k) ?_
  refine own_pre (T' := T10) (f' := (mkF m 71 #[rv o, iv x1] [(.int (0 : Int32)), (.ref o), (.int (0 : Int32)), (.ref O)])) (fun t k => XS.dupX1 X10.here hx rfl (hb hby d3_70) rfl rfl rfl k) ?_
  refine oC X10 hx (1 : Int32) (hb hby d3_71) (pc' := 72) rfl rfl ?_
  refine own_pre (T' := T10) (f' := (mkF m 73 #[rv o, iv x1] [(.int ((0 : Int32) + (1 : Int32))), (.ref o), (.int (0 : Int32)), (.ref O)])) (fun t k => XS.iadd X10.here hx rfl (hb hby d3_72) rfl k) ?_
  rw [show ((0 : Int32) + (1 : Int32)) = (1 : Int32) from by decide]
  obtain ⟨T11, h11, X11, e11, W11, st11⟩ := putF X10 hx hZ hown (host := "") (Or.inl (hw _ (List.mem_of_getElem? (i := 22) rfl))) Via.refl e10 (own_Ob_t B0.1) (own_Ob_E B0.1) (Or.inl (hw _ (List.mem_of_getElem? (i := 23) rfl))) (hw _ (List.mem_of_getElem? (i := 3) rfl)) (ty := .int) (by decide) rfl rfl (g := (mkF m 73 #[rv o, iv x1] [(.int (1 : Int32)), (.ref o), (.int (0 : Int32)), (.ref O)])) rfl rfl (hb hby d3_73)
  have N11 := Fr.snoc X11 N0 (own_Ob_g B0.1)
  have B11 : own_An Z hB h11 o P O kP kO [(.int v0), (.int v1), (.int v2), (.int v3), (.int v4), (.int v5), (.int v6), (.int v7)] [(.int u0), (.int u1), (.int u2), (.int u3), (.int u4), (.int u5), (.int u6), (.int u7)] (3 : Int32) (1 : Int32) := own_An_wt sn B0 W11
  refine own_pre (T' := T11) (f' := (mkF m 76 #[rv o, iv x1] [(.int (0 : Int32)), (.ref O)])) (fun t k => st11 t k) ?_
  refine own_pre (T' := T11) (f' := (mkF m 77 #[rv o, iv x1] [(.int u0)])) (fun t k => own_ldI X11 hx hZ e11 (own_An_vo B11) (by decide) rfl (g := (mkF m 76 #[rv o, iv x1] [(.int (0 : Int32)), (.ref O)])) rfl rfl (hb hby d3_76) t k) ?_
  refine oG X11 hx (hb hby d3_77) (pc' := 81) (by decide) (by decide) ?_
  exact own_retI X11 hx hlk hret (hb hby d3_81) (by rw [e11]; exact ⟨rfl, N11, B11⟩) (by decide) (by decide)
set_option maxRecDepth 65536 in
set_option maxHeartbeats 40000000 in
theorem own_at_3_0_1_0 (l : Launch) (Z : State) (a0 : Array Value) (hw : ∀ d ∈ tables_1, d.before a0 Z = true) (ws : List Jvm.Cond) (w_NO_ANCHORS : Addr) (k_NO_ANCHORS : ClassId) (h0 : Heap) (F : own_F Z h0 w_NO_ANCHORS k_NO_ANCHORS) (hB : Heap) (Fb : own_F Z hB w_NO_ANCHORS k_NO_ANCHORS) (o : Addr) (P O : Addr) (kP kO : ClassId) (v0 v1 v2 v3 v4 v5 v6 v7 u0 u1 u2 u3 u4 u5 u6 u7 : Int32)  (B0 : own_An Z hB h0 o P O kP kO [(.int v0), (.int v1), (.int v2), (.int v3), (.int v4), (.int v5), (.int v6), (.int v7)] [(.int u0), (.int u1), (.int u2), (.int u3), (.int u4), (.int u5), (.int u6), (.int u7)] (3 : Int32) (0 : Int32)) (x1 : Int32) (l0 : v0 < x1) (l1 : ¬ (v1 < x1)) (eq : ¬ (v1 = x1)) :
    own_C l (⟨"com/example/orthonorm/orthonorm/sanskrit/Anchors", "takeAt", "(I)I"⟩ : MethodName) prog_37_method_5_code 2 (some .int) ws (own_RC 0 0 0 0) #[(.ref o), (.int x1)] Z h0 (fun v h' L => v = (some (.int (-1 : Int32))) ∧ Fr hB.size L ∧ own_An Z hB h' o P O kP kO [(.int v0), (.int v1), (.int v2), (.int v3), (.int v4), (.int v5), (.int v6), (.int v7)] [(.int u0), (.int u1), (.int u2), (.int u3), (.int u4), (.int u5), (.int u6), (.int u7)] (3 : Int32) (1 : Int32)) := by
  have F0 := F
  obtain ⟨S_NO_ANCHORS, E_NO_ANCHORS, V_NO_ANCHORS⟩ := F
  refine own_enter (LS := #[rv o, iv x1]) (plainFor_of_name (by first | (simp [plainName, overriddenIn, x]; done) | decide +kernel)) (fun m => by first | (simp [entryFrame, mkF, argsToLocals, Value.category, maxLocals]; done) | rfl) ?_
  intro p e s m below meth c s₁ hx hby hml hown0 hnm hret hlk hZ X0 e0 hsh
  have hown : s.vm.findClass "com/example/orthonorm/orthonorm/sanskrit/Anchors" = some m.cls := hown0
  have sn := own_snI hw
  have N0 := Fr.nil hB.size
  refine oA1 X0 hx (hb hby d3_0) (pc' := 1) rfl rfl rfl ?_
  obtain ⟨T1, X1, e1, st1⟩ := getF X0 hx hZ hown (host := "") (Or.inl (hw _ (List.mem_of_getElem? (i := 22) rfl))) Via.refl e0 (own_Ob_t B0.1) (g := (mkF m 1 #[rv o, iv x1] [(.ref o)])) rfl rfl (hb hby d3_1)
  refine own_pre (T' := T1) (f' := (mkF m 4 #[rv o, iv x1] [(.int (0 : Int32))])) (fun t k => st1 t k) ?_
  refine oA1 X1 hx (hb hby d3_4) (pc' := 5) rfl rfl rfl ?_
  obtain ⟨T2, X2, e2, st2⟩ := getF X1 hx hZ hown (host := "") (Or.inl (hw _ (List.mem_of_getElem? (i := 24) rfl))) Via.refl e1 (own_Ob_s B0.1) (g := (mkF m 5 #[rv o, iv x1] [(.ref o), (.int (0 : Int32))])) rfl rfl (hb hby d3_5)
  refine own_pre (T' := T2) (f' := (mkF m 8 #[rv o, iv x1] [(.int (3 : Int32)), (.int (0 : Int32))])) (fun t k => st2 t k) ?_
  refine oN X2 hx (hb hby d3_8) (pc' := 11) rfl (tlt (by decide : (0 : Int32) < (3 : Int32))).2.1 ?_
  refine oA1 X2 hx (hb hby d3_11) (pc' := 12) rfl rfl rfl ?_
  obtain ⟨T3, X3, e3, st3⟩ := getF X2 hx hZ hown (host := "") (Or.inl (hw _ (List.mem_of_getElem? (i := 13) rfl))) Via.refl e2 (own_Ob_p B0.1) (g := (mkF m 12 #[rv o, iv x1] [(.ref o)])) rfl rfl (hb hby d3_12)
  refine own_pre (T' := T3) (f' := (mkF m 15 #[rv o, iv x1] [(.ref P)])) (fun t k => st3 t k) ?_
  refine oA1 X3 hx (hb hby d3_15) (pc' := 16) rfl rfl rfl ?_
  obtain ⟨T4, X4, e4, st4⟩ := getF X3 hx hZ hown (host := "") (Or.inl (hw _ (List.mem_of_getElem? (i := 22) rfl))) Via.refl e3 (own_Ob_t B0.1) (g := (mkF m 16 #[rv o, iv x1] [(.ref o), (.ref P)])) rfl rfl (hb hby d3_16)
  refine own_pre (T' := T4) (f' := (mkF m 19 #[rv o, iv x1] [(.int (0 : Int32)), (.ref P)])) (fun t k => st4 t k) ?_
  refine own_pre (T' := T4) (f' := (mkF m 20 #[rv o, iv x1] [(.int v0)])) (fun t k => own_ldI X4 hx hZ e4 (own_An_vp B0) (by decide) rfl (g := (mkF m 19 #[rv o, iv x1] [(.int (0 : Int32)), (.ref P)])) rfl rfl (hb hby d3_19) t k) ?_
  refine oI1 X4 hx (hb hby d3_20) (pc' := 21) rfl rfl ?_
  refine oN X4 hx (hb hby d3_21) (pc' := 24) rfl (tlt l0).2.1 ?_
  refine oA1 X4 hx (hb hby d3_24) (pc' := 25) rfl rfl rfl ?_
  refine oD X4 hx (hb hby d3_25) (pc' := 26) rfl rfl ?_
  obtain ⟨T5, X5, e5, st5⟩ := getF X4 hx hZ hown (host := "") (Or.inl (hw _ (List.mem_of_getElem? (i := 22) rfl))) Via.refl e4 (own_Ob_t B0.1) (g := (mkF m 26 #[rv o, iv x1] [(.ref o), (.ref o)])) rfl rfl (hb hby d3_26)
  refine own_pre (T' := T5) (f' := (mkF m 29 #[rv o, iv x1] [(.int (0 : Int32)), (.ref o)])) (fun t k => st5 t k) ?_
  refine oC X5 hx (1 : Int32) (hb hby d3_29) (pc' := 30) rfl rfl ?_
  refine own_pre (T' := T5) (f' := (mkF m 31 #[rv o, iv x1] [(.int ((0 : Int32) + (1 : Int32))), (.ref o)])) (fun t k => XS.iadd X5.here hx rfl (hb hby d3_30) rfl k) ?_
  rw [show ((0 : Int32) + (1 : Int32)) = (1 : Int32) from by decide]
  obtain ⟨T6, h6, X6, e6, W6, st6⟩ := putF X5 hx hZ hown (host := "") (Or.inl (hw _ (List.mem_of_getElem? (i := 22) rfl))) Via.refl e5 (own_Ob_t B0.1) (own_Ob_E B0.1) (Or.inl (hw _ (List.mem_of_getElem? (i := 23) rfl))) (hw _ (List.mem_of_getElem? (i := 3) rfl)) (ty := .int) (by decide) rfl rfl (g := (mkF m 31 #[rv o, iv x1] [(.int (1 : Int32)), (.ref o)])) rfl rfl (hb hby d3_31)
  have N6 := Fr.snoc X6 N0 (own_Ob_g B0.1)
  have B6 : own_An Z hB h6 o P O kP kO [(.int v0), (.int v1), (.int v2), (.int v3), (.int v4), (.int v5), (.int v6), (.int v7)] [(.int u0), (.int u1), (.int u2), (.int u3), (.int u4), (.int u5), (.int u6), (.int u7)] (3 : Int32) (1 : Int32) := own_An_wt sn B0 W6
  refine own_pre (T' := T6) (f' := (mkF m 34 #[rv o, iv x1] [])) (fun t k => st6 t k) ?_
  refine oG X6 hx (hb hby d3_34) (pc' := 0) (by decide) (by decide) ?_
  refine oA1 X6 hx (hb hby d3_0) (pc' := 1) rfl rfl rfl ?_
  obtain ⟨T7, X7, e7, st7⟩ := getF X6 hx hZ hown (host := "") (Or.inl (hw _ (List.mem_of_getElem? (i := 22) rfl))) Via.refl e6 (own_Ob_t B6.1) (g := (mkF m 1 #[rv o, iv x1] [(.ref o)])) rfl rfl (hb hby d3_1)
  refine own_pre (T' := T7) (f' := (mkF m 4 #[rv o, iv x1] [(.int (1 : Int32))])) (fun t k => st7 t k) ?_
  refine oA1 X7 hx (hb hby d3_4) (pc' := 5) rfl rfl rfl ?_
  obtain ⟨T8, X8, e8, st8⟩ := getF X7 hx hZ hown (host := "") (Or.inl (hw _ (List.mem_of_getElem? (i := 24) rfl))) Via.refl e7 (own_Ob_s B6.1) (g := (mkF m 5 #[rv o, iv x1] [(.ref o), (.int (1 : Int32))])) rfl rfl (hb hby d3_5)
  refine own_pre (T' := T8) (f' := (mkF m 8 #[rv o, iv x1] [(.int (3 : Int32)), (.int (1 : Int32))])) (fun t k => st8 t k) ?_
  refine oN X8 hx (hb hby d3_8) (pc' := 11) rfl (tlt (by decide : (1 : Int32) < (3 : Int32))).2.1 ?_
  refine oA1 X8 hx (hb hby d3_11) (pc' := 12) rfl rfl rfl ?_
  obtain ⟨T9, X9, e9, st9⟩ := getF X8 hx hZ hown (host := "") (Or.inl (hw _ (List.mem_of_getElem? (i := 13) rfl))) Via.refl e8 (own_Ob_p B6.1) (g := (mkF m 12 #[rv o, iv x1] [(.ref o)])) rfl rfl (hb hby d3_12)
  refine own_pre (T' := T9) (f' := (mkF m 15 #[rv o, iv x1] [(.ref P)])) (fun t k => st9 t k) ?_
  refine oA1 X9 hx (hb hby d3_15) (pc' := 16) rfl rfl rfl ?_
  obtain ⟨T10, X10, e10, st10⟩ := getF X9 hx hZ hown (host := "") (Or.inl (hw _ (List.mem_of_getElem? (i := 22) rfl))) Via.refl e9 (own_Ob_t B6.1) (g := (mkF m 16 #[rv o, iv x1] [(.ref o), (.ref P)])) rfl rfl (hb hby d3_16)
  refine own_pre (T' := T10) (f' := (mkF m 19 #[rv o, iv x1] [(.int (1 : Int32)), (.ref P)])) (fun t k => st10 t k) ?_
  refine own_pre (T' := T10) (f' := (mkF m 20 #[rv o, iv x1] [(.int v1)])) (fun t k => own_ldI X10 hx hZ e10 (own_An_vp B6) (by decide) rfl (g := (mkF m 19 #[rv o, iv x1] [(.int (1 : Int32)), (.ref P)])) rfl rfl (hb hby d3_19) t k) ?_
  refine oI1 X10 hx (hb hby d3_20) (pc' := 21) rfl rfl ?_
  refine oY X10 hx (hb hby d3_21) (pc' := 37) (flt l1).2.1 (by decide) (by decide) ?_
  refine oA1 X10 hx (hb hby d3_37) (pc' := 38) rfl rfl rfl ?_
  obtain ⟨T11, X11, e11, st11⟩ := getF X10 hx hZ hown (host := "") (Or.inl (hw _ (List.mem_of_getElem? (i := 22) rfl))) Via.refl e10 (own_Ob_t B6.1) (g := (mkF m 38 #[rv o, iv x1] [(.ref o)])) rfl rfl (hb hby d3_38)
  refine own_pre (T' := T11) (f' := (mkF m 41 #[rv o, iv x1] [(.int (1 : Int32))])) (fun t k => st11 t k) ?_
  refine oA1 X11 hx (hb hby d3_41) (pc' := 42) rfl rfl rfl ?_
  obtain ⟨T12, X12, e12, st12⟩ := getF X11 hx hZ hown (host := "") (Or.inl (hw _ (List.mem_of_getElem? (i := 24) rfl))) Via.refl e11 (own_Ob_s B6.1) (g := (mkF m 42 #[rv o, iv x1] [(.ref o), (.int (1 : Int32))])) rfl rfl (hb hby d3_42)
  refine own_pre (T' := T12) (f' := (mkF m 45 #[rv o, iv x1] [(.int (3 : Int32)), (.int (1 : Int32))])) (fun t k => st12 t k) ?_
  refine oN X12 hx (hb hby d3_45) (pc' := 48) rfl (tlt (by decide : (1 : Int32) < (3 : Int32))).2.1 ?_
  refine oA1 X12 hx (hb hby d3_48) (pc' := 49) rfl rfl rfl ?_
  obtain ⟨T13, X13, e13, st13⟩ := getF X12 hx hZ hown (host := "") (Or.inl (hw _ (List.mem_of_getElem? (i := 13) rfl))) Via.refl e12 (own_Ob_p B6.1) (g := (mkF m 49 #[rv o, iv x1] [(.ref o)])) rfl rfl (hb hby d3_49)
  refine own_pre (T' := T13) (f' := (mkF m 52 #[rv o, iv x1] [(.ref P)])) (fun t k => st13 t k) ?_
  refine oA1 X13 hx (hb hby d3_52) (pc' := 53) rfl rfl rfl ?_
  obtain ⟨T14, X14, e14, st14⟩ := getF X13 hx hZ hown (host := "") (Or.inl (hw _ (List.mem_of_getElem? (i := 22) rfl))) Via.refl e13 (own_Ob_t B6.1) (g := (mkF m 53 #[rv o, iv x1] [(.ref o), (.ref P)])) rfl rfl (hb hby d3_53)
  refine own_pre (T' := T14) (f' := (mkF m 56 #[rv o, iv x1] [(.int (1 : Int32)), (.ref P)])) (fun t k => st14 t k) ?_
  refine own_pre (T' := T14) (f' := (mkF m 57 #[rv o, iv x1] [(.int v1)])) (fun t k => own_ldI X14 hx hZ e14 (own_An_vp B6) (by decide) rfl (g := (mkF m 56 #[rv o, iv x1] [(.int (1 : Int32)), (.ref P)])) rfl rfl (hb hby d3_56) t k) ?_
  refine oI1 X14 hx (hb hby d3_57) (pc' := 58) rfl rfl ?_
  refine oY X14 hx (hb hby d3_58) (pc' := 80) (feq eq).2 (by decide) (by decide) ?_
  refine oC X14 hx (-1 : Int32) (hb hby d3_80) (pc' := 81) rfl rfl ?_
  exact own_retI X14 hx hlk hret (hb hby d3_81) (by rw [e14]; exact ⟨rfl, N6, B6⟩) (by decide) (by decide)
set_option maxRecDepth 65536 in
set_option maxHeartbeats 40000000 in
theorem own_at_3_0_1_1 (l : Launch) (Z : State) (a0 : Array Value) (hw : ∀ d ∈ tables_1, d.before a0 Z = true) (ws : List Jvm.Cond) (w_NO_ANCHORS : Addr) (k_NO_ANCHORS : ClassId) (h0 : Heap) (F : own_F Z h0 w_NO_ANCHORS k_NO_ANCHORS) (hB : Heap) (Fb : own_F Z hB w_NO_ANCHORS k_NO_ANCHORS) (o : Addr) (P O : Addr) (kP kO : ClassId) (v0 v1 v2 v3 v4 v5 v6 v7 u0 u1 u2 u3 u4 u5 u6 u7 : Int32)  (B0 : own_An Z hB h0 o P O kP kO [(.int v0), (.int v1), (.int v2), (.int v3), (.int v4), (.int v5), (.int v6), (.int v7)] [(.int u0), (.int u1), (.int u2), (.int u3), (.int u4), (.int u5), (.int u6), (.int u7)] (3 : Int32) (0 : Int32)) (x1 : Int32) (l0 : v0 < x1) (l1 : ¬ (v1 < x1)) (eq : v1 = x1) :
    own_C l (⟨"com/example/orthonorm/orthonorm/sanskrit/Anchors", "takeAt", "(I)I"⟩ : MethodName) prog_37_method_5_code 2 (some .int) ws (own_RC 0 0 0 0) #[(.ref o), (.int x1)] Z h0 (fun v h' L => v = (some (.int u1)) ∧ Fr hB.size L ∧ own_An Z hB h' o P O kP kO [(.int v0), (.int v1), (.int v2), (.int v3), (.int v4), (.int v5), (.int v6), (.int v7)] [(.int u0), (.int u1), (.int u2), (.int u3), (.int u4), (.int u5), (.int u6), (.int u7)] (3 : Int32) (2 : Int32)) := by
  have F0 := F
  obtain ⟨S_NO_ANCHORS, E_NO_ANCHORS, V_NO_ANCHORS⟩ := F
  refine own_enter (LS := #[rv o, iv x1]) (plainFor_of_name (by first | (simp [plainName, overriddenIn, x]; done) | decide +kernel)) (fun m => by first | (simp [entryFrame, mkF, argsToLocals, Value.category, maxLocals]; done) | rfl) ?_
  intro p e s m below meth c s₁ hx hby hml hown0 hnm hret hlk hZ X0 e0 hsh
  have hown : s.vm.findClass "com/example/orthonorm/orthonorm/sanskrit/Anchors" = some m.cls := hown0
  have sn := own_snI hw
  have N0 := Fr.nil hB.size
  refine oA1 X0 hx (hb hby d3_0) (pc' := 1) rfl rfl rfl ?_
  obtain ⟨T1, X1, e1, st1⟩ := getF X0 hx hZ hown (host := "") (Or.inl (hw _ (List.mem_of_getElem? (i := 22) rfl))) Via.refl e0 (own_Ob_t B0.1) (g := (mkF m 1 #[rv o, iv x1] [(.ref o)])) rfl rfl (hb hby d3_1)
  refine own_pre (T' := T1) (f' := (mkF m 4 #[rv o, iv x1] [(.int (0 : Int32))])) (fun t k => st1 t k) ?_
  refine oA1 X1 hx (hb hby d3_4) (pc' := 5) rfl rfl rfl ?_
  obtain ⟨T2, X2, e2, st2⟩ := getF X1 hx hZ hown (host := "") (Or.inl (hw _ (List.mem_of_getElem? (i := 24) rfl))) Via.refl e1 (own_Ob_s B0.1) (g := (mkF m 5 #[rv o, iv x1] [(.ref o), (.int (0 : Int32))])) rfl rfl (hb hby d3_5)
  refine own_pre (T' := T2) (f' := (mkF m 8 #[rv o, iv x1] [(.int (3 : Int32)), (.int (0 : Int32))])) (fun t k => st2 t k) ?_
  refine oN X2 hx (hb hby d3_8) (pc' := 11) rfl (tlt (by decide : (0 : Int32) < (3 : Int32))).2.1 ?_
  refine oA1 X2 hx (hb hby d3_11) (pc' := 12) rfl rfl rfl ?_
  obtain ⟨T3, X3, e3, st3⟩ := getF X2 hx hZ hown (host := "") (Or.inl (hw _ (List.mem_of_getElem? (i := 13) rfl))) Via.refl e2 (own_Ob_p B0.1) (g := (mkF m 12 #[rv o, iv x1] [(.ref o)])) rfl rfl (hb hby d3_12)
  refine own_pre (T' := T3) (f' := (mkF m 15 #[rv o, iv x1] [(.ref P)])) (fun t k => st3 t k) ?_
  refine oA1 X3 hx (hb hby d3_15) (pc' := 16) rfl rfl rfl ?_
  obtain ⟨T4, X4, e4, st4⟩ := getF X3 hx hZ hown (host := "") (Or.inl (hw _ (List.mem_of_getElem? (i := 22) rfl))) Via.refl e3 (own_Ob_t B0.1) (g := (mkF m 16 #[rv o, iv x1] [(.ref o), (.ref P)])) rfl rfl (hb hby d3_16)
  refine own_pre (T' := T4) (f' := (mkF m 19 #[rv o, iv x1] [(.int (0 : Int32)), (.ref P)])) (fun t k => st4 t k) ?_
  refine own_pre (T' := T4) (f' := (mkF m 20 #[rv o, iv x1] [(.int v0)])) (fun t k => own_ldI X4 hx hZ e4 (own_An_vp B0) (by decide) rfl (g := (mkF m 19 #[rv o, iv x1] [(.int (0 : Int32)), (.ref P)])) rfl rfl (hb hby d3_19) t k) ?_
  refine oI1 X4 hx (hb hby d3_20) (pc' := 21) rfl rfl ?_
  refine oN X4 hx (hb hby d3_21) (pc' := 24) rfl (tlt l0).2.1 ?_
  refine oA1 X4 hx (hb hby d3_24) (pc' := 25) rfl rfl rfl ?_
  refine oD X4 hx (hb hby d3_25) (pc' := 26) rfl rfl ?_
  obtain ⟨T5, X5, e5, st5⟩ := getF X4 hx hZ hown (host := "") (Or.inl (hw _ (List.mem_of_getElem? (i := 22) rfl))) Via.refl e4 (own_Ob_t B0.1) (g := (mkF m 26 #[rv o, iv x1] [(.ref o), (.ref o)])) rfl rfl (hb hby d3_26)
  refine own_pre (T' := T5) (f' := (mkF m 29 #[rv o, iv x1] [(.int (0 : Int32)), (.ref o)])) (fun t k => st5 t k) ?_
  refine oC X5 hx (1 : Int32) (hb hby d3_29) (pc' := 30) rfl rfl ?_
  refine own_pre (T' := T5) (f' := (mkF m 31 #[rv o, iv x1] [(.int ((0 : Int32) + (1 : Int32))), (.ref o)])) (fun t k => XS.iadd X5.here hx rfl (hb hby d3_30) rfl k) ?_
  rw [show ((0 : Int32) + (1 : Int32)) = (1 : Int32) from by decide]
  obtain ⟨T6, h6, X6, e6, W6, st6⟩ := putF X5 hx hZ hown (host := "") (Or.inl (hw _ (List.mem_of_getElem? (i := 22) rfl))) Via.refl e5 (own_Ob_t B0.1) (own_Ob_E B0.1) (Or.inl (hw _ (List.mem_of_getElem? (i := 23) rfl))) (hw _ (List.mem_of_getElem? (i := 3) rfl)) (ty := .int) (by decide) rfl rfl (g := (mkF m 31 #[rv o, iv x1] [(.int (1 : Int32)), (.ref o)])) rfl rfl (hb hby d3_31)
  have N6 := Fr.snoc X6 N0 (own_Ob_g B0.1)
  have B6 : own_An Z hB h6 o P O kP kO [(.int v0), (.int v1), (.int v2), (.int v3), (.int v4), (.int v5), (.int v6), (.int v7)] [(.int u0), (.int u1), (.int u2), (.int u3), (.int u4), (.int u5), (.int u6), (.int u7)] (3 : Int32) (1 : Int32) := own_An_wt sn B0 W6
  refine own_pre (T' := T6) (f' := (mkF m 34 #[rv o, iv x1] [])) (fun t k => st6 t k) ?_
  refine oG X6 hx (hb hby d3_34) (pc' := 0) (by decide) (by decide) ?_
  refine oA1 X6 hx (hb hby d3_0) (pc' := 1) rfl rfl rfl ?_
  obtain ⟨T7, X7, e7, st7⟩ := getF X6 hx hZ hown (host := "") (Or.inl (hw _ (List.mem_of_getElem? (i := 22) rfl))) Via.refl e6 (own_Ob_t B6.1) (g := (mkF m 1 #[rv o, iv x1] [(.ref o)])) rfl rfl (hb hby d3_1)
  refine own_pre (T' := T7) (f' := (mkF m 4 #[rv o, iv x1] [(.int (1 : Int32))])) (fun t k => st7 t k) ?_
  refine oA1 X7 hx (hb hby d3_4) (pc' := 5) rfl rfl rfl ?_
  obtain ⟨T8, X8, e8, st8⟩ := getF X7 hx hZ hown (host := "") (Or.inl (hw _ (List.mem_of_getElem? (i := 24) rfl))) Via.refl e7 (own_Ob_s B6.1) (g := (mkF m 5 #[rv o, iv x1] [(.ref o), (.int (1 : Int32))])) rfl rfl (hb hby d3_5)
  refine own_pre (T' := T8) (f' := (mkF m 8 #[rv o, iv x1] [(.int (3 : Int32)), (.int (1 : Int32))])) (fun t k => st8 t k) ?_
  refine oN X8 hx (hb hby d3_8) (pc' := 11) rfl (tlt (by decide : (1 : Int32) < (3 : Int32))).2.1 ?_
  refine oA1 X8 hx (hb hby d3_11) (pc' := 12) rfl rfl rfl ?_
  obtain ⟨T9, X9, e9, st9⟩ := getF X8 hx hZ hown (host := "") (Or.inl (hw _ (List.mem_of_getElem? (i := 13) rfl))) Via.refl e8 (own_Ob_p B6.1) (g := (mkF m 12 #[rv o, iv x1] [(.ref o)])) rfl rfl (hb hby d3_12)
  refine own_pre (T' := T9) (f' := (mkF m 15 #[rv o, iv x1] [(.ref P)])) (fun t k => st9 t k) ?_
  refine oA1 X9 hx (hb hby d3_15) (pc' := 16) rfl rfl rfl ?_
  obtain ⟨T10, X10, e10, st10⟩ := getF X9 hx hZ hown (host := "") (Or.inl (hw _ (List.mem_of_getElem? (i := 22) rfl))) Via.refl e9 (own_Ob_t B6.1) (g := (mkF m 16 #[rv o, iv x1] [(.ref o), (.ref P)])) rfl rfl (hb hby d3_16)
  refine own_pre (T' := T10) (f' := (mkF m 19 #[rv o, iv x1] [(.int (1 : Int32)), (.ref P)])) (fun t k => st10 t k) ?_
  refine own_pre (T' := T10) (f' := (mkF m 20 #[rv o, iv x1] [(.int v1)])) (fun t k => own_ldI X10 hx hZ e10 (own_An_vp B6) (by decide) rfl (g := (mkF m 19 #[rv o, iv x1] [(.int (1 : Int32)), (.ref P)])) rfl rfl (hb hby d3_19) t k) ?_
  refine oI1 X10 hx (hb hby d3_20) (pc' := 21) rfl rfl ?_
  refine oY X10 hx (hb hby d3_21) (pc' := 37) (flt l1).2.1 (by decide) (by decide) ?_
  refine oA1 X10 hx (hb hby d3_37) (pc' := 38) rfl rfl rfl ?_
  obtain ⟨T11, X11, e11, st11⟩ := getF X10 hx hZ hown (host := "") (Or.inl (hw _ (List.mem_of_getElem? (i := 22) rfl))) Via.refl e10 (own_Ob_t B6.1) (g := (mkF m 38 #[rv o, iv x1] [(.ref o)])) rfl rfl (hb hby d3_38)
  refine own_pre (T' := T11) (f' := (mkF m 41 #[rv o, iv x1] [(.int (1 : Int32))])) (fun t k => st11 t k) ?_
  refine oA1 X11 hx (hb hby d3_41) (pc' := 42) rfl rfl rfl ?_
  obtain ⟨T12, X12, e12, st12⟩ := getF X11 hx hZ hown (host := "") (Or.inl (hw _ (List.mem_of_getElem? (i := 24) rfl))) Via.refl e11 (own_Ob_s B6.1) (g := (mkF m 42 #[rv o, iv x1] [(.ref o), (.int (1 : Int32))])) rfl rfl (hb hby d3_42)
  refine own_pre (T' := T12) (f' := (mkF m 45 #[rv o, iv x1] [(.int (3 : Int32)), (.int (1 : Int32))])) (fun t k => st12 t k) ?_
  refine oN X12 hx (hb hby d3_45) (pc' := 48) rfl (tlt (by decide : (1 : Int32) < (3 : Int32))).2.1 ?_
  refine oA1 X12 hx (hb hby d3_48) (pc' := 49) rfl rfl rfl ?_
  obtain ⟨T13, X13, e13, st13⟩ := getF X12 hx hZ hown (host := "") (Or.inl (hw _ (List.mem_of_getElem? (i := 13) rfl))) Via.refl e12 (own_Ob_p B6.1) (g := (mkF m 49 #[rv o, iv x1] [(.ref o)])) rfl rfl (hb hby d3_49)
  refine own_pre (T' := T13) (f' := (mkF m 52 #[rv o, iv x1] [(.ref P)])) (fun t k => st13 t k) ?_
  refine oA1 X13 hx (hb hby d3_52) (pc' := 53) rfl rfl rfl ?_
  obtain ⟨T14, X14, e14, st14⟩ := getF X13 hx hZ hown (host := "") (Or.inl (hw _ (List.mem_of_getElem? (i := 22) rfl))) Via.refl e13 (own_Ob_t B6.1) (g := (mkF m 53 #[rv o, iv x1] [(.ref o), (.ref P)])) rfl rfl (hb hby d3_53)
  refine own_pre (T' := T14) (f' := (mkF m 56 #[rv o, iv x1] [(.int (1 : Int32)), (.ref P)])) (fun t k => st14 t k) ?_
  refine own_pre (T' := T14) (f' := (mkF m 57 #[rv o, iv x1] [(.int v1)])) (fun t k => own_ldI X14 hx hZ e14 (own_An_vp B6) (by decide) rfl (g := (mkF m 56 #[rv o, iv x1] [(.int (1 : Int32)), (.ref P)])) rfl rfl (hb hby d3_56) t k) ?_
  refine oI1 X14 hx (hb hby d3_57) (pc' := 58) rfl rfl ?_
  refine oN X14 hx (hb hby d3_58) (pc' := 61) rfl (teq eq).2 ?_
  refine oA1 X14 hx (hb hby d3_61) (pc' := 62) rfl rfl rfl ?_
  obtain ⟨T15, X15, e15, st15⟩ := getF X14 hx hZ hown (host := "") (Or.inl (hw _ (List.mem_of_getElem? (i := 15) rfl))) Via.refl e14 (own_Ob_o B6.1) (g := (mkF m 62 #[rv o, iv x1] [(.ref o)])) rfl rfl (hb hby d3_62)
  refine own_pre (T' := T15) (f' := (mkF m 65 #[rv o, iv x1] [(.ref O)])) (fun t k => st15 t k) ?_
  refine oA1 X15 hx (hb hby d3_65) (pc' := 66) rfl rfl rfl ?_
  refine oD X15 hx (hb hby d3_66) (pc' := 67) rfl rfl ?_
  obtain ⟨T16, X16, e16, st16⟩ := getF X15 hx hZ hown (host := "") (Or.inl (hw _ (List.mem_of_getElem? (i := 22) rfl))) Via.refl e15 (own_Ob_t B6.1) (g := (mkF m 67 #[rv o, iv x1] [(.ref o), (.ref o), (.ref O)])) rfl rfl (hb hby d3_67)
  refine own_pre (T' := T16) (f' := (mkF m 70 #[rv o, iv x1] [(.int (1 : Int32)), (.ref o), (.ref O)])) (fun t k => st16 t k) ?_
  refine own_pre (T' := T16) (f' := (mkF m 71 #[rv o, iv x1] [(.int (1 : Int32)), (.ref o), (.int (1 : Int32)), (.ref O)])) (fun t k => XS.dupX1 X16.here hx rfl (hb hby d3_70) rfl rfl rfl k) ?_
  refine oC X16 hx (1 : Int32) (hb hby d3_71) (pc' := 72) rfl rfl ?_
  refine own_pre (T' := T16) (f' := (mkF m 73 #[rv o, iv x1] [(.int ((1 : Int32) + (1 : Int32))), (.ref o), (.int (1 : Int32)), (.ref O)])) (fun t k => XS.iadd X16.here hx rfl (hb hby d3_72) rfl k) ?_
  rw [show ((1 : Int32) + (1 : Int32)) = (2 : Int32) from by decide]
  obtain ⟨T17, h17, X17, e17, W17, st17⟩ := putF X16 hx hZ hown (host := "") (Or.inl (hw _ (List.mem_of_getElem? (i := 22) rfl))) Via.refl e16 (own_Ob_t B6.1) (own_Ob_E B6.1) (Or.inl (hw _ (List.mem_of_getElem? (i := 23) rfl))) (hw _ (List.mem_of_getElem? (i := 3) rfl)) (ty := .int) (by decide) rfl rfl (g := (mkF m 73 #[rv o, iv x1] [(.int (2 : Int32)), (.ref o), (.int (1 : Int32)), (.ref O)])) rfl rfl (hb hby d3_73)
  have N17 := Fr.snoc X17 N6 (own_Ob_g B6.1)
  have B17 : own_An Z hB h17 o P O kP kO [(.int v0), (.int v1), (.int v2), (.int v3), (.int v4), (.int v5), (.int v6), (.int v7)] [(.int u0), (.int u1), (.int u2), (.int u3), (.int u4), (.int u5), (.int u6), (.int u7)] (3 : Int32) (2 : Int32) := own_An_wt sn B6 W17
  refine own_pre (T' := T17) (f' := (mkF m 76 #[rv o, iv x1] [(.int (1 : Int32)), (.ref O)])) (fun t k => st17 t k) ?_
  refine own_pre (T' := T17) (f' := (mkF m 77 #[rv o, iv x1] [(.int u1)])) (fun t k => own_ldI X17 hx hZ e17 (own_An_vo B17) (by decide) rfl (g := (mkF m 76 #[rv o, iv x1] [(.int (1 : Int32)), (.ref O)])) rfl rfl (hb hby d3_76) t k) ?_
  refine oG X17 hx (hb hby d3_77) (pc' := 81) (by decide) (by decide) ?_
  exact own_retI X17 hx hlk hret (hb hby d3_81) (by rw [e17]; exact ⟨rfl, N17, B17⟩) (by decide) (by decide)
set_option maxRecDepth 65536 in
set_option maxHeartbeats 40000000 in
theorem own_at_3_0_2_0 (l : Launch) (Z : State) (a0 : Array Value) (hw : ∀ d ∈ tables_1, d.before a0 Z = true) (ws : List Jvm.Cond) (w_NO_ANCHORS : Addr) (k_NO_ANCHORS : ClassId) (h0 : Heap) (F : own_F Z h0 w_NO_ANCHORS k_NO_ANCHORS) (hB : Heap) (Fb : own_F Z hB w_NO_ANCHORS k_NO_ANCHORS) (o : Addr) (P O : Addr) (kP kO : ClassId) (v0 v1 v2 v3 v4 v5 v6 v7 u0 u1 u2 u3 u4 u5 u6 u7 : Int32)  (B0 : own_An Z hB h0 o P O kP kO [(.int v0), (.int v1), (.int v2), (.int v3), (.int v4), (.int v5), (.int v6), (.int v7)] [(.int u0), (.int u1), (.int u2), (.int u3), (.int u4), (.int u5), (.int u6), (.int u7)] (3 : Int32) (0 : Int32)) (x1 : Int32) (l0 : v0 < x1) (l1 : v1 < x1) (l2 : ¬ (v2 < x1)) (eq : ¬ (v2 = x1)) :
    own_C l (⟨"com/example/orthonorm/orthonorm/sanskrit/Anchors", "takeAt", "(I)I"⟩ : MethodName) prog_37_method_5_code 2 (some .int) ws (own_RC 0 0 0 0) #[(.ref o), (.int x1)] Z h0 (fun v h' L => v = (some (.int (-1 : Int32))) ∧ Fr hB.size L ∧ own_An Z hB h' o P O kP kO [(.int v0), (.int v1), (.int v2), (.int v3), (.int v4), (.int v5), (.int v6), (.int v7)] [(.int u0), (.int u1), (.int u2), (.int u3), (.int u4), (.int u5), (.int u6), (.int u7)] (3 : Int32) (2 : Int32)) := by
  have F0 := F
  obtain ⟨S_NO_ANCHORS, E_NO_ANCHORS, V_NO_ANCHORS⟩ := F
  refine own_enter (LS := #[rv o, iv x1]) (plainFor_of_name (by first | (simp [plainName, overriddenIn, x]; done) | decide +kernel)) (fun m => by first | (simp [entryFrame, mkF, argsToLocals, Value.category, maxLocals]; done) | rfl) ?_
  intro p e s m below meth c s₁ hx hby hml hown0 hnm hret hlk hZ X0 e0 hsh
  have hown : s.vm.findClass "com/example/orthonorm/orthonorm/sanskrit/Anchors" = some m.cls := hown0
  have sn := own_snI hw
  have N0 := Fr.nil hB.size
  refine oA1 X0 hx (hb hby d3_0) (pc' := 1) rfl rfl rfl ?_
  obtain ⟨T1, X1, e1, st1⟩ := getF X0 hx hZ hown (host := "") (Or.inl (hw _ (List.mem_of_getElem? (i := 22) rfl))) Via.refl e0 (own_Ob_t B0.1) (g := (mkF m 1 #[rv o, iv x1] [(.ref o)])) rfl rfl (hb hby d3_1)
  refine own_pre (T' := T1) (f' := (mkF m 4 #[rv o, iv x1] [(.int (0 : Int32))])) (fun t k => st1 t k) ?_
  refine oA1 X1 hx (hb hby d3_4) (pc' := 5) rfl rfl rfl ?_
  obtain ⟨T2, X2, e2, st2⟩ := getF X1 hx hZ hown (host := "") (Or.inl (hw _ (List.mem_of_getElem? (i := 24) rfl))) Via.refl e1 (own_Ob_s B0.1) (g := (mkF m 5 #[rv o, iv x1] [(.ref o), (.int (0 : Int32))])) rfl rfl (hb hby d3_5)
  refine own_pre (T' := T2) (f' := (mkF m 8 #[rv o, iv x1] [(.int (3 : Int32)), (.int (0 : Int32))])) (fun t k => st2 t k) ?_
  refine oN X2 hx (hb hby d3_8) (pc' := 11) rfl (tlt (by decide : (0 : Int32) < (3 : Int32))).2.1 ?_
  refine oA1 X2 hx (hb hby d3_11) (pc' := 12) rfl rfl rfl ?_
  obtain ⟨T3, X3, e3, st3⟩ := getF X2 hx hZ hown (host := "") (Or.inl (hw _ (List.mem_of_getElem? (i := 13) rfl))) Via.refl e2 (own_Ob_p B0.1) (g := (mkF m 12 #[rv o, iv x1] [(.ref o)])) rfl rfl (hb hby d3_12)
  refine own_pre (T' := T3) (f' := (mkF m 15 #[rv o, iv x1] [(.ref P)])) (fun t k => st3 t k) ?_
  refine oA1 X3 hx (hb hby d3_15) (pc' := 16) rfl rfl rfl ?_
  obtain ⟨T4, X4, e4, st4⟩ := getF X3 hx hZ hown (host := "") (Or.inl (hw _ (List.mem_of_getElem? (i := 22) rfl))) Via.refl e3 (own_Ob_t B0.1) (g := (mkF m 16 #[rv o, iv x1] [(.ref o), (.ref P)])) rfl rfl (hb hby d3_16)
  refine own_pre (T' := T4) (f' := (mkF m 19 #[rv o, iv x1] [(.int (0 : Int32)), (.ref P)])) (fun t k => st4 t k) ?_
  refine own_pre (T' := T4) (f' := (mkF m 20 #[rv o, iv x1] [(.int v0)])) (fun t k => own_ldI X4 hx hZ e4 (own_An_vp B0) (by decide) rfl (g := (mkF m 19 #[rv o, iv x1] [(.int (0 : Int32)), (.ref P)])) rfl rfl (hb hby d3_19) t k) ?_
  refine oI1 X4 hx (hb hby d3_20) (pc' := 21) rfl rfl ?_
  refine oN X4 hx (hb hby d3_21) (pc' := 24) rfl (tlt l0).2.1 ?_
  refine oA1 X4 hx (hb hby d3_24) (pc' := 25) rfl rfl rfl ?_
  refine oD X4 hx (hb hby d3_25) (pc' := 26) rfl rfl ?_
  obtain ⟨T5, X5, e5, st5⟩ := getF X4 hx hZ hown (host := "") (Or.inl (hw _ (List.mem_of_getElem? (i := 22) rfl))) Via.refl e4 (own_Ob_t B0.1) (g := (mkF m 26 #[rv o, iv x1] [(.ref o), (.ref o)])) rfl rfl (hb hby d3_26)
  refine own_pre (T' := T5) (f' := (mkF m 29 #[rv o, iv x1] [(.int (0 : Int32)), (.ref o)])) (fun t k => st5 t k) ?_
  refine oC X5 hx (1 : Int32) (hb hby d3_29) (pc' := 30) rfl rfl ?_
  refine own_pre (T' := T5) (f' := (mkF m 31 #[rv o, iv x1] [(.int ((0 : Int32) + (1 : Int32))), (.ref o)])) (fun t k => XS.iadd X5.here hx rfl (hb hby d3_30) rfl k) ?_
  rw [show ((0 : Int32) + (1 : Int32)) = (1 : Int32) from by decide]
  obtain ⟨T6, h6, X6, e6, W6, st6⟩ := putF X5 hx hZ hown (host := "") (Or.inl (hw _ (List.mem_of_getElem? (i := 22) rfl))) Via.refl e5 (own_Ob_t B0.1) (own_Ob_E B0.1) (Or.inl (hw _ (List.mem_of_getElem? (i := 23) rfl))) (hw _ (List.mem_of_getElem? (i := 3) rfl)) (ty := .int) (by decide) rfl rfl (g := (mkF m 31 #[rv o, iv x1] [(.int (1 : Int32)), (.ref o)])) rfl rfl (hb hby d3_31)
  have N6 := Fr.snoc X6 N0 (own_Ob_g B0.1)
  have B6 : own_An Z hB h6 o P O kP kO [(.int v0), (.int v1), (.int v2), (.int v3), (.int v4), (.int v5), (.int v6), (.int v7)] [(.int u0), (.int u1), (.int u2), (.int u3), (.int u4), (.int u5), (.int u6), (.int u7)] (3 : Int32) (1 : Int32) := own_An_wt sn B0 W6
  refine own_pre (T' := T6) (f' := (mkF m 34 #[rv o, iv x1] [])) (fun t k => st6 t k) ?_
  refine oG X6 hx (hb hby d3_34) (pc' := 0) (by decide) (by decide) ?_
  refine oA1 X6 hx (hb hby d3_0) (pc' := 1) rfl rfl rfl ?_
  obtain ⟨T7, X7, e7, st7⟩ := getF X6 hx hZ hown (host := "") (Or.inl (hw _ (List.mem_of_getElem? (i := 22) rfl))) Via.refl e6 (own_Ob_t B6.1) (g := (mkF m 1 #[rv o, iv x1] [(.ref o)])) rfl rfl (hb hby d3_1)
  refine own_pre (T' := T7) (f' := (mkF m 4 #[rv o, iv x1] [(.int (1 : Int32))])) (fun t k => st7 t k) ?_
  refine oA1 X7 hx (hb hby d3_4) (pc' := 5) rfl rfl rfl ?_
  obtain ⟨T8, X8, e8, st8⟩ := getF X7 hx hZ hown (host := "") (Or.inl (hw _ (List.mem_of_getElem? (i := 24) rfl))) Via.refl e7 (own_Ob_s B6.1) (g := (mkF m 5 #[rv o, iv x1] [(.ref o), (.int (1 : Int32))])) rfl rfl (hb hby d3_5)
  refine own_pre (T' := T8) (f' := (mkF m 8 #[rv o, iv x1] [(.int (3 : Int32)), (.int (1 : Int32))])) (fun t k => st8 t k) ?_
  refine oN X8 hx (hb hby d3_8) (pc' := 11) rfl (tlt (by decide : (1 : Int32) < (3 : Int32))).2.1 ?_
  refine oA1 X8 hx (hb hby d3_11) (pc' := 12) rfl rfl rfl ?_
  obtain ⟨T9, X9, e9, st9⟩ := getF X8 hx hZ hown (host := "") (Or.inl (hw _ (List.mem_of_getElem? (i := 13) rfl))) Via.refl e8 (own_Ob_p B6.1) (g := (mkF m 12 #[rv o, iv x1] [(.ref o)])) rfl rfl (hb hby d3_12)
  refine own_pre (T' := T9) (f' := (mkF m 15 #[rv o, iv x1] [(.ref P)])) (fun t k => st9 t k) ?_
  refine oA1 X9 hx (hb hby d3_15) (pc' := 16) rfl rfl rfl ?_
  obtain ⟨T10, X10, e10, st10⟩ := getF X9 hx hZ hown (host := "") (Or.inl (hw _ (List.mem_of_getElem? (i := 22) rfl))) Via.refl e9 (own_Ob_t B6.1) (g := (mkF m 16 #[rv o, iv x1] [(.ref o), (.ref P)])) rfl rfl (hb hby d3_16)
  refine own_pre (T' := T10) (f' := (mkF m 19 #[rv o, iv x1] [(.int (1 : Int32)), (.ref P)])) (fun t k => st10 t k) ?_
  refine own_pre (T' := T10) (f' := (mkF m 20 #[rv o, iv x1] [(.int v1)])) (fun t k => own_ldI X10 hx hZ e10 (own_An_vp B6) (by decide) rfl (g := (mkF m 19 #[rv o, iv x1] [(.int (1 : Int32)), (.ref P)])) rfl rfl (hb hby d3_19) t k) ?_
  refine oI1 X10 hx (hb hby d3_20) (pc' := 21) rfl rfl ?_
  refine oN X10 hx (hb hby d3_21) (pc' := 24) rfl (tlt l1).2.1 ?_
  refine oA1 X10 hx (hb hby d3_24) (pc' := 25) rfl rfl rfl ?_
  refine oD X10 hx (hb hby d3_25) (pc' := 26) rfl rfl ?_
  obtain ⟨T11, X11, e11, st11⟩ := getF X10 hx hZ hown (host := "") (Or.inl (hw _ (List.mem_of_getElem? (i := 22) rfl))) Via.refl e10 (own_Ob_t B6.1) (g := (mkF m 26 #[rv o, iv x1] [(.ref o), (.ref o)])) rfl rfl (hb hby d3_26)
  refine own_pre (T' := T11) (f' := (mkF m 29 #[rv o, iv x1] [(.int (1 : Int32)), (.ref o)])) (fun t k => st11 t k) ?_
  refine oC X11 hx (1 : Int32) (hb hby d3_29) (pc' := 30) rfl rfl ?_
  refine own_pre (T' := T11) (f' := (mkF m 31 #[rv o, iv x1] [(.int ((1 : Int32) + (1 : Int32))), (.ref o)])) (fun t k => XS.iadd X11.here hx rfl (hb hby d3_30) rfl k) ?_
  rw [show ((1 : Int32) + (1 : Int32)) = (2 : Int32) from by decide]
  obtain ⟨T12, h12, X12, e12, W12, st12⟩ := putF X11 hx hZ hown (host := "") (Or.inl (hw _ (List.mem_of_getElem? (i := 22) rfl))) Via.refl e11 (own_Ob_t B6.1) (own_Ob_E B6.1) (Or.inl (hw _ (List.mem_of_getElem? (i := 23) rfl))) (hw _ (List.mem_of_getElem? (i := 3) rfl)) (ty := .int) (by decide) rfl rfl (g := (mkF m 31 #[rv o, iv x1] [(.int (2 : Int32)), (.ref o)])) rfl rfl (hb hby d3_31)
  have N12 := Fr.snoc X12 N6 (own_Ob_g B6.1)
  have B12 : own_An Z hB h12 o P O kP kO [(.int v0), (.int v1), (.int v2), (.int v3), (.int v4), (.int v5), (.int v6), (.int v7)] [(.int u0), (.int u1), (.int u2), (.int u3), (.int u4), (.int u5), (.int u6), (.int u7)] (3 : Int32) (2 : Int32) := own_An_wt sn B6 W12
  refine own_pre (T' := T12) (f' := (mkF m 34 #[rv o, iv x1] [])) (fun t k => st12 t k) ?_
  refine oG X12 hx (hb hby d3_34) (pc' := 0) (by decide) (by decide) ?_
  refine oA1 X12 hx (hb hby d3_0) (pc' := 1) rfl rfl rfl ?_
  obtain ⟨T13, X13, e13, st13⟩ := getF X12 hx hZ hown (host := "") (Or.inl (hw _ (List.mem_of_getElem? (i := 22) rfl))) Via.refl e12 (own_Ob_t B12.1) (g := (mkF m 1 #[rv o, iv x1] [(.ref o)])) rfl rfl (hb hby d3_1)
  refine own_pre (T' := T13) (f' := (mkF m 4 #[rv o, iv x1] [(.int (2 : Int32))])) (fun t k => st13 t k) ?_
  refine oA1 X13 hx (hb hby d3_4) (pc' := 5) rfl rfl rfl ?_
  obtain ⟨T14, X14, e14, st14⟩ := getF X13 hx hZ hown (host := "") (Or.inl (hw _ (List.mem_of_getElem? (i := 24) rfl))) Via.refl e13 (own_Ob_s B12.1) (g := (mkF m 5 #[rv o, iv x1] [(.ref o), (.int (2 : Int32))])) rfl rfl (hb hby d3_5)
  refine own_pre (T' := T14) (f' := (mkF m 8 #[rv o, iv x1] [(.int (3 : Int32)), (.int (2 : Int32))])) (fun t k => st14 t k) ?_
  refine oN X14 hx (hb hby d3_8) (pc' := 11) rfl (tlt (by decide : (2 : Int32) < (3 : Int32))).2.1 ?_
  refine oA1 X14 hx (hb hby d3_11) (pc' := 12) rfl rfl rfl ?_
  obtain ⟨T15, X15, e15, st15⟩ := getF X14 hx hZ hown (host := "") (Or.inl (hw _ (List.mem_of_getElem? (i := 13) rfl))) Via.refl e14 (own_Ob_p B12.1) (g := (mkF m 12 #[rv o, iv x1] [(.ref o)])) rfl rfl (hb hby d3_12)
  refine own_pre (T' := T15) (f' := (mkF m 15 #[rv o, iv x1] [(.ref P)])) (fun t k => st15 t k) ?_
  refine oA1 X15 hx (hb hby d3_15) (pc' := 16) rfl rfl rfl ?_
  obtain ⟨T16, X16, e16, st16⟩ := getF X15 hx hZ hown (host := "") (Or.inl (hw _ (List.mem_of_getElem? (i := 22) rfl))) Via.refl e15 (own_Ob_t B12.1) (g := (mkF m 16 #[rv o, iv x1] [(.ref o), (.ref P)])) rfl rfl (hb hby d3_16)
  refine own_pre (T' := T16) (f' := (mkF m 19 #[rv o, iv x1] [(.int (2 : Int32)), (.ref P)])) (fun t k => st16 t k) ?_
  refine own_pre (T' := T16) (f' := (mkF m 20 #[rv o, iv x1] [(.int v2)])) (fun t k => own_ldI X16 hx hZ e16 (own_An_vp B12) (by decide) rfl (g := (mkF m 19 #[rv o, iv x1] [(.int (2 : Int32)), (.ref P)])) rfl rfl (hb hby d3_19) t k) ?_
  refine oI1 X16 hx (hb hby d3_20) (pc' := 21) rfl rfl ?_
  refine oY X16 hx (hb hby d3_21) (pc' := 37) (flt l2).2.1 (by decide) (by decide) ?_
  refine oA1 X16 hx (hb hby d3_37) (pc' := 38) rfl rfl rfl ?_
  obtain ⟨T17, X17, e17, st17⟩ := getF X16 hx hZ hown (host := "") (Or.inl (hw _ (List.mem_of_getElem? (i := 22) rfl))) Via.refl e16 (own_Ob_t B12.1) (g := (mkF m 38 #[rv o, iv x1] [(.ref o)])) rfl rfl (hb hby d3_38)
  refine own_pre (T' := T17) (f' := (mkF m 41 #[rv o, iv x1] [(.int (2 : Int32))])) (fun t k => st17 t k) ?_
  refine oA1 X17 hx (hb hby d3_41) (pc' := 42) rfl rfl rfl ?_
  obtain ⟨T18, X18, e18, st18⟩ := getF X17 hx hZ hown (host := "") (Or.inl (hw _ (List.mem_of_getElem? (i := 24) rfl))) Via.refl e17 (own_Ob_s B12.1) (g := (mkF m 42 #[rv o, iv x1] [(.ref o), (.int (2 : Int32))])) rfl rfl (hb hby d3_42)
  refine own_pre (T' := T18) (f' := (mkF m 45 #[rv o, iv x1] [(.int (3 : Int32)), (.int (2 : Int32))])) (fun t k => st18 t k) ?_
  refine oN X18 hx (hb hby d3_45) (pc' := 48) rfl (tlt (by decide : (2 : Int32) < (3 : Int32))).2.1 ?_
  refine oA1 X18 hx (hb hby d3_48) (pc' := 49) rfl rfl rfl ?_
  obtain ⟨T19, X19, e19, st19⟩ := getF X18 hx hZ hown (host := "") (Or.inl (hw _ (List.mem_of_getElem? (i := 13) rfl))) Via.refl e18 (own_Ob_p B12.1) (g := (mkF m 49 #[rv o, iv x1] [(.ref o)])) rfl rfl (hb hby d3_49)
  refine own_pre (T' := T19) (f' := (mkF m 52 #[rv o, iv x1] [(.ref P)])) (fun t k => st19 t k) ?_
  refine oA1 X19 hx (hb hby d3_52) (pc' := 53) rfl rfl rfl ?_
  obtain ⟨T20, X20, e20, st20⟩ := getF X19 hx hZ hown (host := "") (Or.inl (hw _ (List.mem_of_getElem? (i := 22) rfl))) Via.refl e19 (own_Ob_t B12.1) (g := (mkF m 53 #[rv o, iv x1] [(.ref o), (.ref P)])) rfl rfl (hb hby d3_53)
  refine own_pre (T' := T20) (f' := (mkF m 56 #[rv o, iv x1] [(.int (2 : Int32)), (.ref P)])) (fun t k => st20 t k) ?_
  refine own_pre (T' := T20) (f' := (mkF m 57 #[rv o, iv x1] [(.int v2)])) (fun t k => own_ldI X20 hx hZ e20 (own_An_vp B12) (by decide) rfl (g := (mkF m 56 #[rv o, iv x1] [(.int (2 : Int32)), (.ref P)])) rfl rfl (hb hby d3_56) t k) ?_
  refine oI1 X20 hx (hb hby d3_57) (pc' := 58) rfl rfl ?_
  refine oY X20 hx (hb hby d3_58) (pc' := 80) (feq eq).2 (by decide) (by decide) ?_
  refine oC X20 hx (-1 : Int32) (hb hby d3_80) (pc' := 81) rfl rfl ?_
  exact own_retI X20 hx hlk hret (hb hby d3_81) (by rw [e20]; exact ⟨rfl, N12, B12⟩) (by decide) (by decide)
set_option maxRecDepth 65536 in
set_option maxHeartbeats 40000000 in
theorem own_at_3_0_2_1 (l : Launch) (Z : State) (a0 : Array Value) (hw : ∀ d ∈ tables_1, d.before a0 Z = true) (ws : List Jvm.Cond) (w_NO_ANCHORS : Addr) (k_NO_ANCHORS : ClassId) (h0 : Heap) (F : own_F Z h0 w_NO_ANCHORS k_NO_ANCHORS) (hB : Heap) (Fb : own_F Z hB w_NO_ANCHORS k_NO_ANCHORS) (o : Addr) (P O : Addr) (kP kO : ClassId) (v0 v1 v2 v3 v4 v5 v6 v7 u0 u1 u2 u3 u4 u5 u6 u7 : Int32)  (B0 : own_An Z hB h0 o P O kP kO [(.int v0), (.int v1), (.int v2), (.int v3), (.int v4), (.int v5), (.int v6), (.int v7)] [(.int u0), (.int u1), (.int u2), (.int u3), (.int u4), (.int u5), (.int u6), (.int u7)] (3 : Int32) (0 : Int32)) (x1 : Int32) (l0 : v0 < x1) (l1 : v1 < x1) (l2 : ¬ (v2 < x1)) (eq : v2 = x1) :
    own_C l (⟨"com/example/orthonorm/orthonorm/sanskrit/Anchors", "takeAt", "(I)I"⟩ : MethodName) prog_37_method_5_code 2 (some .int) ws (own_RC 0 0 0 0) #[(.ref o), (.int x1)] Z h0 (fun v h' L => v = (some (.int u2)) ∧ Fr hB.size L ∧ own_An Z hB h' o P O kP kO [(.int v0), (.int v1), (.int v2), (.int v3), (.int v4), (.int v5), (.int v6), (.int v7)] [(.int u0), (.int u1), (.int u2), (.int u3), (.int u4), (.int u5), (.int u6), (.int u7)] (3 : Int32) (3 : Int32)) := by
  have F0 := F
  obtain ⟨S_NO_ANCHORS, E_NO_ANCHORS, V_NO_ANCHORS⟩ := F
  refine own_enter (LS := #[rv o, iv x1]) (plainFor_of_name (by first | (simp [plainName, overriddenIn, x]; done) | decide +kernel)) (fun m => by first | (simp [entryFrame, mkF, argsToLocals, Value.category, maxLocals]; done) | rfl) ?_
  intro p e s m below meth c s₁ hx hby hml hown0 hnm hret hlk hZ X0 e0 hsh
  have hown : s.vm.findClass "com/example/orthonorm/orthonorm/sanskrit/Anchors" = some m.cls := hown0
  have sn := own_snI hw
  have N0 := Fr.nil hB.size
  refine oA1 X0 hx (hb hby d3_0) (pc' := 1) rfl rfl rfl ?_
  obtain ⟨T1, X1, e1, st1⟩ := getF X0 hx hZ hown (host := "") (Or.inl (hw _ (List.mem_of_getElem? (i := 22) rfl))) Via.refl e0 (own_Ob_t B0.1) (g := (mkF m 1 #[rv o, iv x1] [(.ref o)])) rfl rfl (hb hby d3_1)
  refine own_pre (T' := T1) (f' := (mkF m 4 #[rv o, iv x1] [(.int (0 : Int32))])) (fun t k => st1 t k) ?_
  refine oA1 X1 hx (hb hby d3_4) (pc' := 5) rfl rfl rfl ?_
  obtain ⟨T2, X2, e2, st2⟩ := getF X1 hx hZ hown (host := "") (Or.inl (hw _ (List.mem_of_getElem? (i := 24) rfl))) Via.refl e1 (own_Ob_s B0.1) (g := (mkF m 5 #[rv o, iv x1] [(.ref o), (.int (0 : Int32))])) rfl rfl (hb hby d3_5)
  refine own_pre (T' := T2) (f' := (mkF m 8 #[rv o, iv x1] [(.int (3 : Int32)), (.int (0 : Int32))])) (fun t k => st2 t k) ?_
  refine oN X2 hx (hb hby d3_8) (pc' := 11) rfl (tlt (by decide : (0 : Int32) < (3 : Int32))).2.1 ?_
  refine oA1 X2 hx (hb hby d3_11) (pc' := 12) rfl rfl rfl ?_
  obtain ⟨T3, X3, e3, st3⟩ := getF X2 hx hZ hown (host := "") (Or.inl (hw _ (List.mem_of_getElem? (i := 13) rfl))) Via.refl e2 (own_Ob_p B0.1) (g := (mkF m 12 #[rv o, iv x1] [(.ref o)])) rfl rfl (hb hby d3_12)
  refine own_pre (T' := T3) (f' := (mkF m 15 #[rv o, iv x1] [(.ref P)])) (fun t k => st3 t k) ?_
  refine oA1 X3 hx (hb hby d3_15) (pc' := 16) rfl rfl rfl ?_
  obtain ⟨T4, X4, e4, st4⟩ := getF X3 hx hZ hown (host := "") (Or.inl (hw _ (List.mem_of_getElem? (i := 22) rfl))) Via.refl e3 (own_Ob_t B0.1) (g := (mkF m 16 #[rv o, iv x1] [(.ref o), (.ref P)])) rfl rfl (hb hby d3_16)
  refine own_pre (T' := T4) (f' := (mkF m 19 #[rv o, iv x1] [(.int (0 : Int32)), (.ref P)])) (fun t k => st4 t k) ?_
  refine own_pre (T' := T4) (f' := (mkF m 20 #[rv o, iv x1] [(.int v0)])) (fun t k => own_ldI X4 hx hZ e4 (own_An_vp B0) (by decide) rfl (g := (mkF m 19 #[rv o, iv x1] [(.int (0 : Int32)), (.ref P)])) rfl rfl (hb hby d3_19) t k) ?_
  refine oI1 X4 hx (hb hby d3_20) (pc' := 21) rfl rfl ?_
  refine oN X4 hx (hb hby d3_21) (pc' := 24) rfl (tlt l0).2.1 ?_
  refine oA1 X4 hx (hb hby d3_24) (pc' := 25) rfl rfl rfl ?_
  refine oD X4 hx (hb hby d3_25) (pc' := 26) rfl rfl ?_
  obtain ⟨T5, X5, e5, st5⟩ := getF X4 hx hZ hown (host := "") (Or.inl (hw _ (List.mem_of_getElem? (i := 22) rfl))) Via.refl e4 (own_Ob_t B0.1) (g := (mkF m 26 #[rv o, iv x1] [(.ref o), (.ref o)])) rfl rfl (hb hby d3_26)
  refine own_pre (T' := T5) (f' := (mkF m 29 #[rv o, iv x1] [(.int (0 : Int32)), (.ref o)])) (fun t k => st5 t k) ?_
  refine oC X5 hx (1 : Int32) (hb hby d3_29) (pc' := 30) rfl rfl ?_
  refine own_pre (T' := T5) (f' := (mkF m 31 #[rv o, iv x1] [(.int ((0 : Int32) + (1 : Int32))), (.ref o)])) (fun t k => XS.iadd X5.here hx rfl (hb hby d3_30) rfl k) ?_
  rw [show ((0 : Int32) + (1 : Int32)) = (1 : Int32) from by decide]
  obtain ⟨T6, h6, X6, e6, W6, st6⟩ := putF X5 hx hZ hown (host := "") (Or.inl (hw _ (List.mem_of_getElem? (i := 22) rfl))) Via.refl e5 (own_Ob_t B0.1) (own_Ob_E B0.1) (Or.inl (hw _ (List.mem_of_getElem? (i := 23) rfl))) (hw _ (List.mem_of_getElem? (i := 3) rfl)) (ty := .int) (by decide) rfl rfl (g := (mkF m 31 #[rv o, iv x1] [(.int (1 : Int32)), (.ref o)])) rfl rfl (hb hby d3_31)
  have N6 := Fr.snoc X6 N0 (own_Ob_g B0.1)
  have B6 : own_An Z hB h6 o P O kP kO [(.int v0), (.int v1), (.int v2), (.int v3), (.int v4), (.int v5), (.int v6), (.int v7)] [(.int u0), (.int u1), (.int u2), (.int u3), (.int u4), (.int u5), (.int u6), (.int u7)] (3 : Int32) (1 : Int32) := own_An_wt sn B0 W6
  refine own_pre (T' := T6) (f' := (mkF m 34 #[rv o, iv x1] [])) (fun t k => st6 t k) ?_
  refine oG X6 hx (hb hby d3_34) (pc' := 0) (by decide) (by decide) ?_
  refine oA1 X6 hx (hb hby d3_0) (pc' := 1) rfl rfl rfl ?_
  obtain ⟨T7, X7, e7, st7⟩ := getF X6 hx hZ hown (host := "") (Or.inl (hw _ (List.mem_of_getElem? (i := 22) rfl))) Via.refl e6 (own_Ob_t B6.1) (g := (mkF m 1 #[rv o, iv x1] [(.ref o)])) rfl rfl (hb hby d3_1)
  refine own_pre (T' := T7) (f' := (mkF m 4 #[rv o, iv x1] [(.int (1 : Int32))])) (fun t k => st7 t k) ?_
  refine oA1 X7 hx (hb hby d3_4) (pc' := 5) rfl rfl rfl ?_
  obtain ⟨T8, X8, e8, st8⟩ := getF X7 hx hZ hown (host := "") (Or.inl (hw _ (List.mem_of_getElem? (i := 24) rfl))) Via.refl e7 (own_Ob_s B6.1) (g := (mkF m 5 #[rv o, iv x1] [(.ref o), (.int (1 : Int32))])) rfl rfl (hb hby d3_5)
  refine own_pre (T' := T8) (f' := (mkF m 8 #[rv o, iv x1] [(.int (3 : Int32)), (.int (1 : Int32))])) (fun t k => st8 t k) ?_
  refine oN X8 hx (hb hby d3_8) (pc' := 11) rfl (tlt (by decide : (1 : Int32) < (3 : Int32))).2.1 ?_
  refine oA1 X8 hx (hb hby d3_11) (pc' := 12) rfl rfl rfl ?_
  obtain ⟨T9, X9, e9, st9⟩ := getF X8 hx hZ hown (host := "") (Or.inl (hw _ (List.mem_of_getElem? (i := 13) rfl))) Via.refl e8 (own_Ob_p B6.1) (g := (mkF m 12 #[rv o, iv x1] [(.ref o)])) rfl rfl (hb hby d3_12)
  refine own_pre (T' := T9) (f' := (mkF m 15 #[rv o, iv x1] [(.ref P)])) (fun t k => st9 t k) ?_
  refine oA1 X9 hx (hb hby d3_15) (pc' := 16) rfl rfl rfl ?_
  obtain ⟨T10, X10, e10, st10⟩ := getF X9 hx hZ hown (host := "") (Or.inl (hw _ (List.mem_of_getElem? (i := 22) rfl))) Via.refl e9 (own_Ob_t B6.1) (g := (mkF m 16 #[rv o, iv x1] [(.ref o), (.ref P)])) rfl rfl (hb hby d3_16)
  refine own_pre (T' := T10) (f' := (mkF m 19 #[rv o, iv x1] [(.int (1 : Int32)), (.ref P)])) (fun t k => st10 t k) ?_
  refine own_pre (T' := T10) (f' := (mkF m 20 #[rv o, iv x1] [(.int v1)])) (fun t k => own_ldI X10 hx hZ e10 (own_An_vp B6) (by decide) rfl (g := (mkF m 19 #[rv o, iv x1] [(.int (1 : Int32)), (.ref P)])) rfl rfl (hb hby d3_19) t k) ?_
  refine oI1 X10 hx (hb hby d3_20) (pc' := 21) rfl rfl ?_
  refine oN X10 hx (hb hby d3_21) (pc' := 24) rfl (tlt l1).2.1 ?_
  refine oA1 X10 hx (hb hby d3_24) (pc' := 25) rfl rfl rfl ?_
  refine oD X10 hx (hb hby d3_25) (pc' := 26) rfl rfl ?_
  obtain ⟨T11, X11, e11, st11⟩ := getF X10 hx hZ hown (host := "") (Or.inl (hw _ (List.mem_of_getElem? (i := 22) rfl))) Via.refl e10 (own_Ob_t B6.1) (g := (mkF m 26 #[rv o, iv x1] [(.ref o), (.ref o)])) rfl rfl (hb hby d3_26)
  refine own_pre (T' := T11) (f' := (mkF m 29 #[rv o, iv x1] [(.int (1 : Int32)), (.ref o)])) (fun t k => st11 t k) ?_
  refine oC X11 hx (1 : Int32) (hb hby d3_29) (pc' := 30) rfl rfl ?_
  refine own_pre (T' := T11) (f' := (mkF m 31 #[rv o, iv x1] [(.int ((1 : Int32) + (1 : Int32))), (.ref o)])) (fun t k => XS.iadd X11.here hx rfl (hb hby d3_30) rfl k) ?_
  rw [show ((1 : Int32) + (1 : Int32)) = (2 : Int32) from by decide]
  obtain ⟨T12, h12, X12, e12, W12, st12⟩ := putF X11 hx hZ hown (host := "") (Or.inl (hw _ (List.mem_of_getElem? (i := 22) rfl))) Via.refl e11 (own_Ob_t B6.1) (own_Ob_E B6.1) (Or.inl (hw _ (List.mem_of_getElem? (i := 23) rfl))) (hw _ (List.mem_of_getElem? (i := 3) rfl)) (ty := .int) (by decide) rfl rfl (g := (mkF m 31 #[rv o, iv x1] [(.int (2 : Int32)), (.ref o)])) rfl rfl (hb hby d3_31)
  have N12 := Fr.snoc X12 N6 (own_Ob_g B6.1)
  have B12 : own_An Z hB h12 o P O kP kO [(.int v0), (.int v1), (.int v2), (.int v3), (.int v4), (.int v5), (.int v6), (.int v7)] [(.int u0), (.int u1), (.int u2), (.int u3), (.int u4), (.int u5), (.int u6), (.int u7)] (3 : Int32) (2 : Int32) := own_An_wt sn B6 W12
  refine own_pre (T' := T12) (f' := (mkF m 34 #[rv o, iv x1] [])) (fun t k => st12 t k) ?_
  refine oG X12 hx (hb hby d3_34) (pc' := 0) (by decide) (by decide) ?_
  refine oA1 X12 hx (hb hby d3_0) (pc' := 1) rfl rfl rfl ?_
  obtain ⟨T13, X13, e13, st13⟩ := getF X12 hx hZ hown (host := "") (Or.inl (hw _ (List.mem_of_getElem? (i := 22) rfl))) Via.refl e12 (own_Ob_t B12.1) (g := (mkF m 1 #[rv o, iv x1] [(.ref o)])) rfl rfl (hb hby d3_1)
  refine own_pre (T' := T13) (f' := (mkF m 4 #[rv o, iv x1] [(.int (2 : Int32))])) (fun t k => st13 t k) ?_
  refine oA1 X13 hx (hb hby d3_4) (pc' := 5) rfl rfl rfl ?_
  obtain ⟨T14, X14, e14, st14⟩ := getF X13 hx hZ hown (host := "") (Or.inl (hw _ (List.mem_of_getElem? (i := 24) rfl))) Via.refl e13 (own_Ob_s B12.1) (g := (mkF m 5 #[rv o, iv x1] [(.ref o), (.int (2 : Int32))])) rfl rfl (hb hby d3_5)
  refine own_pre (T' := T14) (f' := (mkF m 8 #[rv o, iv x1] [(.int (3 : Int32)), (.int (2 : Int32))])) (fun t k => st14 t k) ?_
  refine oN X14 hx (hb hby d3_8) (pc' := 11) rfl (tlt (by decide : (2 : Int32) < (3 : Int32))).2.1 ?_
  refine oA1 X14 hx (hb hby d3_11) (pc' := 12) rfl rfl rfl ?_
  obtain ⟨T15, X15, e15, st15⟩ := getF X14 hx hZ hown (host := "") (Or.inl (hw _ (List.mem_of_getElem? (i := 13) rfl))) Via.refl e14 (own_Ob_p B12.1) (g := (mkF m 12 #[rv o, iv x1] [(.ref o)])) rfl rfl (hb hby d3_12)
  refine own_pre (T' := T15) (f' := (mkF m 15 #[rv o, iv x1] [(.ref P)])) (fun t k => st15 t k) ?_
  refine oA1 X15 hx (hb hby d3_15) (pc' := 16) rfl rfl rfl ?_
  obtain ⟨T16, X16, e16, st16⟩ := getF X15 hx hZ hown (host := "") (Or.inl (hw _ (List.mem_of_getElem? (i := 22) rfl))) Via.refl e15 (own_Ob_t B12.1) (g := (mkF m 16 #[rv o, iv x1] [(.ref o), (.ref P)])) rfl rfl (hb hby d3_16)
  refine own_pre (T' := T16) (f' := (mkF m 19 #[rv o, iv x1] [(.int (2 : Int32)), (.ref P)])) (fun t k => st16 t k) ?_
  refine own_pre (T' := T16) (f' := (mkF m 20 #[rv o, iv x1] [(.int v2)])) (fun t k => own_ldI X16 hx hZ e16 (own_An_vp B12) (by decide) rfl (g := (mkF m 19 #[rv o, iv x1] [(.int (2 : Int32)), (.ref P)])) rfl rfl (hb hby d3_19) t k) ?_
  refine oI1 X16 hx (hb hby d3_20) (pc' := 21) rfl rfl ?_
  refine oY X16 hx (hb hby d3_21) (pc' := 37) (flt l2).2.1 (by decide) (by decide) ?_
  refine oA1 X16 hx (hb hby d3_37) (pc' := 38) rfl rfl rfl ?_
  obtain ⟨T17, X17, e17, st17⟩ := getF X16 hx hZ hown (host := "") (Or.inl (hw _ (List.mem_of_getElem? (i := 22) rfl))) Via.refl e16 (own_Ob_t B12.1) (g := (mkF m 38 #[rv o, iv x1] [(.ref o)])) rfl rfl (hb hby d3_38)
  refine own_pre (T' := T17) (f' := (mkF m 41 #[rv o, iv x1] [(.int (2 : Int32))])) (fun t k => st17 t k) ?_
  refine oA1 X17 hx (hb hby d3_41) (pc' := 42) rfl rfl rfl ?_
  obtain ⟨T18, X18, e18, st18⟩ := getF X17 hx hZ hown (host := "") (Or.inl (hw _ (List.mem_of_getElem? (i := 24) rfl))) Via.refl e17 (own_Ob_s B12.1) (g := (mkF m 42 #[rv o, iv x1] [(.ref o), (.int (2 : Int32))])) rfl rfl (hb hby d3_42)
  refine own_pre (T' := T18) (f' := (mkF m 45 #[rv o, iv x1] [(.int (3 : Int32)), (.int (2 : Int32))])) (fun t k => st18 t k) ?_
  refine oN X18 hx (hb hby d3_45) (pc' := 48) rfl (tlt (by decide : (2 : Int32) < (3 : Int32))).2.1 ?_
  refine oA1 X18 hx (hb hby d3_48) (pc' := 49) rfl rfl rfl ?_
  obtain ⟨T19, X19, e19, st19⟩ := getF X18 hx hZ hown (host := "") (Or.inl (hw _ (List.mem_of_getElem? (i := 13) rfl))) Via.refl e18 (own_Ob_p B12.1) (g := (mkF m 49 #[rv o, iv x1] [(.ref o)])) rfl rfl (hb hby d3_49)
  refine own_pre (T' := T19) (f' := (mkF m 52 #[rv o, iv x1] [(.ref P)])) (fun t k => st19 t k) ?_
  refine oA1 X19 hx (hb hby d3_52) (pc' := 53) rfl rfl rfl ?_
  obtain ⟨T20, X20, e20, st20⟩ := getF X19 hx hZ hown (host := "") (Or.inl (hw _ (List.mem_of_getElem? (i := 22) rfl))) Via.refl e19 (own_Ob_t B12.1) (g := (mkF m 53 #[rv o, iv x1] [(.ref o), (.ref P)])) rfl rfl (hb hby d3_53)
  refine own_pre (T' := T20) (f' := (mkF m 56 #[rv o, iv x1] [(.int (2 : Int32)), (.ref P)])) (fun t k => st20 t k) ?_
  refine own_pre (T' := T20) (f' := (mkF m 57 #[rv o, iv x1] [(.int v2)])) (fun t k => own_ldI X20 hx hZ e20 (own_An_vp B12) (by decide) rfl (g := (mkF m 56 #[rv o, iv x1] [(.int (2 : Int32)), (.ref P)])) rfl rfl (hb hby d3_56) t k) ?_
  refine oI1 X20 hx (hb hby d3_57) (pc' := 58) rfl rfl ?_
  refine oN X20 hx (hb hby d3_58) (pc' := 61) rfl (teq eq).2 ?_
  refine oA1 X20 hx (hb hby d3_61) (pc' := 62) rfl rfl rfl ?_
  obtain ⟨T21, X21, e21, st21⟩ := getF X20 hx hZ hown (host := "") (Or.inl (hw _ (List.mem_of_getElem? (i := 15) rfl))) Via.refl e20 (own_Ob_o B12.1) (g := (mkF m 62 #[rv o, iv x1] [(.ref o)])) rfl rfl (hb hby d3_62)
  refine own_pre (T' := T21) (f' := (mkF m 65 #[rv o, iv x1] [(.ref O)])) (fun t k => st21 t k) ?_
  refine oA1 X21 hx (hb hby d3_65) (pc' := 66) rfl rfl rfl ?_
  refine oD X21 hx (hb hby d3_66) (pc' := 67) rfl rfl ?_
  obtain ⟨T22, X22, e22, st22⟩ := getF X21 hx hZ hown (host := "") (Or.inl (hw _ (List.mem_of_getElem? (i := 22) rfl))) Via.refl e21 (own_Ob_t B12.1) (g := (mkF m 67 #[rv o, iv x1] [(.ref o), (.ref o), (.ref O)])) rfl rfl (hb hby d3_67)
  refine own_pre (T' := T22) (f' := (mkF m 70 #[rv o, iv x1] [(.int (2 : Int32)), (.ref o), (.ref O)])) (fun t k => st22 t k) ?_
  refine own_pre (T' := T22) (f' := (mkF m 71 #[rv o, iv x1] [(.int (2 : Int32)), (.ref o), (.int (2 : Int32)), (.ref O)])) (fun t k => XS.dupX1 X22.here hx rfl (hb hby d3_70) rfl rfl rfl k) ?_
  refine oC X22 hx (1 : Int32) (hb hby d3_71) (pc' := 72) rfl rfl ?_
  refine own_pre (T' := T22) (f' := (mkF m 73 #[rv o, iv x1] [(.int ((2 : Int32) + (1 : Int32))), (.ref o), (.int (2 : Int32)), (.ref O)])) (fun t k => XS.iadd X22.here hx rfl (hb hby d3_72) rfl k) ?_
  rw [show ((2 : Int32) + (1 : Int32)) = (3 : Int32) from by decide]
  obtain ⟨T23, h23, X23, e23, W23, st23⟩ := putF X22 hx hZ hown (host := "") (Or.inl (hw _ (List.mem_of_getElem? (i := 22) rfl))) Via.refl e22 (own_Ob_t B12.1) (own_Ob_E B12.1) (Or.inl (hw _ (List.mem_of_getElem? (i := 23) rfl))) (hw _ (List.mem_of_getElem? (i := 3) rfl)) (ty := .int) (by decide) rfl rfl (g := (mkF m 73 #[rv o, iv x1] [(.int (3 : Int32)), (.ref o), (.int (2 : Int32)), (.ref O)])) rfl rfl (hb hby d3_73)
  have N23 := Fr.snoc X23 N12 (own_Ob_g B12.1)
  have B23 : own_An Z hB h23 o P O kP kO [(.int v0), (.int v1), (.int v2), (.int v3), (.int v4), (.int v5), (.int v6), (.int v7)] [(.int u0), (.int u1), (.int u2), (.int u3), (.int u4), (.int u5), (.int u6), (.int u7)] (3 : Int32) (3 : Int32) := own_An_wt sn B12 W23
  refine own_pre (T' := T23) (f' := (mkF m 76 #[rv o, iv x1] [(.int (2 : Int32)), (.ref O)])) (fun t k => st23 t k) ?_
  refine own_pre (T' := T23) (f' := (mkF m 77 #[rv o, iv x1] [(.int u2)])) (fun t k => own_ldI X23 hx hZ e23 (own_An_vo B23) (by decide) rfl (g := (mkF m 76 #[rv o, iv x1] [(.int (2 : Int32)), (.ref O)])) rfl rfl (hb hby d3_76) t k) ?_
  refine oG X23 hx (hb hby d3_77) (pc' := 81) (by decide) (by decide) ?_
  exact own_retI X23 hx hlk hret (hb hby d3_81) (by rw [e23]; exact ⟨rfl, N23, B23⟩) (by decide) (by decide)
set_option maxRecDepth 65536 in
set_option maxHeartbeats 40000000 in
theorem own_at_3_0_3_0 (l : Launch) (Z : State) (a0 : Array Value) (hw : ∀ d ∈ tables_1, d.before a0 Z = true) (ws : List Jvm.Cond) (w_NO_ANCHORS : Addr) (k_NO_ANCHORS : ClassId) (h0 : Heap) (F : own_F Z h0 w_NO_ANCHORS k_NO_ANCHORS) (hB : Heap) (Fb : own_F Z hB w_NO_ANCHORS k_NO_ANCHORS) (o : Addr) (P O : Addr) (kP kO : ClassId) (v0 v1 v2 v3 v4 v5 v6 v7 u0 u1 u2 u3 u4 u5 u6 u7 : Int32)  (B0 : own_An Z hB h0 o P O kP kO [(.int v0), (.int v1), (.int v2), (.int v3), (.int v4), (.int v5), (.int v6), (.int v7)] [(.int u0), (.int u1), (.int u2), (.int u3), (.int u4), (.int u5), (.int u6), (.int u7)] (3 : Int32) (0 : Int32)) (x1 : Int32) (l0 : v0 < x1) (l1 : v1 < x1) (l2 : v2 < x1) :
    own_C l (⟨"com/example/orthonorm/orthonorm/sanskrit/Anchors", "takeAt", "(I)I"⟩ : MethodName) prog_37_method_5_code 2 (some .int) ws (own_RC 0 0 0 0) #[(.ref o), (.int x1)] Z h0 (fun v h' L => v = (some (.int (-1 : Int32))) ∧ Fr hB.size L ∧ own_An Z hB h' o P O kP kO [(.int v0), (.int v1), (.int v2), (.int v3), (.int v4), (.int v5), (.int v6), (.int v7)] [(.int u0), (.int u1), (.int u2), (.int u3), (.int u4), (.int u5), (.int u6), (.int u7)] (3 : Int32) (3 : Int32)) := by
  have F0 := F
  obtain ⟨S_NO_ANCHORS, E_NO_ANCHORS, V_NO_ANCHORS⟩ := F
  refine own_enter (LS := #[rv o, iv x1]) (plainFor_of_name (by first | (simp [plainName, overriddenIn, x]; done) | decide +kernel)) (fun m => by first | (simp [entryFrame, mkF, argsToLocals, Value.category, maxLocals]; done) | rfl) ?_
  intro p e s m below meth c s₁ hx hby hml hown0 hnm hret hlk hZ X0 e0 hsh
  have hown : s.vm.findClass "com/example/orthonorm/orthonorm/sanskrit/Anchors" = some m.cls := hown0
  have sn := own_snI hw
  have N0 := Fr.nil hB.size
  refine oA1 X0 hx (hb hby d3_0) (pc' := 1) rfl rfl rfl ?_
  obtain ⟨T1, X1, e1, st1⟩ := getF X0 hx hZ hown (host := "") (Or.inl (hw _ (List.mem_of_getElem? (i := 22) rfl))) Via.refl e0 (own_Ob_t B0.1) (g := (mkF m 1 #[rv o, iv x1] [(.ref o)])) rfl rfl (hb hby d3_1)
  refine own_pre (T' := T1) (f' := (mkF m 4 #[rv o, iv x1] [(.int (0 : Int32))])) (fun t k => st1 t k) ?_
  refine oA1 X1 hx (hb hby d3_4) (pc' := 5) rfl rfl rfl ?_
  obtain ⟨T2, X2, e2, st2⟩ := getF X1 hx hZ hown (host := "") (Or.inl (hw _ (List.mem_of_getElem? (i := 24) rfl))) Via.refl e1 (own_Ob_s B0.1) (g := (mkF m 5 #[rv o, iv x1] [(.ref o), (.int (0 : Int32))])) rfl rfl (hb hby d3_5)
  refine own_pre (T' := T2) (f' := (mkF m 8 #[rv o, iv x1] [(.int (3 : Int32)), (.int (0 : Int32))])) (fun t k => st2 t k) ?_
  refine oN X2 hx (hb hby d3_8) (pc' := 11) rfl (tlt (by decide : (0 : Int32) < (3 : Int32))).2.1 ?_
  refine oA1 X2 hx (hb hby d3_11) (pc' := 12) rfl rfl rfl ?_
  obtain ⟨T3, X3, e3, st3⟩ := getF X2 hx hZ hown (host := "") (Or.inl (hw _ (List.mem_of_getElem? (i := 13) rfl))) Via.refl e2 (own_Ob_p B0.1) (g := (mkF m 12 #[rv o, iv x1] [(.ref o)])) rfl rfl (hb hby d3_12)
  refine own_pre (T' := T3) (f' := (mkF m 15 #[rv o, iv x1] [(.ref P)])) (fun t k => st3 t k) ?_
  refine oA1 X3 hx (hb hby d3_15) (pc' := 16) rfl rfl rfl ?_
  obtain ⟨T4, X4, e4, st4⟩ := getF X3 hx hZ hown (host := "") (Or.inl (hw _ (List.mem_of_getElem? (i := 22) rfl))) Via.refl e3 (own_Ob_t B0.1) (g := (mkF m 16 #[rv o, iv x1] [(.ref o), (.ref P)])) rfl rfl (hb hby d3_16)
  refine own_pre (T' := T4) (f' := (mkF m 19 #[rv o, iv x1] [(.int (0 : Int32)), (.ref P)])) (fun t k => st4 t k) ?_
  refine own_pre (T' := T4) (f' := (mkF m 20 #[rv o, iv x1] [(.int v0)])) (fun t k => own_ldI X4 hx hZ e4 (own_An_vp B0) (by decide) rfl (g := (mkF m 19 #[rv o, iv x1] [(.int (0 : Int32)), (.ref P)])) rfl rfl (hb hby d3_19) t k) ?_
  refine oI1 X4 hx (hb hby d3_20) (pc' := 21) rfl rfl ?_
  refine oN X4 hx (hb hby d3_21) (pc' := 24) rfl (tlt l0).2.1 ?_
  refine oA1 X4 hx (hb hby d3_24) (pc' := 25) rfl rfl rfl ?_
  refine oD X4 hx (hb hby d3_25) (pc' := 26) rfl rfl ?_
  obtain ⟨T5, X5, e5, st5⟩ := getF X4 hx hZ hown (host := "") (Or.inl (hw _ (List.mem_of_getElem? (i := 22) rfl))) Via.refl e4 (own_Ob_t B0.1) (g := (mkF m 26 #[rv o, iv x1] [(.ref o), (.ref o)])) rfl rfl (hb hby d3_26)
  refine own_pre (T' := T5) (f' := (mkF m 29 #[rv o, iv x1] [(.int (0 : Int32)), (.ref o)])) (fun t k => st5 t k) ?_
  refine oC X5 hx (1 : Int32) (hb hby d3_29) (pc' := 30) rfl rfl ?_
  refine own_pre (T' := T5) (f' := (mkF m 31 #[rv o, iv x1] [(.int ((0 : Int32) + (1 : Int32))), (.ref o)])) (fun t k => XS.iadd X5.here hx rfl (hb hby d3_30) rfl k) ?_
  rw [show ((0 : Int32) + (1 : Int32)) = (1 : Int32) from by decide]
  obtain ⟨T6, h6, X6, e6, W6, st6⟩ := putF X5 hx hZ hown (host := "") (Or.inl (hw _ (List.mem_of_getElem? (i := 22) rfl))) Via.refl e5 (own_Ob_t B0.1) (own_Ob_E B0.1) (Or.inl (hw _ (List.mem_of_getElem? (i := 23) rfl))) (hw _ (List.mem_of_getElem? (i := 3) rfl)) (ty := .int) (by decide) rfl rfl (g := (mkF m 31 #[rv o, iv x1] [(.int (1 : Int32)), (.ref o)])) rfl rfl (hb hby d3_31)
  have N6 := Fr.snoc X6 N0 (own_Ob_g B0.1)
  have B6 : own_An Z hB h6 o P O kP kO [(.int v0), (.int v1), (.int v2), (.int v3), (.int v4), (.int v5), (.int v6), (.int v7)] [(.int u0), (.int u1), (.int u2), (.int u3), (.int u4), (.int u5), (.int u6), (.int u7)] (3 : Int32) (1 : Int32) := own_An_wt sn B0 W6
  refine own_pre (T' := T6) (f' := (mkF m 34 #[rv o, iv x1] [])) (fun t k => st6 t k) ?_
  refine oG X6 hx (hb hby d3_34) (pc' := 0) (by decide) (by decide) ?_
  refine oA1 X6 hx (hb hby d3_0) (pc' := 1) rfl rfl rfl ?_
  obtain ⟨T7, X7, e7, st7⟩ := getF X6 hx hZ hown (host := "") (Or.inl (hw _ (List.mem_of_getElem? (i := 22) rfl))) Via.refl e6 (own_Ob_t B6.1) (g := (mkF m 1 #[rv o, iv x1] [(.ref o)])) rfl rfl (hb hby d3_1)
  refine own_pre (T' := T7) (f' := (mkF m 4 #[rv o, iv x1] [(.int (1 : Int32))])) (fun t k => st7 t k) ?_
  refine oA1 X7 hx (hb hby d3_4) (pc' := 5) rfl rfl rfl ?_
  obtain ⟨T8, X8, e8, st8⟩ := getF X7 hx hZ hown (host := "") (Or.inl (hw _ (List.mem_of_getElem? (i := 24) rfl))) Via.refl e7 (own_Ob_s B6.1) (g := (mkF m 5 #[rv o, iv x1] [(.ref o), (.int (1 : Int32))])) rfl rfl (hb hby d3_5)
  refine own_pre (T' := T8) (f' := (mkF m 8 #[rv o, iv x1] [(.int (3 : Int32)), (.int (1 : Int32))])) (fun t k => st8 t k) ?_
  refine oN X8 hx (hb hby d3_8) (pc' := 11) rfl (tlt (by decide : (1 : Int32) < (3 : Int32))).2.1 ?_
  refine oA1 X8 hx (hb hby d3_11) (pc' := 12) rfl rfl rfl ?_
  obtain ⟨T9, X9, e9, st9⟩ := getF X8 hx hZ hown (host := "") (Or.inl (hw _ (List.mem_of_getElem? (i := 13) rfl))) Via.refl e8 (own_Ob_p B6.1) (g := (mkF m 12 #[rv o, iv x1] [(.ref o)])) rfl rfl (hb hby d3_12)
  refine own_pre (T' := T9) (f' := (mkF m 15 #[rv o, iv x1] [(.ref P)])) (fun t k => st9 t k) ?_
  refine oA1 X9 hx (hb hby d3_15) (pc' := 16) rfl rfl rfl ?_
  obtain ⟨T10, X10, e10, st10⟩ := getF X9 hx hZ hown (host := "") (Or.inl (hw _ (List.mem_of_getElem? (i := 22) rfl))) Via.refl e9 (own_Ob_t B6.1) (g := (mkF m 16 #[rv o, iv x1] [(.ref o), (.ref P)])) rfl rfl (hb hby d3_16)
  refine own_pre (T' := T10) (f' := (mkF m 19 #[rv o, iv x1] [(.int (1 : Int32)), (.ref P)])) (fun t k => st10 t k) ?_
  refine own_pre (T' := T10) (f' := (mkF m 20 #[rv o, iv x1] [(.int v1)])) (fun t k => own_ldI X10 hx hZ e10 (own_An_vp B6) (by decide) rfl (g := (mkF m 19 #[rv o, iv x1] [(.int (1 : Int32)), (.ref P)])) rfl rfl (hb hby d3_19) t k) ?_
  refine oI1 X10 hx (hb hby d3_20) (pc' := 21) rfl rfl ?_
  refine oN X10 hx (hb hby d3_21) (pc' := 24) rfl (tlt l1).2.1 ?_
  refine oA1 X10 hx (hb hby d3_24) (pc' := 25) rfl rfl rfl ?_
  refine oD X10 hx (hb hby d3_25) (pc' := 26) rfl rfl ?_
  obtain ⟨T11, X11, e11, st11⟩ := getF X10 hx hZ hown (host := "") (Or.inl (hw _ (List.mem_of_getElem? (i := 22) rfl))) Via.refl e10 (own_Ob_t B6.1) (g := (mkF m 26 #[rv o, iv x1] [(.ref o), (.ref o)])) rfl rfl (hb hby d3_26)
  refine own_pre (T' := T11) (f' := (mkF m 29 #[rv o, iv x1] [(.int (1 : Int32)), (.ref o)])) (fun t k => st11 t k) ?_
  refine oC X11 hx (1 : Int32) (hb hby d3_29) (pc' := 30) rfl rfl ?_
  refine own_pre (T' := T11) (f' := (mkF m 31 #[rv o, iv x1] [(.int ((1 : Int32) + (1 : Int32))), (.ref o)])) (fun t k => XS.iadd X11.here hx rfl (hb hby d3_30) rfl k) ?_
  rw [show ((1 : Int32) + (1 : Int32)) = (2 : Int32) from by decide]
  obtain ⟨T12, h12, X12, e12, W12, st12⟩ := putF X11 hx hZ hown (host := "") (Or.inl (hw _ (List.mem_of_getElem? (i := 22) rfl))) Via.refl e11 (own_Ob_t B6.1) (own_Ob_E B6.1) (Or.inl (hw _ (List.mem_of_getElem? (i := 23) rfl))) (hw _ (List.mem_of_getElem? (i := 3) rfl)) (ty := .int) (by decide) rfl rfl (g := (mkF m 31 #[rv o, iv x1] [(.int (2 : Int32)), (.ref o)])) rfl rfl (hb hby d3_31)
  have N12 := Fr.snoc X12 N6 (own_Ob_g B6.1)
  have B12 : own_An Z hB h12 o P O kP kO [(.int v0), (.int v1), (.int v2), (.int v3), (.int v4), (.int v5), (.int v6), (.int v7)] [(.int u0), (.int u1), (.int u2), (.int u3), (.int u4), (.int u5), (.int u6), (.int u7)] (3 : Int32) (2 : Int32) := own_An_wt sn B6 W12
  refine own_pre (T' := T12) (f' := (mkF m 34 #[rv o, iv x1] [])) (fun t k => st12 t k) ?_
  refine oG X12 hx (hb hby d3_34) (pc' := 0) (by decide) (by decide) ?_
  refine oA1 X12 hx (hb hby d3_0) (pc' := 1) rfl rfl rfl ?_
  obtain ⟨T13, X13, e13, st13⟩ := getF X12 hx hZ hown (host := "") (Or.inl (hw _ (List.mem_of_getElem? (i := 22) rfl))) Via.refl e12 (own_Ob_t B12.1) (g := (mkF m 1 #[rv o, iv x1] [(.ref o)])) rfl rfl (hb hby d3_1)
  refine own_pre (T' := T13) (f' := (mkF m 4 #[rv o, iv x1] [(.int (2 : Int32))])) (fun t k => st13 t k) ?_
  refine oA1 X13 hx (hb hby d3_4) (pc' := 5) rfl rfl rfl ?_
  obtain ⟨T14, X14, e14, st14⟩ := getF X13 hx hZ hown (host := "") (Or.inl (hw _ (List.mem_of_getElem? (i := 24) rfl))) Via.refl e13 (own_Ob_s B12.1) (g := (mkF m 5 #[rv o, iv x1] [(.ref o), (.int (2 : Int32))])) rfl rfl (hb hby d3_5)
  refine own_pre (T' := T14) (f' := (mkF m 8 #[rv o, iv x1] [(.int (3 : Int32)), (.int (2 : Int32))])) (fun t k => st14 t k) ?_
  refine oN X14 hx (hb hby d3_8) (pc' := 11) rfl (tlt (by decide : (2 : Int32) < (3 : Int32))).2.1 ?_
  refine oA1 X14 hx (hb hby d3_11) (pc' := 12) rfl rfl rfl ?_
  obtain ⟨T15, X15, e15, st15⟩ := getF X14 hx hZ hown (host := "") (Or.inl (hw _ (List.mem_of_getElem? (i := 13) rfl))) Via.refl e14 (own_Ob_p B12.1) (g := (mkF m 12 #[rv o, iv x1] [(.ref o)])) rfl rfl (hb hby d3_12)
  refine own_pre (T' := T15) (f' := (mkF m 15 #[rv o, iv x1] [(.ref P)])) (fun t k => st15 t k) ?_
  refine oA1 X15 hx (hb hby d3_15) (pc' := 16) rfl rfl rfl ?_
  obtain ⟨T16, X16, e16, st16⟩ := getF X15 hx hZ hown (host := "") (Or.inl (hw _ (List.mem_of_getElem? (i := 22) rfl))) Via.refl e15 (own_Ob_t B12.1) (g := (mkF m 16 #[rv o, iv x1] [(.ref o), (.ref P)])) rfl rfl (hb hby d3_16)
  refine own_pre (T' := T16) (f' := (mkF m 19 #[rv o, iv x1] [(.int (2 : Int32)), (.ref P)])) (fun t k => st16 t k) ?_
  refine own_pre (T' := T16) (f' := (mkF m 20 #[rv o, iv x1] [(.int v2)])) (fun t k => own_ldI X16 hx hZ e16 (own_An_vp B12) (by decide) rfl (g := (mkF m 19 #[rv o, iv x1] [(.int (2 : Int32)), (.ref P)])) rfl rfl (hb hby d3_19) t k) ?_
  refine oI1 X16 hx (hb hby d3_20) (pc' := 21) rfl rfl ?_
  refine oN X16 hx (hb hby d3_21) (pc' := 24) rfl (tlt l2).2.1 ?_
  refine oA1 X16 hx (hb hby d3_24) (pc' := 25) rfl rfl rfl ?_
  refine oD X16 hx (hb hby d3_25) (pc' := 26) rfl rfl ?_
  obtain ⟨T17, X17, e17, st17⟩ := getF X16 hx hZ hown (host := "") (Or.inl (hw _ (List.mem_of_getElem? (i := 22) rfl))) Via.refl e16 (own_Ob_t B12.1) (g := (mkF m 26 #[rv o, iv x1] [(.ref o), (.ref o)])) rfl rfl (hb hby d3_26)
  refine own_pre (T' := T17) (f' := (mkF m 29 #[rv o, iv x1] [(.int (2 : Int32)), (.ref o)])) (fun t k => st17 t k) ?_
  refine oC X17 hx (1 : Int32) (hb hby d3_29) (pc' := 30) rfl rfl ?_
  refine own_pre (T' := T17) (f' := (mkF m 31 #[rv o, iv x1] [(.int ((2 : Int32) + (1 : Int32))), (.ref o)])) (fun t k => XS.iadd X17.here hx rfl (hb hby d3_30) rfl k) ?_
  rw [show ((2 : Int32) + (1 : Int32)) = (3 : Int32) from by decide]
  obtain ⟨T18, h18, X18, e18, W18, st18⟩ := putF X17 hx hZ hown (host := "") (Or.inl (hw _ (List.mem_of_getElem? (i := 22) rfl))) Via.refl e17 (own_Ob_t B12.1) (own_Ob_E B12.1) (Or.inl (hw _ (List.mem_of_getElem? (i := 23) rfl))) (hw _ (List.mem_of_getElem? (i := 3) rfl)) (ty := .int) (by decide) rfl rfl (g := (mkF m 31 #[rv o, iv x1] [(.int (3 : Int32)), (.ref o)])) rfl rfl (hb hby d3_31)
  have N18 := Fr.snoc X18 N12 (own_Ob_g B12.1)
  have B18 : own_An Z hB h18 o P O kP kO [(.int v0), (.int v1), (.int v2), (.int v3), (.int v4), (.int v5), (.int v6), (.int v7)] [(.int u0), (.int u1), (.int u2), (.int u3), (.int u4), (.int u5), (.int u6), (.int u7)] (3 : Int32) (3 : Int32) := own_An_wt sn B12 W18
  refine own_pre (T' := T18) (f' := (mkF m 34 #[rv o, iv x1] [])) (fun t k => st18 t k) ?_
  refine oG X18 hx (hb hby d3_34) (pc' := 0) (by decide) (by decide) ?_
  refine oA1 X18 hx (hb hby d3_0) (pc' := 1) rfl rfl rfl ?_
  obtain ⟨T19, X19, e19, st19⟩ := getF X18 hx hZ hown (host := "") (Or.inl (hw _ (List.mem_of_getElem? (i := 22) rfl))) Via.refl e18 (own_Ob_t B18.1) (g := (mkF m 1 #[rv o, iv x1] [(.ref o)])) rfl rfl (hb hby d3_1)
  refine own_pre (T' := T19) (f' := (mkF m 4 #[rv o, iv x1] [(.int (3 : Int32))])) (fun t k => st19 t k) ?_
  refine oA1 X19 hx (hb hby d3_4) (pc' := 5) rfl rfl rfl ?_
  obtain ⟨T20, X20, e20, st20⟩ := getF X19 hx hZ hown (host := "") (Or.inl (hw _ (List.mem_of_getElem? (i := 24) rfl))) Via.refl e19 (own_Ob_s B18.1) (g := (mkF m 5 #[rv o, iv x1] [(.ref o), (.int (3 : Int32))])) rfl rfl (hb hby d3_5)
  refine own_pre (T' := T20) (f' := (mkF m 8 #[rv o, iv x1] [(.int (3 : Int32)), (.int (3 : Int32))])) (fun t k => st20 t k) ?_
  refine oY X20 hx (hb hby d3_8) (pc' := 37) (flt (by decide : ¬ ((3 : Int32) < (3 : Int32)))).2.1 (by decide) (by decide) ?_
  refine oA1 X20 hx (hb hby d3_37) (pc' := 38) rfl rfl rfl ?_
  obtain ⟨T21, X21, e21, st21⟩ := getF X20 hx hZ hown (host := "") (Or.inl (hw _ (List.mem_of_getElem? (i := 22) rfl))) Via.refl e20 (own_Ob_t B18.1) (g := (mkF m 38 #[rv o, iv x1] [(.ref o)])) rfl rfl (hb hby d3_38)
  refine own_pre (T' := T21) (f' := (mkF m 41 #[rv o, iv x1] [(.int (3 : Int32))])) (fun t k => st21 t k) ?_
  refine oA1 X21 hx (hb hby d3_41) (pc' := 42) rfl rfl rfl ?_
  obtain ⟨T22, X22, e22, st22⟩ := getF X21 hx hZ hown (host := "") (Or.inl (hw _ (List.mem_of_getElem? (i := 24) rfl))) Via.refl e21 (own_Ob_s B18.1) (g := (mkF m 42 #[rv o, iv x1] [(.ref o), (.int (3 : Int32))])) rfl rfl (hb hby d3_42)
  refine own_pre (T' := T22) (f' := (mkF m 45 #[rv o, iv x1] [(.int (3 : Int32)), (.int (3 : Int32))])) (fun t k => st22 t k) ?_
  refine oY X22 hx (hb hby d3_45) (pc' := 80) (flt (by decide : ¬ ((3 : Int32) < (3 : Int32)))).2.1 (by decide) (by decide) ?_
  refine oC X22 hx (-1 : Int32) (hb hby d3_80) (pc' := 81) rfl rfl ?_
  exact own_retI X22 hx hlk hret (hb hby d3_81) (by rw [e22]; exact ⟨rfl, N18, B18⟩) (by decide) (by decide)
set_option maxRecDepth 65536 in
set_option maxHeartbeats 40000000 in
theorem own_at_3_1_1_0 (l : Launch) (Z : State) (a0 : Array Value) (hw : ∀ d ∈ tables_1, d.before a0 Z = true) (ws : List Jvm.Cond) (w_NO_ANCHORS : Addr) (k_NO_ANCHORS : ClassId) (h0 : Heap) (F : own_F Z h0 w_NO_ANCHORS k_NO_ANCHORS) (hB : Heap) (Fb : own_F Z hB w_NO_ANCHORS k_NO_ANCHORS) (o : Addr) (P O : Addr) (kP kO : ClassId) (v0 v1 v2 v3 v4 v5 v6 v7 u0 u1 u2 u3 u4 u5 u6 u7 : Int32)  (B0 : own_An Z hB h0 o P O kP kO [(.int v0), (.int v1), (.int v2), (.int v3), (.int v4), (.int v5), (.int v6), (.int v7)] [(.int u0), (.int u1), (.int u2), (.int u3), (.int u4), (.int u5), (.int u6), (.int u7)] (3 : Int32) (1 : Int32)) (x1 : Int32) (l1 : ¬ (v1 < x1)) (eq : ¬ (v1 = x1)) :
    own_C l (⟨"com/example/orthonorm/orthonorm/sanskrit/Anchors", "takeAt", "(I)I"⟩ : MethodName) prog_37_method_5_code 2 (some .int) ws (own_R 0 0) #[(.ref o), (.int x1)] Z h0 (own_Q0 (some (.int (-1 : Int32))) h0) := by
  have F0 := F
  obtain ⟨S_NO_ANCHORS, E_NO_ANCHORS, V_NO_ANCHORS⟩ := F
  refine own_enter (LS := #[rv o, iv x1]) (plainFor_of_name (by first | (simp [plainName, overriddenIn, x]; done) | decide +kernel)) (fun m => by first | (simp [entryFrame, mkF, argsToLocals, Value.category, maxLocals]; done) | rfl) ?_
  intro p e s m below meth c s₁ hx hby hml hown0 hnm hret hlk hZ X0 e0 hsh
  have hown : s.vm.findClass "com/example/orthonorm/orthonorm/sanskrit/Anchors" = some m.cls := hown0
  have sn := own_snI hw
  have N0 := Fr.nil hB.size
  refine oA1 X0 hx (hb hby d3_0) (pc' := 1) rfl rfl rfl ?_
  obtain ⟨T1, X1, e1, st1⟩ := getF X0 hx hZ hown (host := "") (Or.inl (hw _ (List.mem_of_getElem? (i := 22) rfl))) Via.refl e0 (own_Ob_t B0.1) (g := (mkF m 1 #[rv o, iv x1] [(.ref o)])) rfl rfl (hb hby d3_1)
  refine own_pre (T' := T1) (f' := (mkF m 4 #[rv o, iv x1] [(.int (1 : Int32))])) (fun t k => st1 t k) ?_
  refine oA1 X1 hx (hb hby d3_4) (pc' := 5) rfl rfl rfl ?_
  obtain ⟨T2, X2, e2, st2⟩ := getF X1 hx hZ hown (host := "") (Or.inl (hw _ (List.mem_of_getElem? (i := 24) rfl))) Via.refl e1 (own_Ob_s B0.1) (g := (mkF m 5 #[rv o, iv x1] [(.ref o), (.int (1 : Int32))])) rfl rfl (hb hby d3_5)
  refine own_pre (T' := T2) (f' := (mkF m 8 #[rv o, iv x1] [(.int (3 : Int32)), (.int (1 : Int32))])) (fun t k => st2 t k) ?_
  refine oN X2 hx (hb hby d3_8) (pc' := 11) rfl (tlt (by decide : (1 : Int32) < (3 : Int32))).2.1 ?_
  refine oA1 X2 hx (hb hby d3_11) (pc' := 12) rfl rfl rfl ?_
  obtain ⟨T3, X3, e3, st3⟩ := getF X2 hx hZ hown (host := "") (Or.inl (hw _ (List.mem_of_getElem? (i := 13) rfl))) Via.refl e2 (own_Ob_p B0.1) (g := (mkF m 12 #[rv o, iv x1] [(.ref o)])) rfl rfl (hb hby d3_12)
  refine own_pre (T' := T3) (f' := (mkF m 15 #[rv o, iv x1] [(.ref P)])) (fun t k => st3 t k) ?_
  refine oA1 X3 hx (hb hby d3_15) (pc' := 16) rfl rfl rfl ?_
  obtain ⟨T4, X4, e4, st4⟩ := getF X3 hx hZ hown (host := "") (Or.inl (hw _ (List.mem_of_getElem? (i := 22) rfl))) Via.refl e3 (own_Ob_t B0.1) (g := (mkF m 16 #[rv o, iv x1] [(.ref o), (.ref P)])) rfl rfl (hb hby d3_16)
  refine own_pre (T' := T4) (f' := (mkF m 19 #[rv o, iv x1] [(.int (1 : Int32)), (.ref P)])) (fun t k => st4 t k) ?_
  refine own_pre (T' := T4) (f' := (mkF m 20 #[rv o, iv x1] [(.int v1)])) (fun t k => own_ldI X4 hx hZ e4 (own_An_vp B0) (by decide) rfl (g := (mkF m 19 #[rv o, iv x1] [(.int (1 : Int32)), (.ref P)])) rfl rfl (hb hby d3_19) t k) ?_
  refine oI1 X4 hx (hb hby d3_20) (pc' := 21) rfl rfl ?_
  refine oY X4 hx (hb hby d3_21) (pc' := 37) (flt l1).2.1 (by decide) (by decide) ?_
  refine oA1 X4 hx (hb hby d3_37) (pc' := 38) rfl rfl rfl ?_
  obtain ⟨T5, X5, e5, st5⟩ := getF X4 hx hZ hown (host := "") (Or.inl (hw _ (List.mem_of_getElem? (i := 22) rfl))) Via.refl e4 (own_Ob_t B0.1) (g := (mkF m 38 #[rv o, iv x1] [(.ref o)])) rfl rfl (hb hby d3_38)
  refine own_pre (T' := T5) (f' := (mkF m 41 #[rv o, iv x1] [(.int (1 : Int32))])) (fun t k => st5 t k) ?_
  refine oA1 X5 hx (hb hby d3_41) (pc' := 42) rfl rfl rfl ?_
  obtain ⟨T6, X6, e6, st6⟩ := getF X5 hx hZ hown (host := "") (Or.inl (hw _ (List.mem_of_getElem? (i := 24) rfl))) Via.refl e5 (own_Ob_s B0.1) (g := (mkF m 42 #[rv o, iv x1] [(.ref o), (.int (1 : Int32))])) rfl rfl (hb hby d3_42)
  refine own_pre (T' := T6) (f' := (mkF m 45 #[rv o, iv x1] [(.int (3 : Int32)), (.int (1 : Int32))])) (fun t k => st6 t k) ?_
  refine oN X6 hx (hb hby d3_45) (pc' := 48) rfl (tlt (by decide : (1 : Int32) < (3 : Int32))).2.1 ?_
  refine oA1 X6 hx (hb hby d3_48) (pc' := 49) rfl rfl rfl ?_
  obtain ⟨T7, X7, e7, st7⟩ := getF X6 hx hZ hown (host := "") (Or.inl (hw _ (List.mem_of_getElem? (i := 13) rfl))) Via.refl e6 (own_Ob_p B0.1) (g := (mkF m 49 #[rv o, iv x1] [(.ref o)])) rfl rfl (hb hby d3_49)
  refine own_pre (T' := T7) (f' := (mkF m 52 #[rv o, iv x1] [(.ref P)])) (fun t k => st7 t k) ?_
  refine oA1 X7 hx (hb hby d3_52) (pc' := 53) rfl rfl rfl ?_
  obtain ⟨T8, X8, e8, st8⟩ := getF X7 hx hZ hown (host := "") (Or.inl (hw _ (List.mem_of_getElem? (i := 22) rfl))) Via.refl e7 (own_Ob_t B0.1) (g := (mkF m 53 #[rv o, iv x1] [(.ref o), (.ref P)])) rfl rfl (hb hby d3_53)
  refine own_pre (T' := T8) (f' := (mkF m 56 #[rv o, iv x1] [(.int (1 : Int32)), (.ref P)])) (fun t k => st8 t k) ?_
  refine own_pre (T' := T8) (f' := (mkF m 57 #[rv o, iv x1] [(.int v1)])) (fun t k => own_ldI X8 hx hZ e8 (own_An_vp B0) (by decide) rfl (g := (mkF m 56 #[rv o, iv x1] [(.int (1 : Int32)), (.ref P)])) rfl rfl (hb hby d3_56) t k) ?_
  refine oI1 X8 hx (hb hby d3_57) (pc' := 58) rfl rfl ?_
  refine oY X8 hx (hb hby d3_58) (pc' := 80) (feq eq).2 (by decide) (by decide) ?_
  refine oC X8 hx (-1 : Int32) (hb hby d3_80) (pc' := 81) rfl rfl ?_
  exact own_retI X8 hx hlk hret (hb hby d3_81) (⟨rfl, e8, rfl⟩) (by decide) (by decide)
set_option maxRecDepth 65536 in
set_option maxHeartbeats 40000000 in
theorem own_at_3_1_1_1 (l : Launch) (Z : State) (a0 : Array Value) (hw : ∀ d ∈ tables_1, d.before a0 Z = true) (ws : List Jvm.Cond) (w_NO_ANCHORS : Addr) (k_NO_ANCHORS : ClassId) (h0 : Heap) (F : own_F Z h0 w_NO_ANCHORS k_NO_ANCHORS) (hB : Heap) (Fb : own_F Z hB w_NO_ANCHORS k_NO_ANCHORS) (o : Addr) (P O : Addr) (kP kO : ClassId) (v0 v1 v2 v3 v4 v5 v6 v7 u0 u1 u2 u3 u4 u5 u6 u7 : Int32)  (B0 : own_An Z hB h0 o P O kP kO [(.int v0), (.int v1), (.int v2), (.int v3), (.int v4), (.int v5), (.int v6), (.int v7)] [(.int u0), (.int u1), (.int u2), (.int u3), (.int u4), (.int u5), (.int u6), (.int u7)] (3 : Int32) (1 : Int32)) (x1 : Int32) (l1 : ¬ (v1 < x1)) (eq : v1 = x1) :
    own_C l (⟨"com/example/orthonorm/orthonorm/sanskrit/Anchors", "takeAt", "(I)I"⟩ : MethodName) prog_37_method_5_code 2 (some .int) ws (own_RC 0 0 0 0) #[(.ref o), (.int x1)] Z h0 (fun v h' L => v = (some (.int u1)) ∧ Fr hB.size L ∧ own_An Z hB h' o P O kP kO [(.int v0), (.int v1), (.int v2), (.int v3), (.int v4), (.int v5), (.int v6), (.int v7)] [(.int u0), (.int u1), (.int u2), (.int u3), (.int u4), (.int u5), (.int u6), (.int u7)] (3 : Int32) (2 : Int32)) := by
  have F0 := F
  obtain ⟨S_NO_ANCHORS, E_NO_ANCHORS, V_NO_ANCHORS⟩ := F
  refine own_enter (LS := #[rv o, iv x1]) (plainFor_of_name (by first | (simp [plainName, overriddenIn, x]; done) | decide +kernel)) (fun m => by first | (simp [entryFrame, mkF, argsToLocals, Value.category, maxLocals]; done) | rfl) ?_
  intro p e s m below meth c s₁ hx hby hml hown0 hnm hret hlk hZ X0 e0 hsh
  have hown : s.vm.findClass "com/example/orthonorm/orthonorm/sanskrit/Anchors" = some m.cls := hown0
  have sn := own_snI hw
  have N0 := Fr.nil hB.size
  refine oA1 X0 hx (hb hby d3_0) (pc' := 1) rfl rfl rfl ?_
  obtain ⟨T1, X1, e1, st1⟩ := getF X0 hx hZ hown (host := "") (Or.inl (hw _ (List.mem_of_getElem? (i := 22) rfl))) Via.refl e0 (own_Ob_t B0.1) (g := (mkF m 1 #[rv o, iv x1] [(.ref o)])) rfl rfl (hb hby d3_1)
  refine own_pre (T' := T1) (f' := (mkF m 4 #[rv o, iv x1] [(.int (1 : Int32))])) (fun t k => st1 t k) ?_
  refine oA1 X1 hx (hb hby d3_4) (pc' := 5) rfl rfl rfl ?_
  obtain ⟨T2, X2, e2, st2⟩ := getF X1 hx hZ hown (host := "") (Or.inl (hw _ (List.mem_of_getElem? (i := 24) rfl))) Via.refl e1 (own_Ob_s B0.1) (g := (mkF m 5 #[rv o, iv x1] [(.ref o), (.int (1 : Int32))])) rfl rfl (hb hby d3_5)
  refine own_pre (T' := T2) (f' := (mkF m 8 #[rv o, iv x1] [(.int (3 : Int32)), (.int (1 : Int32))])) (fun t k => st2 t k) ?_
  refine oN X2 hx (hb hby d3_8) (pc' := 11) rfl (tlt (by decide : (1 : Int32) < (3 : Int32))).2.1 ?_
  refine oA1 X2 hx (hb hby d3_11) (pc' := 12) rfl rfl rfl ?_
  obtain ⟨T3, X3, e3, st3⟩ := getF X2 hx hZ hown (host := "") (Or.inl (hw _ (List.mem_of_getElem? (i := 13) rfl))) Via.refl e2 (own_Ob_p B0.1) (g := (mkF m 12 #[rv o, iv x1] [(.ref o)])) rfl rfl (hb hby d3_12)
  refine own_pre (T' := T3) (f' := (mkF m 15 #[rv o, iv x1] [(.ref P)])) (fun t k => st3 t k) ?_
  refine oA1 X3 hx (hb hby d3_15) (pc' := 16) rfl rfl rfl ?_
  obtain ⟨T4, X4, e4, st4⟩ := getF X3 hx hZ hown (host := "") (Or.inl (hw _ (List.mem_of_getElem? (i := 22) rfl))) Via.refl e3 (own_Ob_t B0.1) (g := (mkF m 16 #[rv o, iv x1] [(.ref o), (.ref P)])) rfl rfl (hb hby d3_16)
  refine own_pre (T' := T4) (f' := (mkF m 19 #[rv o, iv x1] [(.int (1 : Int32)), (.ref P)])) (fun t k => st4 t k) ?_
  refine own_pre (T' := T4) (f' := (mkF m 20 #[rv o, iv x1] [(.int v1)])) (fun t k => own_ldI X4 hx hZ e4 (own_An_vp B0) (by decide) rfl (g := (mkF m 19 #[rv o, iv x1] [(.int (1 : Int32)), (.ref P)])) rfl rfl (hb hby d3_19) t k) ?_
  refine oI1 X4 hx (hb hby d3_20) (pc' := 21) rfl rfl ?_
  refine oY X4 hx (hb hby d3_21) (pc' := 37) (flt l1).2.1 (by decide) (by decide) ?_
  refine oA1 X4 hx (hb hby d3_37) (pc' := 38) rfl rfl rfl ?_
  obtain ⟨T5, X5, e5, st5⟩ := getF X4 hx hZ hown (host := "") (Or.inl (hw _ (List.mem_of_getElem? (i := 22) rfl))) Via.refl e4 (own_Ob_t B0.1) (g := (mkF m 38 #[rv o, iv x1] [(.ref o)])) rfl rfl (hb hby d3_38)
  refine own_pre (T' := T5) (f' := (mkF m 41 #[rv o, iv x1] [(.int (1 : Int32))])) (fun t k => st5 t k) ?_
  refine oA1 X5 hx (hb hby d3_41) (pc' := 42) rfl rfl rfl ?_
  obtain ⟨T6, X6, e6, st6⟩ := getF X5 hx hZ hown (host := "") (Or.inl (hw _ (List.mem_of_getElem? (i := 24) rfl))) Via.refl e5 (own_Ob_s B0.1) (g := (mkF m 42 #[rv o, iv x1] [(.ref o), (.int (1 : Int32))])) rfl rfl (hb hby d3_42)
  refine own_pre (T' := T6) (f' := (mkF m 45 #[rv o, iv x1] [(.int (3 : Int32)), (.int (1 : Int32))])) (fun t k => st6 t k) ?_
  refine oN X6 hx (hb hby d3_45) (pc' := 48) rfl (tlt (by decide : (1 : Int32) < (3 : Int32))).2.1 ?_
  refine oA1 X6 hx (hb hby d3_48) (pc' := 49) rfl rfl rfl ?_
  obtain ⟨T7, X7, e7, st7⟩ := getF X6 hx hZ hown (host := "") (Or.inl (hw _ (List.mem_of_getElem? (i := 13) rfl))) Via.refl e6 (own_Ob_p B0.1) (g := (mkF m 49 #[rv o, iv x1] [(.ref o)])) rfl rfl (hb hby d3_49)
  refine own_pre (T' := T7) (f' := (mkF m 52 #[rv o, iv x1] [(.ref P)])) (fun t k => st7 t k) ?_
  refine oA1 X7 hx (hb hby d3_52) (pc' := 53) rfl rfl rfl ?_
  obtain ⟨T8, X8, e8, st8⟩ := getF X7 hx hZ hown (host := "") (Or.inl (hw _ (List.mem_of_getElem? (i := 22) rfl))) Via.refl e7 (own_Ob_t B0.1) (g := (mkF m 53 #[rv o, iv x1] [(.ref o), (.ref P)])) rfl rfl (hb hby d3_53)
  refine own_pre (T' := T8) (f' := (mkF m 56 #[rv o, iv x1] [(.int (1 : Int32)), (.ref P)])) (fun t k => st8 t k) ?_
  refine own_pre (T' := T8) (f' := (mkF m 57 #[rv o, iv x1] [(.int v1)])) (fun t k => own_ldI X8 hx hZ e8 (own_An_vp B0) (by decide) rfl (g := (mkF m 56 #[rv o, iv x1] [(.int (1 : Int32)), (.ref P)])) rfl rfl (hb hby d3_56) t k) ?_
  refine oI1 X8 hx (hb hby d3_57) (pc' := 58) rfl rfl ?_
  refine oN X8 hx (hb hby d3_58) (pc' := 61) rfl (teq eq).2 ?_
  refine oA1 X8 hx (hb hby d3_61) (pc' := 62) rfl rfl rfl ?_
  obtain ⟨T9, X9, e9, st9⟩ := getF X8 hx hZ hown (host := "") (Or.inl (hw _ (List.mem_of_getElem? (i := 15) rfl))) Via.refl e8 (own_Ob_o B0.1) (g := (mkF m 62 #[rv o, iv x1] [(.ref o)])) rfl rfl (hb hby d3_62)
  refine own_pre (T' := T9) (f' := (mkF m 65 #[rv o, iv x1] [(.ref O)])) (fun t k => st9 t k) ?_
  refine oA1 X9 hx (hb hby d3_65) (pc' := 66) rfl rfl rfl ?_
  refine oD X9 hx (hb hby d3_66) (pc' := 67) rfl rfl ?_
  obtain ⟨T10, X10, e10, st10⟩ := getF X9 hx hZ hown (host := "") (Or.inl (hw _ (List.mem_of_getElem? (i := 22) rfl))) Via.refl e9 (own_Ob_t B0.1) (g := (mkF m 67 #[rv o, iv x1] [(.ref o), (.ref o), (.ref O)])) rfl rfl (hb hby d3_67)
  refine own_pre (T' := T10) (f' := (mkF m 70 #[rv o, iv x1] [(.int (1 : Int32)), (.ref o), (.ref O)])) (fun t k => st10 t k) ?_
  refine own_pre (T' := T10) (f' := (mkF m 71 #[rv o, iv x1] [(.int (1 : Int32)), (.ref o), (.int (1 : Int32)), (.ref O)])) (fun t k => XS.dupX1 X10.here hx rfl (hb hby d3_70) rfl rfl rfl k) ?_
  refine oC X10 hx (1 : Int32) (hb hby d3_71) (pc' := 72) rfl rfl ?_
  refine own_pre (T' := T10) (f' := (mkF m 73 #[rv o, iv x1] [(.int ((1 : Int32) + (1 : Int32))), (.ref o), (.int (1 : Int32)), (.ref O)])) (fun t k => XS.iadd X10.here hx rfl (hb hby d3_72) rfl k) ?_
  rw [show ((1 : Int32) + (1 : Int32)) = (2 : Int32) from by decide]
  obtain ⟨T11, h11, X11, e11, W11, st11⟩ := putF X10 hx hZ hown (host := "") (Or.inl (hw _ (List.mem_of_getElem? (i := 22) rfl))) Via.refl e10 (own_Ob_t B0.1) (own_Ob_E B0.1) (Or.inl (hw _ (List.mem_of_getElem? (i := 23) rfl))) (hw _ (List.mem_of_getElem? (i := 3) rfl)) (ty := .int) (by decide) rfl rfl (g := (mkF m 73 #[rv o, iv x1] [(.int (2 : Int32)), (.ref o), (.int (1 : Int32)), (.ref O)])) rfl rfl (hb hby d3_73)
  have N11 := Fr.snoc X11 N0 (own_Ob_g B0.1)
  have B11 : own_An Z hB h11 o P O kP kO [(.int v0), (.int v1), (.int v2), (.int v3), (.int v4), (.int v5), (.int v6), (.int v7)] [(.int u0), (.int u1), (.int u2), (.int u3), (.int u4), (.int u5), (.int u6), (.int u7)] (3 : Int32) (2 : Int32) := own_An_wt sn B0 W11
  refine own_pre (T' := T11) (f' := (mkF m 76 #[rv o, iv x1] [(.int (1 : Int32)), (.ref O)])) (fun t k => st11 t k) ?_
  refine own_pre (T' := T11) (f' := (mkF m 77 #[rv o, iv x1] [(.int u1)])) (fun t k => own_ldI X11 hx hZ e11 (own_An_vo B11) (by decide) rfl (g := (mkF m 76 #[rv o, iv x1] [(.int (1 : Int32)), (.ref O)])) rfl rfl (hb hby d3_76) t k) ?_
  refine oG X11 hx (hb hby d3_77) (pc' := 81) (by decide) (by decide) ?_
  exact own_retI X11 hx hlk hret (hb hby d3_81) (by rw [e11]; exact ⟨rfl, N11, B11⟩) (by decide) (by decide)
set_option maxRecDepth 65536 in
set_option maxHeartbeats 40000000 in
theorem own_at_3_1_2_0 (l : Launch) (Z : State) (a0 : Array Value) (hw : ∀ d ∈ tables_1, d.before a0 Z = true) (ws : List Jvm.Cond) (w_NO_ANCHORS : Addr) (k_NO_ANCHORS : ClassId) (h0 : Heap) (F : own_F Z h0 w_NO_ANCHORS k_NO_ANCHORS) (hB : Heap) (Fb : own_F Z hB w_NO_ANCHORS k_NO_ANCHORS) (o : Addr) (P O : Addr) (kP kO : ClassId) (v0 v1 v2 v3 v4 v5 v6 v7 u0 u1 u2 u3 u4 u5 u6 u7 : Int32)  (B0 : own_An Z hB h0 o P O kP kO [(.int v0), (.int v1), (.int v2), (.int v3), (.int v4), (.int v5), (.int v6), (.int v7)] [(.int u0), (.int u1), (.int u2), (.int u3), (.int u4), (.int u5), (.int u6), (.int u7)] (3 : Int32) (1 : Int32)) (x1 : Int32) (l1 : v1 < x1) (l2 : ¬ (v2 < x1)) (eq : ¬ (v2 = x1)) :
    own_C l (⟨"com/example/orthonorm/orthonorm/sanskrit/Anchors", "takeAt", "(I)I"⟩ : MethodName) prog_37_method_5_code 2 (some .int) ws (own_RC 0 0 0 0) #[(.ref o), (.int x1)] Z h0 (fun v h' L => v = (some (.int (-1 : Int32))) ∧ Fr hB.size L ∧ own_An Z hB h' o P O kP kO [(.int v0), (.int v1), (.int v2), (.int v3), (.int v4), (.int v5), (.int v6), (.int v7)] [(.int u0), (.int u1), (.int u2), (.int u3), (.int u4), (.int u5), (.int u6), (.int u7)] (3 : Int32) (2 : Int32)) := by
  have F0 := F
  obtain ⟨S_NO_ANCHORS, E_NO_ANCHORS, V_NO_ANCHORS⟩ := F
  refine own_enter (LS := #[rv o, iv x1]) (plainFor_of_name (by first | (simp [plainName, overriddenIn, x]; done) | decide +kernel)) (fun m => by first | (simp [entryFrame, mkF, argsToLocals, Value.category, maxLocals]; done) | rfl) ?_
  intro p e s m below meth c s₁ hx hby hml hown0 hnm hret hlk hZ X0 e0 hsh
  have hown : s.vm.findClass "com/example/orthonorm/orthonorm/sanskrit/Anchors" = some m.cls := hown0
  have sn := own_snI hw
  have N0 := Fr.nil hB.size
  refine oA1 X0 hx (hb hby d3_0) (pc' := 1) rfl rfl rfl ?_
  obtain ⟨T1, X1, e1, st1⟩ := getF X0 hx hZ hown (host := "") (Or.inl (hw _ (List.mem_of_getElem? (i := 22) rfl))) Via.refl e0 (own_Ob_t B0.1) (g := (mkF m 1 #[rv o, iv x1] [(.ref o)])) rfl rfl (hb hby d3_1)
  refine own_pre (T' := T1) (f' := (mkF m 4 #[rv o, iv x1] [(.int (1 : Int32))])) (fun t k => st1 t k) ?_
  refine oA1 X1 hx (hb hby d3_4) (pc' := 5) rfl rfl rfl ?_
  obtain ⟨T2, X2, e2, st2⟩ := getF X1 hx hZ hown (host := "") (Or.inl (hw _ (List.mem_of_getElem? (i := 24) rfl))) Via.refl e1 (own_Ob_s B0.1) (g := (mkF m 5 #[rv o, iv x1] [(.ref o), (.int (1 : Int32))])) rfl rfl (hb hby d3_5)
  refine own_pre (T' := T2) (f' := (mkF m 8 #[rv o, iv x1] [(.int (3 : Int32)), (.int (1 : Int32))])) (fun t k => st2 t k) ?_
  refine oN X2 hx (hb hby d3_8) (pc' := 11) rfl (tlt (by decide : (1 : Int32) < (3 : Int32))).2.1 ?_
  refine oA1 X2 hx (hb hby d3_11) (pc' := 12) rfl rfl rfl ?_
  obtain ⟨T3, X3, e3, st3⟩ := getF X2 hx hZ hown (host := "") (Or.inl (hw _ (List.mem_of_getElem? (i := 13) rfl))) Via.refl e2 (own_Ob_p B0.1) (g := (mkF m 12 #[rv o, iv x1] [(.ref o)])) rfl rfl (hb hby d3_12)
  refine own_pre (T' := T3) (f' := (mkF m 15 #[rv o, iv x1] [(.ref P)])) (fun t k => st3 t k) ?_
  refine oA1 X3 hx (hb hby d3_15) (pc' := 16) rfl rfl rfl ?_
  obtain ⟨T4, X4, e4, st4⟩ := getF X3 hx hZ hown (host := "") (Or.inl (hw _ (List.mem_of_getElem? (i := 22) rfl))) Via.refl e3 (own_Ob_t B0.1) (g := (mkF m 16 #[rv o, iv x1] [(.ref o), (.ref P)])) rfl rfl (hb hby d3_16)
  refine own_pre (T' := T4) (f' := (mkF m 19 #[rv o, iv x1] [(.int (1 : Int32)), (.ref P)])) (fun t k => st4 t k) ?_
  refine own_pre (T' := T4) (f' := (mkF m 20 #[rv o, iv x1] [(.int v1)])) (fun t k => own_ldI X4 hx hZ e4 (own_An_vp B0) (by decide) rfl (g := (mkF m 19 #[rv o, iv x1] [(.int (1 : Int32)), (.ref P)])) rfl rfl (hb hby d3_19) t k) ?_
  refine oI1 X4 hx (hb hby d3_20) (pc' := 21) rfl rfl ?_
  refine oN X4 hx (hb hby d3_21) (pc' := 24) rfl (tlt l1).2.1 ?_
  refine oA1 X4 hx (hb hby d3_24) (pc' := 25) rfl rfl rfl ?_
  refine oD X4 hx (hb hby d3_25) (pc' := 26) rfl rfl ?_
  obtain ⟨T5, X5, e5, st5⟩ := getF X4 hx hZ hown (host := "") (Or.inl (hw _ (List.mem_of_getElem? (i := 22) rfl))) Via.refl e4 (own_Ob_t B0.1) (g := (mkF m 26 #[rv o, iv x1] [(.ref o), (.ref o)])) rfl rfl (hb hby d3_26)
  refine own_pre (T' := T5) (f' := (mkF m 29 #[rv o, iv x1] [(.int (1 : Int32)), (.ref o)])) (fun t k => st5 t k) ?_
  refine oC X5 hx (1 : Int32) (hb hby d3_29) (pc' := 30) rfl rfl ?_
  refine own_pre (T' := T5) (f' := (mkF m 31 #[rv o, iv x1] [(.int ((1 : Int32) + (1 : Int32))), (.ref o)])) (fun t k => XS.iadd X5.here hx rfl (hb hby d3_30) rfl k) ?_
  rw [show ((1 : Int32) + (1 : Int32)) = (2 : Int32) from by decide]
  obtain ⟨T6, h6, X6, e6, W6, st6⟩ := putF X5 hx hZ hown (host := "") (Or.inl (hw _ (List.mem_of_getElem? (i := 22) rfl))) Via.refl e5 (own_Ob_t B0.1) (own_Ob_E B0.1) (Or.inl (hw _ (List.mem_of_getElem? (i := 23) rfl))) (hw _ (List.mem_of_getElem? (i := 3) rfl)) (ty := .int) (by decide) rfl rfl (g := (mkF m 31 #[rv o, iv x1] [(.int (2 : Int32)), (.ref o)])) rfl rfl (hb hby d3_31)
  have N6 := Fr.snoc X6 N0 (own_Ob_g B0.1)
  have B6 : own_An Z hB h6 o P O kP kO [(.int v0), (.int v1), (.int v2), (.int v3), (.int v4), (.int v5), (.int v6), (.int v7)] [(.int u0), (.int u1), (.int u2), (.int u3), (.int u4), (.int u5), (.int u6), (.int u7)] (3 : Int32) (2 : Int32) := own_An_wt sn B0 W6
  refine own_pre (T' := T6) (f' := (mkF m 34 #[rv o, iv x1] [])) (fun t k => st6 t k) ?_
  refine oG X6 hx (hb hby d3_34) (pc' := 0) (by decide) (by decide) ?_
  refine oA1 X6 hx (hb hby d3_0) (pc' := 1) rfl rfl rfl ?_
  obtain ⟨T7, X7, e7, st7⟩ := getF X6 hx hZ hown (host := "") (Or.inl (hw _ (List.mem_of_getElem? (i := 22) rfl))) Via.refl e6 (own_Ob_t B6.1) (g := (mkF m 1 #[rv o, iv x1] [(.ref o)])) rfl rfl (hb hby d3_1)
  refine own_pre (T' := T7) (f' := (mkF m 4 #[rv o, iv x1] [(.int (2 : Int32))])) (fun t k => st7 t k) ?_
  refine oA1 X7 hx (hb hby d3_4) (pc' := 5) rfl rfl rfl ?_
  obtain ⟨T8, X8, e8, st8⟩ := getF X7 hx hZ hown (host := "") (Or.inl (hw _ (List.mem_of_getElem? (i := 24) rfl))) Via.refl e7 (own_Ob_s B6.1) (g := (mkF m 5 #[rv o, iv x1] [(.ref o), (.int (2 : Int32))])) rfl rfl (hb hby d3_5)
  refine own_pre (T' := T8) (f' := (mkF m 8 #[rv o, iv x1] [(.int (3 : Int32)), (.int (2 : Int32))])) (fun t k => st8 t k) ?_
  refine oN X8 hx (hb hby d3_8) (pc' := 11) rfl (tlt (by decide : (2 : Int32) < (3 : Int32))).2.1 ?_
  refine oA1 X8 hx (hb hby d3_11) (pc' := 12) rfl rfl rfl ?_
  obtain ⟨T9, X9, e9, st9⟩ := getF X8 hx hZ hown (host := "") (Or.inl (hw _ (List.mem_of_getElem? (i := 13) rfl))) Via.refl e8 (own_Ob_p B6.1) (g := (mkF m 12 #[rv o, iv x1] [(.ref o)])) rfl rfl (hb hby d3_12)
  refine own_pre (T' := T9) (f' := (mkF m 15 #[rv o, iv x1] [(.ref P)])) (fun t k => st9 t k) ?_
  refine oA1 X9 hx (hb hby d3_15) (pc' := 16) rfl rfl rfl ?_
  obtain ⟨T10, X10, e10, st10⟩ := getF X9 hx hZ hown (host := "") (Or.inl (hw _ (List.mem_of_getElem? (i := 22) rfl))) Via.refl e9 (own_Ob_t B6.1) (g := (mkF m 16 #[rv o, iv x1] [(.ref o), (.ref P)])) rfl rfl (hb hby d3_16)
  refine own_pre (T' := T10) (f' := (mkF m 19 #[rv o, iv x1] [(.int (2 : Int32)), (.ref P)])) (fun t k => st10 t k) ?_
  refine own_pre (T' := T10) (f' := (mkF m 20 #[rv o, iv x1] [(.int v2)])) (fun t k => own_ldI X10 hx hZ e10 (own_An_vp B6) (by decide) rfl (g := (mkF m 19 #[rv o, iv x1] [(.int (2 : Int32)), (.ref P)])) rfl rfl (hb hby d3_19) t k) ?_
  refine oI1 X10 hx (hb hby d3_20) (pc' := 21) rfl rfl ?_
  refine oY X10 hx (hb hby d3_21) (pc' := 37) (flt l2).2.1 (by decide) (by decide) ?_
  refine oA1 X10 hx (hb hby d3_37) (pc' := 38) rfl rfl rfl ?_
  obtain ⟨T11, X11, e11, st11⟩ := getF X10 hx hZ hown (host := "") (Or.inl (hw _ (List.mem_of_getElem? (i := 22) rfl))) Via.refl e10 (own_Ob_t B6.1) (g := (mkF m 38 #[rv o, iv x1] [(.ref o)])) rfl rfl (hb hby d3_38)
  refine own_pre (T' := T11) (f' := (mkF m 41 #[rv o, iv x1] [(.int (2 : Int32))])) (fun t k => st11 t k) ?_
  refine oA1 X11 hx (hb hby d3_41) (pc' := 42) rfl rfl rfl ?_
  obtain ⟨T12, X12, e12, st12⟩ := getF X11 hx hZ hown (host := "") (Or.inl (hw _ (List.mem_of_getElem? (i := 24) rfl))) Via.refl e11 (own_Ob_s B6.1) (g := (mkF m 42 #[rv o, iv x1] [(.ref o), (.int (2 : Int32))])) rfl rfl (hb hby d3_42)
  refine own_pre (T' := T12) (f' := (mkF m 45 #[rv o, iv x1] [(.int (3 : Int32)), (.int (2 : Int32))])) (fun t k => st12 t k) ?_
  refine oN X12 hx (hb hby d3_45) (pc' := 48) rfl (tlt (by decide : (2 : Int32) < (3 : Int32))).2.1 ?_
  refine oA1 X12 hx (hb hby d3_48) (pc' := 49) rfl rfl rfl ?_
  obtain ⟨T13, X13, e13, st13⟩ := getF X12 hx hZ hown (host := "") (Or.inl (hw _ (List.mem_of_getElem? (i := 13) rfl))) Via.refl e12 (own_Ob_p B6.1) (g := (mkF m 49 #[rv o, iv x1] [(.ref o)])) rfl rfl (hb hby d3_49)
  refine own_pre (T' := T13) (f' := (mkF m 52 #[rv o, iv x1] [(.ref P)])) (fun t k => st13 t k) ?_
  refine oA1 X13 hx (hb hby d3_52) (pc' := 53) rfl rfl rfl ?_
  obtain ⟨T14, X14, e14, st14⟩ := getF X13 hx hZ hown (host := "") (Or.inl (hw _ (List.mem_of_getElem? (i := 22) rfl))) Via.refl e13 (own_Ob_t B6.1) (g := (mkF m 53 #[rv o, iv x1] [(.ref o), (.ref P)])) rfl rfl (hb hby d3_53)
  refine own_pre (T' := T14) (f' := (mkF m 56 #[rv o, iv x1] [(.int (2 : Int32)), (.ref P)])) (fun t k => st14 t k) ?_
  refine own_pre (T' := T14) (f' := (mkF m 57 #[rv o, iv x1] [(.int v2)])) (fun t k => own_ldI X14 hx hZ e14 (own_An_vp B6) (by decide) rfl (g := (mkF m 56 #[rv o, iv x1] [(.int (2 : Int32)), (.ref P)])) rfl rfl (hb hby d3_56) t k) ?_
  refine oI1 X14 hx (hb hby d3_57) (pc' := 58) rfl rfl ?_
  refine oY X14 hx (hb hby d3_58) (pc' := 80) (feq eq).2 (by decide) (by decide) ?_
  refine oC X14 hx (-1 : Int32) (hb hby d3_80) (pc' := 81) rfl rfl ?_
  exact own_retI X14 hx hlk hret (hb hby d3_81) (by rw [e14]; exact ⟨rfl, N6, B6⟩) (by decide) (by decide)
set_option maxRecDepth 65536 in
set_option maxHeartbeats 40000000 in
theorem own_at_3_1_2_1 (l : Launch) (Z : State) (a0 : Array Value) (hw : ∀ d ∈ tables_1, d.before a0 Z = true) (ws : List Jvm.Cond) (w_NO_ANCHORS : Addr) (k_NO_ANCHORS : ClassId) (h0 : Heap) (F : own_F Z h0 w_NO_ANCHORS k_NO_ANCHORS) (hB : Heap) (Fb : own_F Z hB w_NO_ANCHORS k_NO_ANCHORS) (o : Addr) (P O : Addr) (kP kO : ClassId) (v0 v1 v2 v3 v4 v5 v6 v7 u0 u1 u2 u3 u4 u5 u6 u7 : Int32)  (B0 : own_An Z hB h0 o P O kP kO [(.int v0), (.int v1), (.int v2), (.int v3), (.int v4), (.int v5), (.int v6), (.int v7)] [(.int u0), (.int u1), (.int u2), (.int u3), (.int u4), (.int u5), (.int u6), (.int u7)] (3 : Int32) (1 : Int32)) (x1 : Int32) (l1 : v1 < x1) (l2 : ¬ (v2 < x1)) (eq : v2 = x1) :
    own_C l (⟨"com/example/orthonorm/orthonorm/sanskrit/Anchors", "takeAt", "(I)I"⟩ : MethodName) prog_37_method_5_code 2 (some .int) ws (own_RC 0 0 0 0) #[(.ref o), (.int x1)] Z h0 (fun v h' L => v = (some (.int u2)) ∧ Fr hB.size L ∧ own_An Z hB h' o P O kP kO [(.int v0), (.int v1), (.int v2), (.int v3), (.int v4), (.int v5), (.int v6), (.int v7)] [(.int u0), (.int u1), (.int u2), (.int u3), (.int u4), (.int u5), (.int u6), (.int u7)] (3 : Int32) (3 : Int32)) := by
  have F0 := F
  obtain ⟨S_NO_ANCHORS, E_NO_ANCHORS, V_NO_ANCHORS⟩ := F
  refine own_enter (LS := #[rv o, iv x1]) (plainFor_of_name (by first | (simp [plainName, overriddenIn, x]; done) | decide +kernel)) (fun m => by first | (simp [entryFrame, mkF, argsToLocals, Value.category, maxLocals]; done) | rfl) ?_
  intro p e s m below meth c s₁ hx hby hml hown0 hnm hret hlk hZ X0 e0 hsh
  have hown : s.vm.findClass "com/example/orthonorm/orthonorm/sanskrit/Anchors" = some m.cls := hown0
  have sn := own_snI hw
  have N0 := Fr.nil hB.size
  refine oA1 X0 hx (hb hby d3_0) (pc' := 1) rfl rfl rfl ?_
  obtain ⟨T1, X1, e1, st1⟩ := getF X0 hx hZ hown (host := "") (Or.inl (hw _ (List.mem_of_getElem? (i := 22) rfl))) Via.refl e0 (own_Ob_t B0.1) (g := (mkF m 1 #[rv o, iv x1] [(.ref o)])) rfl rfl (hb hby d3_1)
  refine own_pre (T' := T1) (f' := (mkF m 4 #[rv o, iv x1] [(.int (1 : Int32))])) (fun t k => st1 t k) ?_
  refine oA1 X1 hx (hb hby d3_4) (pc' := 5) rfl rfl rfl ?_
  obtain ⟨T2, X2, e2, st2⟩ := getF X1 hx hZ hown (host := "") (Or.inl (hw _ (List.mem_of_getElem? (i := 24) rfl))) Via.refl e1 (own_Ob_s B0.1) (g := (mkF m 5 #[rv o, iv x1] [(.ref o), (.int (1 : Int32))])) rfl rfl (hb hby d3_5)
  refine own_pre (T' := T2) (f' := (mkF m 8 #[rv o, iv x1] [(.int (3 : Int32)), (.int (1 : Int32))])) (fun t k => st2 t k) ?_
  refine oN X2 hx (hb hby d3_8) (pc' := 11) rfl (tlt (by decide : (1 : Int32) < (3 : Int32))).2.1 ?_
  refine oA1 X2 hx (hb hby d3_11) (pc' := 12) rfl rfl rfl ?_
  obtain ⟨T3, X3, e3, st3⟩ := getF X2 hx hZ hown (host := "") (Or.inl (hw _ (List.mem_of_getElem? (i := 13) rfl))) Via.refl e2 (own_Ob_p B0.1) (g := (mkF m 12 #[rv o, iv x1] [(.ref o)])) rfl rfl (hb hby d3_12)
  refine own_pre (T' := T3) (f' := (mkF m 15 #[rv o, iv x1] [(.ref P)])) (fun t k => st3 t k) ?_
  refine oA1 X3 hx (hb hby d3_15) (pc' := 16) rfl rfl rfl ?_
  obtain ⟨T4, X4, e4, st4⟩ := getF X3 hx hZ hown (host := "") (Or.inl (hw _ (List.mem_of_getElem? (i := 22) rfl))) Via.refl e3 (own_Ob_t B0.1) (g := (mkF m 16 #[rv o, iv x1] [(.ref o), (.ref P)])) rfl rfl (hb hby d3_16)
  refine own_pre (T' := T4) (f' := (mkF m 19 #[rv o, iv x1] [(.int (1 : Int32)), (.ref P)])) (fun t k => st4 t k) ?_
  refine own_pre (T' := T4) (f' := (mkF m 20 #[rv o, iv x1] [(.int v1)])) (fun t k => own_ldI X4 hx hZ e4 (own_An_vp B0) (by decide) rfl (g := (mkF m 19 #[rv o, iv x1] [(.int (1 : Int32)), (.ref P)])) rfl rfl (hb hby d3_19) t k) ?_
  refine oI1 X4 hx (hb hby d3_20) (pc' := 21) rfl rfl ?_
  refine oN X4 hx (hb hby d3_21) (pc' := 24) rfl (tlt l1).2.1 ?_
  refine oA1 X4 hx (hb hby d3_24) (pc' := 25) rfl rfl rfl ?_
  refine oD X4 hx (hb hby d3_25) (pc' := 26) rfl rfl ?_
  obtain ⟨T5, X5, e5, st5⟩ := getF X4 hx hZ hown (host := "") (Or.inl (hw _ (List.mem_of_getElem? (i := 22) rfl))) Via.refl e4 (own_Ob_t B0.1) (g := (mkF m 26 #[rv o, iv x1] [(.ref o), (.ref o)])) rfl rfl (hb hby d3_26)
  refine own_pre (T' := T5) (f' := (mkF m 29 #[rv o, iv x1] [(.int (1 : Int32)), (.ref o)])) (fun t k => st5 t k) ?_
  refine oC X5 hx (1 : Int32) (hb hby d3_29) (pc' := 30) rfl rfl ?_
  refine own_pre (T' := T5) (f' := (mkF m 31 #[rv o, iv x1] [(.int ((1 : Int32) + (1 : Int32))), (.ref o)])) (fun t k => XS.iadd X5.here hx rfl (hb hby d3_30) rfl k) ?_
  rw [show ((1 : Int32) + (1 : Int32)) = (2 : Int32) from by decide]
  obtain ⟨T6, h6, X6, e6, W6, st6⟩ := putF X5 hx hZ hown (host := "") (Or.inl (hw _ (List.mem_of_getElem? (i := 22) rfl))) Via.refl e5 (own_Ob_t B0.1) (own_Ob_E B0.1) (Or.inl (hw _ (List.mem_of_getElem? (i := 23) rfl))) (hw _ (List.mem_of_getElem? (i := 3) rfl)) (ty := .int) (by decide) rfl rfl (g := (mkF m 31 #[rv o, iv x1] [(.int (2 : Int32)), (.ref o)])) rfl rfl (hb hby d3_31)
  have N6 := Fr.snoc X6 N0 (own_Ob_g B0.1)
  have B6 : own_An Z hB h6 o P O kP kO [(.int v0), (.int v1), (.int v2), (.int v3), (.int v4), (.int v5), (.int v6), (.int v7)] [(.int u0), (.int u1), (.int u2), (.int u3), (.int u4), (.int u5), (.int u6), (.int u7)] (3 : Int32) (2 : Int32) := own_An_wt sn B0 W6
  refine own_pre (T' := T6) (f' := (mkF m 34 #[rv o, iv x1] [])) (fun t k => st6 t k) ?_
  refine oG X6 hx (hb hby d3_34) (pc' := 0) (by decide) (by decide) ?_
  refine oA1 X6 hx (hb hby d3_0) (pc' := 1) rfl rfl rfl ?_
  obtain ⟨T7, X7, e7, st7⟩ := getF X6 hx hZ hown (host := "") (Or.inl (hw _ (List.mem_of_getElem? (i := 22) rfl))) Via.refl e6 (own_Ob_t B6.1) (g := (mkF m 1 #[rv o, iv x1] [(.ref o)])) rfl rfl (hb hby d3_1)
  refine own_pre (T' := T7) (f' := (mkF m 4 #[rv o, iv x1] [(.int (2 : Int32))])) (fun t k => st7 t k) ?_
  refine oA1 X7 hx (hb hby d3_4) (pc' := 5) rfl rfl rfl ?_
  obtain ⟨T8, X8, e8, st8⟩ := getF X7 hx hZ hown (host := "") (Or.inl (hw _ (List.mem_of_getElem? (i := 24) rfl))) Via.refl e7 (own_Ob_s B6.1) (g := (mkF m 5 #[rv o, iv x1] [(.ref o), (.int (2 : Int32))])) rfl rfl (hb hby d3_5)
  refine own_pre (T' := T8) (f' := (mkF m 8 #[rv o, iv x1] [(.int (3 : Int32)), (.int (2 : Int32))])) (fun t k => st8 t k) ?_
  refine oN X8 hx (hb hby d3_8) (pc' := 11) rfl (tlt (by decide : (2 : Int32) < (3 : Int32))).2.1 ?_
  refine oA1 X8 hx (hb hby d3_11) (pc' := 12) rfl rfl rfl ?_
  obtain ⟨T9, X9, e9, st9⟩ := getF X8 hx hZ hown (host := "") (Or.inl (hw _ (List.mem_of_getElem? (i := 13) rfl))) Via.refl e8 (own_Ob_p B6.1) (g := (mkF m 12 #[rv o, iv x1] [(.ref o)])) rfl rfl (hb hby d3_12)
  refine own_pre (T' := T9) (f' := (mkF m 15 #[rv o, iv x1] [(.ref P)])) (fun t k => st9 t k) ?_
  refine oA1 X9 hx (hb hby d3_15) (pc' := 16) rfl rfl rfl ?_
  obtain ⟨T10, X10, e10, st10⟩ := getF X9 hx hZ hown (host := "") (Or.inl (hw _ (List.mem_of_getElem? (i := 22) rfl))) Via.refl e9 (own_Ob_t B6.1) (g := (mkF m 16 #[rv o, iv x1] [(.ref o), (.ref P)])) rfl rfl (hb hby d3_16)
  refine own_pre (T' := T10) (f' := (mkF m 19 #[rv o, iv x1] [(.int (2 : Int32)), (.ref P)])) (fun t k => st10 t k) ?_
  refine own_pre (T' := T10) (f' := (mkF m 20 #[rv o, iv x1] [(.int v2)])) (fun t k => own_ldI X10 hx hZ e10 (own_An_vp B6) (by decide) rfl (g := (mkF m 19 #[rv o, iv x1] [(.int (2 : Int32)), (.ref P)])) rfl rfl (hb hby d3_19) t k) ?_
  refine oI1 X10 hx (hb hby d3_20) (pc' := 21) rfl rfl ?_
  refine oY X10 hx (hb hby d3_21) (pc' := 37) (flt l2).2.1 (by decide) (by decide) ?_
  refine oA1 X10 hx (hb hby d3_37) (pc' := 38) rfl rfl rfl ?_
  obtain ⟨T11, X11, e11, st11⟩ := getF X10 hx hZ hown (host := "") (Or.inl (hw _ (List.mem_of_getElem? (i := 22) rfl))) Via.refl e10 (own_Ob_t B6.1) (g := (mkF m 38 #[rv o, iv x1] [(.ref o)])) rfl rfl (hb hby d3_38)
  refine own_pre (T' := T11) (f' := (mkF m 41 #[rv o, iv x1] [(.int (2 : Int32))])) (fun t k => st11 t k) ?_
  refine oA1 X11 hx (hb hby d3_41) (pc' := 42) rfl rfl rfl ?_
  obtain ⟨T12, X12, e12, st12⟩ := getF X11 hx hZ hown (host := "") (Or.inl (hw _ (List.mem_of_getElem? (i := 24) rfl))) Via.refl e11 (own_Ob_s B6.1) (g := (mkF m 42 #[rv o, iv x1] [(.ref o), (.int (2 : Int32))])) rfl rfl (hb hby d3_42)
  refine own_pre (T' := T12) (f' := (mkF m 45 #[rv o, iv x1] [(.int (3 : Int32)), (.int (2 : Int32))])) (fun t k => st12 t k) ?_
  refine oN X12 hx (hb hby d3_45) (pc' := 48) rfl (tlt (by decide : (2 : Int32) < (3 : Int32))).2.1 ?_
  refine oA1 X12 hx (hb hby d3_48) (pc' := 49) rfl rfl rfl ?_
  obtain ⟨T13, X13, e13, st13⟩ := getF X12 hx hZ hown (host := "") (Or.inl (hw _ (List.mem_of_getElem? (i := 13) rfl))) Via.refl e12 (own_Ob_p B6.1) (g := (mkF m 49 #[rv o, iv x1] [(.ref o)])) rfl rfl (hb hby d3_49)
  refine own_pre (T' := T13) (f' := (mkF m 52 #[rv o, iv x1] [(.ref P)])) (fun t k => st13 t k) ?_
  refine oA1 X13 hx (hb hby d3_52) (pc' := 53) rfl rfl rfl ?_
  obtain ⟨T14, X14, e14, st14⟩ := getF X13 hx hZ hown (host := "") (Or.inl (hw _ (List.mem_of_getElem? (i := 22) rfl))) Via.refl e13 (own_Ob_t B6.1) (g := (mkF m 53 #[rv o, iv x1] [(.ref o), (.ref P)])) rfl rfl (hb hby d3_53)
  refine own_pre (T' := T14) (f' := (mkF m 56 #[rv o, iv x1] [(.int (2 : Int32)), (.ref P)])) (fun t k => st14 t k) ?_
  refine own_pre (T' := T14) (f' := (mkF m 57 #[rv o, iv x1] [(.int v2)])) (fun t k => own_ldI X14 hx hZ e14 (own_An_vp B6) (by decide) rfl (g := (mkF m 56 #[rv o, iv x1] [(.int (2 : Int32)), (.ref P)])) rfl rfl (hb hby d3_56) t k) ?_
  refine oI1 X14 hx (hb hby d3_57) (pc' := 58) rfl rfl ?_
  refine oN X14 hx (hb hby d3_58) (pc' := 61) rfl (teq eq).2 ?_
  refine oA1 X14 hx (hb hby d3_61) (pc' := 62) rfl rfl rfl ?_
  obtain ⟨T15, X15, e15, st15⟩ := getF X14 hx hZ hown (host := "") (Or.inl (hw _ (List.mem_of_getElem? (i := 15) rfl))) Via.refl e14 (own_Ob_o B6.1) (g := (mkF m 62 #[rv o, iv x1] [(.ref o)])) rfl rfl (hb hby d3_62)
  refine own_pre (T' := T15) (f' := (mkF m 65 #[rv o, iv x1] [(.ref O)])) (fun t k => st15 t k) ?_
  refine oA1 X15 hx (hb hby d3_65) (pc' := 66) rfl rfl rfl ?_
  refine oD X15 hx (hb hby d3_66) (pc' := 67) rfl rfl ?_
  obtain ⟨T16, X16, e16, st16⟩ := getF X15 hx hZ hown (host := "") (Or.inl (hw _ (List.mem_of_getElem? (i := 22) rfl))) Via.refl e15 (own_Ob_t B6.1) (g := (mkF m 67 #[rv o, iv x1] [(.ref o), (.ref o), (.ref O)])) rfl rfl (hb hby d3_67)
  refine own_pre (T' := T16) (f' := (mkF m 70 #[rv o, iv x1] [(.int (2 : Int32)), (.ref o), (.ref O)])) (fun t k => st16 t k) ?_
  refine own_pre (T' := T16) (f' := (mkF m 71 #[rv o, iv x1] [(.int (2 : Int32)), (.ref o), (.int (2 : Int32)), (.ref O)])) (fun t k => XS.dupX1 X16.here hx rfl (hb hby d3_70) rfl rfl rfl k) ?_
  refine oC X16 hx (1 : Int32) (hb hby d3_71) (pc' := 72) rfl rfl ?_
  refine own_pre (T' := T16) (f' := (mkF m 73 #[rv o, iv x1] [(.int ((2 : Int32) + (1 : Int32))), (.ref o), (.int (2 : Int32)), (.ref O)])) (fun t k => XS.iadd X16.here hx rfl (hb hby d3_72) rfl k) ?_
  rw [show ((2 : Int32) + (1 : Int32)) = (3 : Int32) from by decide]
  obtain ⟨T17, h17, X17, e17, W17, st17⟩ := putF X16 hx hZ hown (host := "") (Or.inl (hw _ (List.mem_of_getElem? (i := 22) rfl))) Via.refl e16 (own_Ob_t B6.1) (own_Ob_E B6.1) (Or.inl (hw _ (List.mem_of_getElem? (i := 23) rfl))) (hw _ (List.mem_of_getElem? (i := 3) rfl)) (ty := .int) (by decide) rfl rfl (g := (mkF m 73 #[rv o, iv x1] [(.int (3 : Int32)), (.ref o), (.int (2 : Int32)), (.ref O)])) rfl rfl (hb hby d3_73)
  have N17 := Fr.snoc X17 N6 (own_Ob_g B6.1)
  have B17 : own_An Z hB h17 o P O kP kO [(.int v0), (.int v1), (.int v2), (.int v3), (.int v4), (.int v5), (.int v6), (.int v7)] [(.int u0), (.int u1), (.int u2), (.int u3), (.int u4), (.int u5), (.int u6), (.int u7)] (3 : Int32) (3 : Int32) := own_An_wt sn B6 W17
  refine own_pre (T' := T17) (f' := (mkF m 76 #[rv o, iv x1] [(.int (2 : Int32)), (.ref O)])) (fun t k => st17 t k) ?_
  refine own_pre (T' := T17) (f' := (mkF m 77 #[rv o, iv x1] [(.int u2)])) (fun t k => own_ldI X17 hx hZ e17 (own_An_vo B17) (by decide) rfl (g := (mkF m 76 #[rv o, iv x1] [(.int (2 : Int32)), (.ref O)])) rfl rfl (hb hby d3_76) t k) ?_
  refine oG X17 hx (hb hby d3_77) (pc' := 81) (by decide) (by decide) ?_
  exact own_retI X17 hx hlk hret (hb hby d3_81) (by rw [e17]; exact ⟨rfl, N17, B17⟩) (by decide) (by decide)
set_option maxRecDepth 65536 in
set_option maxHeartbeats 40000000 in
theorem own_at_3_1_3_0 (l : Launch) (Z : State) (a0 : Array Value) (hw : ∀ d ∈ tables_1, d.before a0 Z = true) (ws : List Jvm.Cond) (w_NO_ANCHORS : Addr) (k_NO_ANCHORS : ClassId) (h0 : Heap) (F : own_F Z h0 w_NO_ANCHORS k_NO_ANCHORS) (hB : Heap) (Fb : own_F Z hB w_NO_ANCHORS k_NO_ANCHORS) (o : Addr) (P O : Addr) (kP kO : ClassId) (v0 v1 v2 v3 v4 v5 v6 v7 u0 u1 u2 u3 u4 u5 u6 u7 : Int32)  (B0 : own_An Z hB h0 o P O kP kO [(.int v0), (.int v1), (.int v2), (.int v3), (.int v4), (.int v5), (.int v6), (.int v7)] [(.int u0), (.int u1), (.int u2), (.int u3), (.int u4), (.int u5), (.int u6), (.int u7)] (3 : Int32) (1 : Int32)) (x1 : Int32) (l1 : v1 < x1) (l2 : v2 < x1) :
    own_C l (⟨"com/example/orthonorm/orthonorm/sanskrit/Anchors", "takeAt", "(I)I"⟩ : MethodName) prog_37_method_5_code 2 (some .int) ws (own_RC 0 0 0 0) #[(.ref o), (.int x1)] Z h0 (fun v h' L => v = (some (.int (-1 : Int32))) ∧ Fr hB.size L ∧ own_An Z hB h' o P O kP kO [(.int v0), (.int v1), (.int v2), (.int v3), (.int v4), (.int v5), (.int v6), (.int v7)] [(.int u0), (.int u1), (.int u2), (.int u3), (.int u4), (.int u5), (.int u6), (.int u7)] (3 : Int32) (3 : Int32)) := by
  have F0 := F
  obtain ⟨S_NO_ANCHORS, E_NO_ANCHORS, V_NO_ANCHORS⟩ := F
  refine own_enter (LS := #[rv o, iv x1]) (plainFor_of_name (by first | (simp [plainName, overriddenIn, x]; done) | decide +kernel)) (fun m => by first | (simp [entryFrame, mkF, argsToLocals, Value.category, maxLocals]; done) | rfl) ?_
  intro p e s m below meth c s₁ hx hby hml hown0 hnm hret hlk hZ X0 e0 hsh
  have hown : s.vm.findClass "com/example/orthonorm/orthonorm/sanskrit/Anchors" = some m.cls := hown0
  have sn := own_snI hw
  have N0 := Fr.nil hB.size
  refine oA1 X0 hx (hb hby d3_0) (pc' := 1) rfl rfl rfl ?_
  obtain ⟨T1, X1, e1, st1⟩ := getF X0 hx hZ hown (host := "") (Or.inl (hw _ (List.mem_of_getElem? (i := 22) rfl))) Via.refl e0 (own_Ob_t B0.1) (g := (mkF m 1 #[rv o, iv x1] [(.ref o)])) rfl rfl (hb hby d3_1)
  refine own_pre (T' := T1) (f' := (mkF m 4 #[rv o, iv x1] [(.int (1 : Int32))])) (fun t k => st1 t k) ?_
  refine oA1 X1 hx (hb hby d3_4) (pc' := 5) rfl rfl rfl ?_
  obtain ⟨T2, X2, e2, st2⟩ := getF X1 hx hZ hown (host := "") (Or.inl (hw _ (List.mem_of_getElem? (i := 24) rfl))) Via.refl e1 (own_Ob_s B0.1) (g := (mkF m 5 #[rv o, iv x1] [(.ref o), (.int (1 : Int32))])) rfl rfl (hb hby d3_5)
  refine own_pre (T' := T2) (f' := (mkF m 8 #[rv o, iv x1] [(.int (3 : Int32)), (.int (1 : Int32))])) (fun t k => st2 t k) ?_
  refine oN X2 hx (hb hby d3_8) (pc' := 11) rfl (tlt (by decide : (1 : Int32) < (3 : Int32))).2.1 ?_
  refine oA1 X2 hx (hb hby d3_11) (pc' := 12) rfl rfl rfl ?_
  obtain ⟨T3, X3, e3, st3⟩ := getF X2 hx hZ hown (host := "") (Or.inl (hw _ (List.mem_of_getElem? (i := 13) rfl))) Via.refl e2 (own_Ob_p B0.1) (g := (mkF m 12 #[rv o, iv x1] [(.ref o)])) rfl rfl (hb hby d3_12)
  refine own_pre (T' := T3) (f' := (mkF m 15 #[rv o, iv x1] [(.ref P)])) (fun t k => st3 t k) ?_
  refine oA1 X3 hx (hb hby d3_15) (pc' := 16) rfl rfl rfl ?_
  obtain ⟨T4, X4, e4, st4⟩ := getF X3 hx hZ hown (host := "") (Or.inl (hw _ (List.mem_of_getElem? (i := 22) rfl))) Via.refl e3 (own_Ob_t B0.1) (g := (mkF m 16 #[rv o, iv x1] [(.ref o), (.ref P)])) rfl rfl (hb hby d3_16)
  refine own_pre (T' := T4) (f' := (mkF m 19 #[rv o, iv x1] [(.int (1 : Int32)), (.ref P)])) (fun t k => st4 t k) ?_
  refine own_pre (T' := T4) (f' := (mkF m 20 #[rv o, iv x1] [(.int v1)])) (fun t k => own_ldI X4 hx hZ e4 (own_An_vp B0) (by decide) rfl (g := (mkF m 19 #[rv o, iv x1] [(.int (1 : Int32)), (.ref P)])) rfl rfl (hb hby d3_19) t k) ?_
  refine oI1 X4 hx (hb hby d3_20) (pc' := 21) rfl rfl ?_
  refine oN X4 hx (hb hby d3_21) (pc' := 24) rfl (tlt l1).2.1 ?_
  refine oA1 X4 hx (hb hby d3_24) (pc' := 25) rfl rfl rfl ?_
  refine oD X4 hx (hb hby d3_25) (pc' := 26) rfl rfl ?_
  obtain ⟨T5, X5, e5, st5⟩ := getF X4 hx hZ hown (host := "") (Or.inl (hw _ (List.mem_of_getElem? (i := 22) rfl))) Via.refl e4 (own_Ob_t B0.1) (g := (mkF m 26 #[rv o, iv x1] [(.ref o), (.ref o)])) rfl rfl (hb hby d3_26)
  refine own_pre (T' := T5) (f' := (mkF m 29 #[rv o, iv x1] [(.int (1 : Int32)), (.ref o)])) (fun t k => st5 t k) ?_
  refine oC X5 hx (1 : Int32) (hb hby d3_29) (pc' := 30) rfl rfl ?_
  refine own_pre (T' := T5) (f' := (mkF m 31 #[rv o, iv x1] [(.int ((1 : Int32) + (1 : Int32))), (.ref o)])) (fun t k => XS.iadd X5.here hx rfl (hb hby d3_30) rfl k) ?_
  rw [show ((1 : Int32) + (1 : Int32)) = (2 : Int32) from by decide]
  obtain ⟨T6, h6, X6, e6, W6, st6⟩ := putF X5 hx hZ hown (host := "") (Or.inl (hw _ (List.mem_of_getElem? (i := 22) rfl))) Via.refl e5 (own_Ob_t B0.1) (own_Ob_E B0.1) (Or.inl (hw _ (List.mem_of_getElem? (i := 23) rfl))) (hw _ (List.mem_of_getElem? (i := 3) rfl)) (ty := .int) (by decide) rfl rfl (g := (mkF m 31 #[rv o, iv x1] [(.int (2 : Int32)), (.ref o)])) rfl rfl (hb hby d3_31)
  have N6 := Fr.snoc X6 N0 (own_Ob_g B0.1)
  have B6 : own_An Z hB h6 o P O kP kO [(.int v0), (.int v1), (.int v2), (.int v3), (.int v4), (.int v5), (.int v6), (.int v7)] [(.int u0), (.int u1), (.int u2), (.int u3), (.int u4), (.int u5), (.int u6), (.int u7)] (3 : Int32) (2 : Int32) := own_An_wt sn B0 W6
  refine own_pre (T' := T6) (f' := (mkF m 34 #[rv o, iv x1] [])) (fun t k => st6 t k) ?_
  refine oG X6 hx (hb hby d3_34) (pc' := 0) (by decide) (by decide) ?_
  refine oA1 X6 hx (hb hby d3_0) (pc' := 1) rfl rfl rfl ?_
  obtain ⟨T7, X7, e7, st7⟩ := getF X6 hx hZ hown (host := "") (Or.inl (hw _ (List.mem_of_getElem? (i := 22) rfl))) Via.refl e6 (own_Ob_t B6.1) (g := (mkF m 1 #[rv o, iv x1] [(.ref o)])) rfl rfl (hb hby d3_1)
  refine own_pre (T' := T7) (f' := (mkF m 4 #[rv o, iv x1] [(.int (2 : Int32))])) (fun t k => st7 t k) ?_
  refine oA1 X7 hx (hb hby d3_4) (pc' := 5) rfl rfl rfl ?_
  obtain ⟨T8, X8, e8, st8⟩ := getF X7 hx hZ hown (host := "") (Or.inl (hw _ (List.mem_of_getElem? (i := 24) rfl))) Via.refl e7 (own_Ob_s B6.1) (g := (mkF m 5 #[rv o, iv x1] [(.ref o), (.int (2 : Int32))])) rfl rfl (hb hby d3_5)
  refine own_pre (T' := T8) (f' := (mkF m 8 #[rv o, iv x1] [(.int (3 : Int32)), (.int (2 : Int32))])) (fun t k => st8 t k) ?_
  refine oN X8 hx (hb hby d3_8) (pc' := 11) rfl (tlt (by decide : (2 : Int32) < (3 : Int32))).2.1 ?_
  refine oA1 X8 hx (hb hby d3_11) (pc' := 12) rfl rfl rfl ?_
  obtain ⟨T9, X9, e9, st9⟩ := getF X8 hx hZ hown (host := "") (Or.inl (hw _ (List.mem_of_getElem? (i := 13) rfl))) Via.refl e8 (own_Ob_p B6.1) (g := (mkF m 12 #[rv o, iv x1] [(.ref o)])) rfl rfl (hb hby d3_12)
  refine own_pre (T' := T9) (f' := (mkF m 15 #[rv o, iv x1] [(.ref P)])) (fun t k => st9 t k) ?_
  refine oA1 X9 hx (hb hby d3_15) (pc' := 16) rfl rfl rfl ?_
  obtain ⟨T10, X10, e10, st10⟩ := getF X9 hx hZ hown (host := "") (Or.inl (hw _ (List.mem_of_getElem? (i := 22) rfl))) Via.refl e9 (own_Ob_t B6.1) (g := (mkF m 16 #[rv o, iv x1] [(.ref o), (.ref P)])) rfl rfl (hb hby d3_16)
  refine own_pre (T' := T10) (f' := (mkF m 19 #[rv o, iv x1] [(.int (2 : Int32)), (.ref P)])) (fun t k => st10 t k) ?_
  refine own_pre (T' := T10) (f' := (mkF m 20 #[rv o, iv x1] [(.int v2)])) (fun t k => own_ldI X10 hx hZ e10 (own_An_vp B6) (by decide) rfl (g := (mkF m 19 #[rv o, iv x1] [(.int (2 : Int32)), (.ref P)])) rfl rfl (hb hby d3_19) t k) ?_
  refine oI1 X10 hx (hb hby d3_20) (pc' := 21) rfl rfl ?_
  refine oN X10 hx (hb hby d3_21) (pc' := 24) rfl (tlt l2).2.1 ?_
  refine oA1 X10 hx (hb hby d3_24) (pc' := 25) rfl rfl rfl ?_
  refine oD X10 hx (hb hby d3_25) (pc' := 26) rfl rfl ?_
  obtain ⟨T11, X11, e11, st11⟩ := getF X10 hx hZ hown (host := "") (Or.inl (hw _ (List.mem_of_getElem? (i := 22) rfl))) Via.refl e10 (own_Ob_t B6.1) (g := (mkF m 26 #[rv o, iv x1] [(.ref o), (.ref o)])) rfl rfl (hb hby d3_26)
  refine own_pre (T' := T11) (f' := (mkF m 29 #[rv o, iv x1] [(.int (2 : Int32)), (.ref o)])) (fun t k => st11 t k) ?_
  refine oC X11 hx (1 : Int32) (hb hby d3_29) (pc' := 30) rfl rfl ?_
  refine own_pre (T' := T11) (f' := (mkF m 31 #[rv o, iv x1] [(.int ((2 : Int32) + (1 : Int32))), (.ref o)])) (fun t k => XS.iadd X11.here hx rfl (hb hby d3_30) rfl k) ?_
  rw [show ((2 : Int32) + (1 : Int32)) = (3 : Int32) from by decide]
  obtain ⟨T12, h12, X12, e12, W12, st12⟩ := putF X11 hx hZ hown (host := "") (Or.inl (hw _ (List.mem_of_getElem? (i := 22) rfl))) Via.refl e11 (own_Ob_t B6.1) (own_Ob_E B6.1) (Or.inl (hw _ (List.mem_of_getElem? (i := 23) rfl))) (hw _ (List.mem_of_getElem? (i := 3) rfl)) (ty := .int) (by decide) rfl rfl (g := (mkF m 31 #[rv o, iv x1] [(.int (3 : Int32)), (.ref o)])) rfl rfl (hb hby d3_31)
  have N12 := Fr.snoc X12 N6 (own_Ob_g B6.1)
  have B12 : own_An Z hB h12 o P O kP kO [(.int v0), (.int v1), (.int v2), (.int v3), (.int v4), (.int v5), (.int v6), (.int v7)] [(.int u0), (.int u1), (.int u2), (.int u3), (.int u4), (.int u5), (.int u6), (.int u7)] (3 : Int32) (3 : Int32) := own_An_wt sn B6 W12
  refine own_pre (T' := T12) (f' := (mkF m 34 #[rv o, iv x1] [])) (fun t k => st12 t k) ?_
  refine oG X12 hx (hb hby d3_34) (pc' := 0) (by decide) (by decide) ?_
  refine oA1 X12 hx (hb hby d3_0) (pc' := 1) rfl rfl rfl ?_
  obtain ⟨T13, X13, e13, st13⟩ := getF X12 hx hZ hown (host := "") (Or.inl (hw _ (List.mem_of_getElem? (i := 22) rfl))) Via.refl e12 (own_Ob_t B12.1) (g := (mkF m 1 #[rv o, iv x1] [(.ref o)])) rfl rfl (hb hby d3_1)
  refine own_pre (T' := T13) (f' := (mkF m 4 #[rv o, iv x1] [(.int (3 : Int32))])) (fun t k => st13 t k) ?_
  refine oA1 X13 hx (hb hby d3_4) (pc' := 5) rfl rfl rfl ?_
  obtain ⟨T14, X14, e14, st14⟩ := getF X13 hx hZ hown (host := "") (Or.inl (hw _ (List.mem_of_getElem? (i := 24) rfl))) Via.refl e13 (own_Ob_s B12.1) (g := (mkF m 5 #[rv o, iv x1] [(.ref o), (.int (3 : Int32))])) rfl rfl (hb hby d3_5)
  refine own_pre (T' := T14) (f' := (mkF m 8 #[rv o, iv x1] [(.int (3 : Int32)), (.int (3 : Int32))])) (fun t k => st14 t k) ?_
  refine oY X14 hx (hb hby d3_8) (pc' := 37) (flt (by decide : ¬ ((3 : Int32) < (3 : Int32)))).2.1 (by decide) (by decide) ?_
  refine oA1 X14 hx (hb hby d3_37) (pc' := 38) rfl rfl rfl ?_
  obtain ⟨T15, X15, e15, st15⟩ := getF X14 hx hZ hown (host := "") (Or.inl (hw _ (List.mem_of_getElem? (i := 22) rfl))) Via.refl e14 (own_Ob_t B12.1) (g := (mkF m 38 #[rv o, iv x1] [(.ref o)])) rfl rfl (hb hby d3_38)
  refine own_pre (T' := T15) (f' := (mkF m 41 #[rv o, iv x1] [(.int (3 : Int32))])) (fun t k => st15 t k) ?_
  refine oA1 X15 hx (hb hby d3_41) (pc' := 42) rfl rfl rfl ?_
  obtain ⟨T16, X16, e16, st16⟩ := getF X15 hx hZ hown (host := "") (Or.inl (hw _ (List.mem_of_getElem? (i := 24) rfl))) Via.refl e15 (own_Ob_s B12.1) (g := (mkF m 42 #[rv o, iv x1] [(.ref o), (.int (3 : Int32))])) rfl rfl (hb hby d3_42)
  refine own_pre (T' := T16) (f' := (mkF m 45 #[rv o, iv x1] [(.int (3 : Int32)), (.int (3 : Int32))])) (fun t k => st16 t k) ?_
  refine oY X16 hx (hb hby d3_45) (pc' := 80) (flt (by decide : ¬ ((3 : Int32) < (3 : Int32)))).2.1 (by decide) (by decide) ?_
  refine oC X16 hx (-1 : Int32) (hb hby d3_80) (pc' := 81) rfl rfl ?_
  exact own_retI X16 hx hlk hret (hb hby d3_81) (by rw [e16]; exact ⟨rfl, N12, B12⟩) (by decide) (by decide)
set_option maxRecDepth 65536 in
set_option maxHeartbeats 40000000 in
theorem own_law (l : Launch) (Z : State) (a0 : Array Value) (hw : ∀ d ∈ tables_1, d.before a0 Z = true) (ws : List Jvm.Cond) (w_NO_ANCHORS : Addr) (k_NO_ANCHORS : ClassId) (h0 : Heap) (F : own_F Z h0 w_NO_ANCHORS k_NO_ANCHORS) (p1 p2 p3 p4 p5 p6 : Int32) :
    own_C l x code maxLocals ret ws room_1 #[(.int p1), (.int p2), (.int p3), (.int p4), (.int p5), (.int p6)] Z h0 (fun v _ L => v = some (.int (1 : Int32)) ∧ Fr h0.size L) := by
  have F0 := F
  obtain ⟨S_NO_ANCHORS, E_NO_ANCHORS, V_NO_ANCHORS⟩ := F
  refine own_enter (LS := #[iv p1, iv p2, iv p3, iv p4, iv p5, iv p6, .unset, .unset, .unset, .unset, .unset, .unset, .unset, .unset, .unset, .unset, .unset, .unset, .unset, .unset, .unset, .unset, .unset, .unset]) (plainFor_of_name (by first | (simp [plainName, overriddenIn, x]; done) | decide +kernel)) (fun m => by first | (simp [entryFrame, mkF, argsToLocals, Value.category, maxLocals]; done) | rfl) ?_
  intro p e s m below meth c s₁ hx hby hml hown0 hnm hret hlk hZ X0 e0 hsh
  have hown : s.vm.findClass "com/example/orthonorm/orthonorm/sanskrit/AnchorsTakeAtPinLaw" = some m.cls := hown0
  have jn : ∀ (P1 P2 P3 q pr n : Int32) (Tjn : State), Stand p l e room_1 s m #[(.int p1), (.int p2), (.int p3), (.int p4), (.int p5), (.int p6)] below meth c Tjn [] 0 0 → Tjn.heap = h0 → P1 < P2 → P2 < P3 → (pr = (0 : Int32) ∨ pr = (1 : Int32)) → (n = (0 : Int32) ∨ n = (1 : Int32) ∨ n = (2 : Int32) ∨ n = (3 : Int32)) → own_G p.tables e below Tjn (mkF m 76 #[iv p1, iv p2, iv p3, iv p4, iv p5, iv p6, iv P1, iv P2, iv P3, iv pr, iv n, iv q, .unset, .unset, .unset, .unset, .unset, .unset, .unset, .unset, .unset, .unset, .unset, .unset] []) (own_P room_1 s (fun v _ L => v = some (.int (1 : Int32)) ∧ Fr h0.size L)) := by
    intro P1 P2 P3 q pr n Tjn Xjn ejn hP12 hP23 hpr hn
    refine oC Xjn hx (3 : Int32) (hb hby at_76) (pc' := 77) rfl rfl ?_
    obtain ⟨T1, h1, k1, X1, e1, E1, A1, st1⟩ := newP Xjn hx hZ (hw _ (List.mem_of_getElem? (i := 1) rfl)) ejn (g := (mkF m 77 #[iv p1, iv p2, iv p3, iv p4, iv p5, iv p6, iv P1, iv P2, iv P3, iv pr, iv n, iv q, .unset, .unset, .unset, .unset, .unset, .unset, .unset, .unset, .unset, .unset, .unset, .unset] [(.int (3 : Int32))])) rfl (hb hby at_77) rfl (by decide) (cap := 3) (by decide) (by decide) (by decide) (by decide)
    obtain ⟨b1, g1⟩ : ∃ z, z = h0.size := ⟨_, rfl⟩
    rw [← g1] at A1 st1
    have V1 : Arv Z h1 b1 k1 .int (3 : Int32) [(.int (0 : Int32)), (.int (0 : Int32)), (.int (0 : Int32))] (.int (0 : Int32)) := (Arv.new A1 (by decide)).pad (pad_rep [] (.int (0 : Int32)) 3)
    have ge1_h0 : h0.size ≤ b1 := by rw [g1]; exact Nat.le_refl _
    have EX1_h0 : Ext h0 h1 := E1
    refine own_pre (T' := T1) (f' := (mkF m 79 #[iv p1, iv p2, iv p3, iv p4, iv p5, iv p6, iv P1, iv P2, iv P3, iv pr, iv n, iv q, .unset, .unset, .unset, .unset, .unset, .unset, .unset, .unset, .unset, .unset, .unset, .unset] [(.ref b1)])) (fun t k => st1 t k) ?_
    refine oD X1 hx (hb hby at_79) (pc' := 80) rfl rfl ?_
    refine oC X1 hx (0 : Int32) (hb hby at_80) (pc' := 81) rfl rfl ?_
    refine oI2 X1 hx (hb hby at_81) (pc' := 83) rfl rfl ?_
    obtain ⟨T2, h2, Y2a, e2, W2, Y2, st2⟩ := own_stI X1 hx hZ e1 V1 0 rfl (Nat.le_of_ble_eq_true rfl) (by decide) (g := (mkF m 83 #[iv p1, iv p2, iv p3, iv p4, iv p5, iv p6, iv P1, iv P2, iv P3, iv pr, iv n, iv q, .unset, .unset, .unset, .unset, .unset, .unset, .unset, .unset, .unset, .unset, .unset, .unset] [(.int P1), (.int (0 : Int32)), (.ref b1), (.ref b1)])) rfl rfl (hb hby at_83)
    have X2 := Y2a.forget (fun y hy => by cases List.mem_singleton.mp hy; rw [hsh]; exact ge1_h0)
    have V2 : Arv Z h2 b1 k1 .int (3 : Int32) [(.int P1), (.int (0 : Int32)), (.int (0 : Int32))] (.int (0 : Int32)) := Y2
    have EX2_h0 : Ext h0 h2 := own_extW EX1_h0 W2 ge1_h0
    refine own_pre (T' := T2) (f' := (mkF m 84 #[iv p1, iv p2, iv p3, iv p4, iv p5, iv p6, iv P1, iv P2, iv P3, iv pr, iv n, iv q, .unset, .unset, .unset, .unset, .unset, .unset, .unset, .unset, .unset, .unset, .unset, .unset] [(.ref b1)])) (fun t k => st2 t k) ?_
    refine oD X2 hx (hb hby at_84) (pc' := 85) rfl rfl ?_
    refine oC X2 hx (1 : Int32) (hb hby at_85) (pc' := 86) rfl rfl ?_
    refine oI2 X2 hx (hb hby at_86) (pc' := 88) rfl rfl ?_
    obtain ⟨T3, h3, Y3a, e3, W3, Y3, st3⟩ := own_stI X2 hx hZ e2 V2 1 rfl (Nat.le_of_ble_eq_true rfl) (by decide) (g := (mkF m 88 #[iv p1, iv p2, iv p3, iv p4, iv p5, iv p6, iv P1, iv P2, iv P3, iv pr, iv n, iv q, .unset, .unset, .unset, .unset, .unset, .unset, .unset, .unset, .unset, .unset, .unset, .unset] [(.int P2), (.int (1 : Int32)), (.ref b1), (.ref b1)])) rfl rfl (hb hby at_88)
    have X3 := Y3a.forget (fun y hy => by cases List.mem_singleton.mp hy; rw [hsh]; exact ge1_h0)
    have V3 : Arv Z h3 b1 k1 .int (3 : Int32) [(.int P1), (.int P2), (.int (0 : Int32))] (.int (0 : Int32)) := Y3
    have EX3_h0 : Ext h0 h3 := own_extW EX2_h0 W3 ge1_h0
    refine own_pre (T' := T3) (f' := (mkF m 89 #[iv p1, iv p2, iv p3, iv p4, iv p5, iv p6, iv P1, iv P2, iv P3, iv pr, iv n, iv q, .unset, .unset, .unset, .unset, .unset, .unset, .unset, .unset, .unset, .unset, .unset, .unset] [(.ref b1)])) (fun t k => st3 t k) ?_
    refine oD X3 hx (hb hby at_89) (pc' := 90) rfl rfl ?_
    refine oC X3 hx (2 : Int32) (hb hby at_90) (pc' := 91) rfl rfl ?_
    refine oI2 X3 hx (hb hby at_91) (pc' := 93) rfl rfl ?_
    obtain ⟨T4, h4, Y4a, e4, W4, Y4, st4⟩ := own_stI X3 hx hZ e3 V3 2 rfl (Nat.le_of_ble_eq_true rfl) (by decide) (g := (mkF m 93 #[iv p1, iv p2, iv p3, iv p4, iv p5, iv p6, iv P1, iv P2, iv P3, iv pr, iv n, iv q, .unset, .unset, .unset, .unset, .unset, .unset, .unset, .unset, .unset, .unset, .unset, .unset] [(.int P3), (.int (2 : Int32)), (.ref b1), (.ref b1)])) rfl rfl (hb hby at_93)
    have X4 := Y4a.forget (fun y hy => by cases List.mem_singleton.mp hy; rw [hsh]; exact ge1_h0)
    have V4 : Arv Z h4 b1 k1 .int (3 : Int32) [(.int P1), (.int P2), (.int P3)] (.int (0 : Int32)) := Y4
    have EX4_h0 : Ext h0 h4 := own_extW EX3_h0 W4 ge1_h0
    refine own_pre (T' := T4) (f' := (mkF m 94 #[iv p1, iv p2, iv p3, iv p4, iv p5, iv p6, iv P1, iv P2, iv P3, iv pr, iv n, iv q, .unset, .unset, .unset, .unset, .unset, .unset, .unset, .unset, .unset, .unset, .unset, .unset] [(.ref b1)])) (fun t k => st4 t k) ?_
    refine own_pre (T' := T4) (f' := (mkF m 96 #[iv p1, iv p2, iv p3, iv p4, iv p5, iv p6, iv P1, iv P2, iv P3, iv pr, iv n, iv q, rv b1, .unset, .unset, .unset, .unset, .unset, .unset, .unset, .unset, .unset, .unset, .unset] [])) (fun t k => XS.astore X4.here hx rfl (hb hby at_94) rfl rfl (l' := #[iv p1, iv p2, iv p3, iv p4, iv p5, iv p6, iv P1, iv P2, iv P3, iv pr, iv n, iv q, rv b1, .unset, .unset, .unset, .unset, .unset, .unset, .unset, .unset, .unset, .unset, .unset]) rfl k) ?_
    refine oC X4 hx (3 : Int32) (hb hby at_96) (pc' := 97) rfl rfl ?_
    obtain ⟨T5, h5, k5, X5, e5, E5, A5, st5⟩ := newP X4 hx hZ (hw _ (List.mem_of_getElem? (i := 1) rfl)) e4 (g := (mkF m 97 #[iv p1, iv p2, iv p3, iv p4, iv p5, iv p6, iv P1, iv P2, iv P3, iv pr, iv n, iv q, rv b1, .unset, .unset, .unset, .unset, .unset, .unset, .unset, .unset, .unset, .unset, .unset] [(.int (3 : Int32))])) rfl (hb hby at_97) rfl (by decide) (cap := 3) (by decide) (by decide) (by decide) (by decide)
    obtain ⟨b5, g5⟩ : ∃ z, z = h4.size := ⟨_, rfl⟩
    rw [← g5] at A5 st5
    have V5 : Arv Z h5 b5 k5 .int (3 : Int32) [(.int (0 : Int32)), (.int (0 : Int32)), (.int (0 : Int32))] (.int (0 : Int32)) := (Arv.new A5 (by decide)).pad (pad_rep [] (.int (0 : Int32)) 3)
    have ge5_h0 : h0.size ≤ b5 := by rw [g5]; exact EX4_h0.1
    have ge5_h4 : h4.size ≤ b5 := by rw [g5]; exact Nat.le_refl _
    have EX5_h0 : Ext h0 h5 := own_extE EX4_h0 E5
    have EX5_h4 : Ext h4 h5 := E5
    refine own_pre (T' := T5) (f' := (mkF m 99 #[iv p1, iv p2, iv p3, iv p4, iv p5, iv p6, iv P1, iv P2, iv P3, iv pr, iv n, iv q, rv b1, .unset, .unset, .unset, .unset, .unset, .unset, .unset, .unset, .unset, .unset, .unset] [(.ref b5)])) (fun t k => st5 t k) ?_
    refine oD X5 hx (hb hby at_99) (pc' := 100) rfl rfl ?_
    refine oC X5 hx (0 : Int32) (hb hby at_100) (pc' := 101) rfl rfl ?_
    refine oI1 X5 hx (hb hby at_101) (pc' := 102) rfl rfl ?_
    obtain ⟨T6, h6, Y6a, e6, W6, Y6, st6⟩ := own_stI X5 hx hZ e5 V5 0 rfl (Nat.le_of_ble_eq_true rfl) (by decide) (g := (mkF m 102 #[iv p1, iv p2, iv p3, iv p4, iv p5, iv p6, iv P1, iv P2, iv P3, iv pr, iv n, iv q, rv b1, .unset, .unset, .unset, .unset, .unset, .unset, .unset, .unset, .unset, .unset, .unset] [(.int p3), (.int (0 : Int32)), (.ref b5), (.ref b5)])) rfl rfl (hb hby at_102)
    have X6 := Y6a.forget (fun y hy => by cases List.mem_singleton.mp hy; rw [hsh]; exact ge5_h0)
    have V6 : Arv Z h6 b5 k5 .int (3 : Int32) [(.int p3), (.int (0 : Int32)), (.int (0 : Int32))] (.int (0 : Int32)) := Y6
    have EX6_h0 : Ext h0 h6 := own_extW EX5_h0 W6 ge5_h0
    have EX6_h4 : Ext h4 h6 := own_extW EX5_h4 W6 ge5_h4
    refine own_pre (T' := T6) (f' := (mkF m 103 #[iv p1, iv p2, iv p3, iv p4, iv p5, iv p6, iv P1, iv P2, iv P3, iv pr, iv n, iv q, rv b1, .unset, .unset, .unset, .unset, .unset, .unset, .unset, .unset, .unset, .unset, .unset] [(.ref b5)])) (fun t k => st6 t k) ?_
    refine oD X6 hx (hb hby at_103) (pc' := 104) rfl rfl ?_
    refine oC X6 hx (1 : Int32) (hb hby at_104) (pc' := 105) rfl rfl ?_
    refine oI1 X6 hx (hb hby at_105) (pc' := 106) rfl rfl ?_
    obtain ⟨T7, h7, Y7a, e7, W7, Y7, st7⟩ := own_stI X6 hx hZ e6 V6 1 rfl (Nat.le_of_ble_eq_true rfl) (by decide) (g := (mkF m 106 #[iv p1, iv p2, iv p3, iv p4, iv p5, iv p6, iv P1, iv P2, iv P3, iv pr, iv n, iv q, rv b1, .unset, .unset, .unset, .unset, .unset, .unset, .unset, .unset, .unset, .unset, .unset] [(.int p4), (.int (1 : Int32)), (.ref b5), (.ref b5)])) rfl rfl (hb hby at_106)
    have X7 := Y7a.forget (fun y hy => by cases List.mem_singleton.mp hy; rw [hsh]; exact ge5_h0)
    have V7 : Arv Z h7 b5 k5 .int (3 : Int32) [(.int p3), (.int p4), (.int (0 : Int32))] (.int (0 : Int32)) := Y7
    have EX7_h0 : Ext h0 h7 := own_extW EX6_h0 W7 ge5_h0
    have EX7_h4 : Ext h4 h7 := own_extW EX6_h4 W7 ge5_h4
    refine own_pre (T' := T7) (f' := (mkF m 107 #[iv p1, iv p2, iv p3, iv p4, iv p5, iv p6, iv P1, iv P2, iv P3, iv pr, iv n, iv q, rv b1, .unset, .unset, .unset, .unset, .unset, .unset, .unset, .unset, .unset, .unset, .unset] [(.ref b5)])) (fun t k => st7 t k) ?_
    refine oD X7 hx (hb hby at_107) (pc' := 108) rfl rfl ?_
    refine oC X7 hx (2 : Int32) (hb hby at_108) (pc' := 109) rfl rfl ?_
    refine oI2 X7 hx (hb hby at_109) (pc' := 111) rfl rfl ?_
    obtain ⟨T8, h8, Y8a, e8, W8, Y8, st8⟩ := own_stI X7 hx hZ e7 V7 2 rfl (Nat.le_of_ble_eq_true rfl) (by decide) (g := (mkF m 111 #[iv p1, iv p2, iv p3, iv p4, iv p5, iv p6, iv P1, iv P2, iv P3, iv pr, iv n, iv q, rv b1, .unset, .unset, .unset, .unset, .unset, .unset, .unset, .unset, .unset, .unset, .unset] [(.int p5), (.int (2 : Int32)), (.ref b5), (.ref b5)])) rfl rfl (hb hby at_111)
    have X8 := Y8a.forget (fun y hy => by cases List.mem_singleton.mp hy; rw [hsh]; exact ge5_h0)
    have V8 : Arv Z h8 b5 k5 .int (3 : Int32) [(.int p3), (.int p4), (.int p5)] (.int (0 : Int32)) := Y8
    have EX8_h0 : Ext h0 h8 := own_extW EX7_h0 W8 ge5_h0
    have EX8_h4 : Ext h4 h8 := own_extW EX7_h4 W8 ge5_h4
    refine own_pre (T' := T8) (f' := (mkF m 112 #[iv p1, iv p2, iv p3, iv p4, iv p5, iv p6, iv P1, iv P2, iv P3, iv pr, iv n, iv q, rv b1, .unset, .unset, .unset, .unset, .unset, .unset, .unset, .unset, .unset, .unset, .unset] [(.ref b5)])) (fun t k => st8 t k) ?_
    refine own_pre (T' := T8) (f' := (mkF m 114 #[iv p1, iv p2, iv p3, iv p4, iv p5, iv p6, iv P1, iv P2, iv P3, iv pr, iv n, iv q, rv b1, rv b5, .unset, .unset, .unset, .unset, .unset, .unset, .unset, .unset, .unset, .unset] [])) (fun t k => XS.astore X8.here hx rfl (hb hby at_112) rfl rfl (l' := #[iv p1, iv p2, iv p3, iv p4, iv p5, iv p6, iv P1, iv P2, iv P3, iv pr, iv n, iv q, rv b1, rv b5, .unset, .unset, .unset, .unset, .unset, .unset, .unset, .unset, .unset, .unset]) rfl k) ?_
    obtain ⟨T9, h9, X9, e9, E9, A9, D9, -, st9⟩ := newO X8 hx hZ hown (hw _ (List.mem_of_getElem? (i := 2) rfl)) (hw _ (List.mem_of_getElem? (i := 3) rfl)) (hw _ (List.mem_of_getElem? (i := 4) rfl)) e8 (g := (mkF m 114 #[iv p1, iv p2, iv p3, iv p4, iv p5, iv p6, iv P1, iv P2, iv P3, iv pr, iv n, iv q, rv b1, rv b5, .unset, .unset, .unset, .unset, .unset, .unset, .unset, .unset, .unset, .unset] [])) rfl (hb hby at_114) (by decide) (by decide)
    obtain ⟨o, go⟩ : ∃ z, z = h8.size := ⟨_, rfl⟩
    rw [← go] at A9 D9 st9
    have B9 : own_Ob Z h8 h9 o .null .null (0 : Int32) (0 : Int32) := ⟨E9, Nat.le_of_eq go.symm, A9, D9 (Or.inl (hw _ (List.mem_of_getElem? (i := 14) rfl))) (ty := (.array .int)) (by decide), D9 (Or.inl (hw _ (List.mem_of_getElem? (i := 16) rfl))) (ty := (.array .int)) (by decide), D9 (Or.inl (hw _ (List.mem_of_getElem? (i := 25) rfl))) (ty := .int) (by decide), D9 (Or.inl (hw _ (List.mem_of_getElem? (i := 23) rfl))) (ty := .int) (by decide)⟩
    have Fb : own_F Z h8 w_NO_ANCHORS k_NO_ANCHORS := own_F_ext F0 EX8_h0
    have hsz : s.heap.size ≤ h8.size := by rw [hsh]; exact EX8_h0.1
    have EX9_h0 : Ext h0 h9 := own_extE EX8_h0 E9
    have EX9_h4 : Ext h4 h9 := own_extE EX8_h4 E9
    have EX9_h8 : Ext h8 h9 := E9
    refine own_pre (T' := T9) (f' := (mkF m 117 #[iv p1, iv p2, iv p3, iv p4, iv p5, iv p6, iv P1, iv P2, iv P3, iv pr, iv n, iv q, rv b1, rv b5, .unset, .unset, .unset, .unset, .unset, .unset, .unset, .unset, .unset, .unset] [(.ref o)])) (fun t k => st9 t k) ?_
    refine oD X9 hx (hb hby at_117) (pc' := 118) rfl rfl ?_
    obtain ⟨T10, L10, v10, Y10a, ⟨rfl, N10, B10⟩, st10⟩ := own_callI X9 hx hZ e9 (y := (⟨"com/example/orthonorm/orthonorm/sanskrit/Anchors", "<init>", "()V"⟩ : MethodName)) (b := o) rfl hown (hw _ (List.mem_of_getElem? (i := 5) rfl)) (hw _ (List.mem_of_getElem? (i := 6) rfl)) (hw _ (List.mem_of_getElem? (i := 7) rfl)) (hw _ (List.mem_of_getElem? (i := 4) rfl)) (by decide) 1 [] [(.ref o)] (own_init l Z a0 hw [] w_NO_ANCHORS k_NO_ANCHORS h9 (own_F_ext F0 EX9_h0) h8 Fb o B9) (by decide) (by decide) (by decide) (by decide) (g := (mkF m 118 #[iv p1, iv p2, iv p3, iv p4, iv p5, iv p6, iv P1, iv P2, iv P3, iv pr, iv n, iv q, rv b1, rv b5, .unset, .unset, .unset, .unset, .unset, .unset, .unset, .unset, .unset, .unset] [(.ref o), (.ref o)])) rfl (by rw [hml]; rfl) (lenOf pd_2 rfl) rfl (by show 2 * 0 + _ ≤ _; exact Nat.le_of_eq rfl) (hb hby at_118)
    have X10 := Y10a.forget (fun y hy => Nat.le_trans hsz (N10 y hy))
    obtain ⟨h10, e10⟩ : ∃ y, T10.heap = y := ⟨_, rfl⟩
    rw [e10] at B10
    have EX10_h0 : Ext h0 h10 := own_extE EX8_h0 (own_Ob_X B10)
    have EX10_h4 : Ext h4 h10 := own_extE EX8_h4 (own_Ob_X B10)
    have EX10_h8 : Ext h8 h10 := own_Ob_X B10
    refine own_pre (T' := T10) (f' := (mkF m 121 #[iv p1, iv p2, iv p3, iv p4, iv p5, iv p6, iv P1, iv P2, iv P3, iv pr, iv n, iv q, rv b1, rv b5, .unset, .unset, .unset, .unset, .unset, .unset, .unset, .unset, .unset, .unset] [(.ref o)])) (fun t k => st10 t k) ?_
    refine own_pre (T' := T10) (f' := (mkF m 123 #[iv p1, iv p2, iv p3, iv p4, iv p5, iv p6, iv P1, iv P2, iv P3, iv pr, iv n, iv q, rv b1, rv b5, rv o, .unset, .unset, .unset, .unset, .unset, .unset, .unset, .unset, .unset] [])) (fun t k => XS.astore X10.here hx rfl (hb hby at_121) rfl rfl (l' := #[iv p1, iv p2, iv p3, iv p4, iv p5, iv p6, iv P1, iv P2, iv P3, iv pr, iv n, iv q, rv b1, rv b5, rv o, .unset, .unset, .unset, .unset, .unset, .unset, .unset, .unset, .unset]) rfl k) ?_
    rcases hn with rfl | rfl | rfl | rfl
    · rcases hpr with rfl | rfl
      · refine oI2 X10 hx (hb hby at_123) (pc' := 125) rfl rfl ?_
        refine oC X10 hx (1 : Int32) (hb hby at_125) (pc' := 126) rfl rfl ?_
        refine oY X10 hx (hb hby at_126) (pc' := 137) (tlt (by decide : (0 : Int32) < (1 : Int32))).1 (by decide) (by decide) ?_
        refine oI2 X10 hx (hb hby at_137) (pc' := 139) rfl rfl ?_
        refine oC X10 hx (2 : Int32) (hb hby at_139) (pc' := 140) rfl rfl ?_
        refine oY X10 hx (hb hby at_140) (pc' := 151) (tlt (by decide : (0 : Int32) < (2 : Int32))).1 (by decide) (by decide) ?_
        refine oI2 X10 hx (hb hby at_151) (pc' := 153) rfl rfl ?_
        refine oC X10 hx (3 : Int32) (hb hby at_153) (pc' := 154) rfl rfl ?_
        refine oY X10 hx (hb hby at_154) (pc' := 166) (tlt (by decide : (0 : Int32) < (3 : Int32))).1 (by decide) (by decide) ?_
        refine oC X10 hx (1 : Int32) (hb hby at_166) (pc' := 167) rfl rfl ?_
        refine own_pre (T' := T10) (f' := (mkF m 169 #[iv p1, iv p2, iv p3, iv p4, iv p5, iv p6, iv P1, iv P2, iv P3, iv (0 : Int32), iv (0 : Int32), iv q, rv b1, rv b5, rv o, iv (1 : Int32), .unset, .unset, .unset, .unset, .unset, .unset, .unset, .unset] [])) (fun t k => XS.istore X10.here hx rfl (hb hby at_167) rfl (l' := #[iv p1, iv p2, iv p3, iv p4, iv p5, iv p6, iv P1, iv P2, iv P3, iv (0 : Int32), iv (0 : Int32), iv q, rv b1, rv b5, rv o, iv (1 : Int32), .unset, .unset, .unset, .unset, .unset, .unset, .unset, .unset]) rfl k) ?_
        refine oC X10 hx (0 : Int32) (hb hby at_169) (pc' := 170) rfl rfl ?_
        refine own_pre (T' := T10) (f' := (mkF m 172 #[iv p1, iv p2, iv p3, iv p4, iv p5, iv p6, iv P1, iv P2, iv P3, iv (0 : Int32), iv (0 : Int32), iv q, rv b1, rv b5, rv o, iv (1 : Int32), iv (0 : Int32), .unset, .unset, .unset, .unset, .unset, .unset, .unset] [])) (fun t k => XS.istore X10.here hx rfl (hb hby at_170) rfl (l' := #[iv p1, iv p2, iv p3, iv p4, iv p5, iv p6, iv P1, iv P2, iv P3, iv (0 : Int32), iv (0 : Int32), iv q, rv b1, rv b5, rv o, iv (1 : Int32), iv (0 : Int32), .unset, .unset, .unset, .unset, .unset, .unset, .unset]) rfl k) ?_
        refine oI2 X10 hx (hb hby at_172) (pc' := 174) rfl rfl ?_
        refine oY0 X10 hx (hb hby at_174) (pc' := 202) ((if0 _ _).trans (teq (by decide : (0 : Int32) = (0 : Int32))).1) (by decide) (by decide) ?_
        refine oC X10 hx (0 : Int32) (hb hby at_202) (pc' := 203) rfl rfl ?_
        refine own_pre (T' := T10) (f' := (mkF m 205 #[iv p1, iv p2, iv p3, iv p4, iv p5, iv p6, iv P1, iv P2, iv P3, iv (0 : Int32), iv (0 : Int32), iv q, rv b1, rv b5, rv o, iv (1 : Int32), iv (0 : Int32), iv (0 : Int32), .unset, .unset, .unset, .unset, .unset, .unset] [])) (fun t k => XS.istore X10.here hx rfl (hb hby at_203) rfl (l' := #[iv p1, iv p2, iv p3, iv p4, iv p5, iv p6, iv P1, iv P2, iv P3, iv (0 : Int32), iv (0 : Int32), iv q, rv b1, rv b5, rv o, iv (1 : Int32), iv (0 : Int32), iv (0 : Int32), .unset, .unset, .unset, .unset, .unset, .unset]) rfl k) ?_
        refine oI2 X10 hx (hb hby at_205) (pc' := 207) rfl rfl ?_
        refine oN0 X10 hx (hb hby at_207) (pc' := 210) rfl ((if0 _ _).trans (flt (by decide : ¬ ((0 : Int32) < (0 : Int32)))).2.2.1) ?_
        refine oC X10 hx (0 : Int32) (hb hby at_210) (pc' := 211) rfl rfl ?_
        refine oI2 X10 hx (hb hby at_211) (pc' := 213) rfl rfl ?_
        refine oY X10 hx (hb hby at_213) (pc' := 226) (flt (by decide : ¬ ((0 : Int32) < (0 : Int32)))).2.1 (by decide) (by decide) ?_
        refine oI2 X10 hx (hb hby at_226) (pc' := 228) rfl rfl ?_
        refine oC X10 hx (1 : Int32) (hb hby at_228) (pc' := 229) rfl rfl ?_
        refine oN X10 hx (hb hby at_229) (pc' := 232) rfl (flt (by decide : ¬ ((1 : Int32) < (0 : Int32)))).2.2.1 ?_
        refine oC X10 hx (1 : Int32) (hb hby at_232) (pc' := 233) rfl rfl ?_
        refine oI2 X10 hx (hb hby at_233) (pc' := 235) rfl rfl ?_
        refine oY X10 hx (hb hby at_235) (pc' := 248) (flt (by decide : ¬ ((1 : Int32) < (0 : Int32)))).2.1 (by decide) (by decide) ?_
        refine oC X10 hx (2 : Int32) (hb hby at_248) (pc' := 249) rfl rfl ?_
        refine oI2 X10 hx (hb hby at_249) (pc' := 251) rfl rfl ?_
        refine oY X10 hx (hb hby at_251) (pc' := 264) (flt (by decide : ¬ ((2 : Int32) < (0 : Int32)))).2.1 (by decide) (by decide) ?_
        refine oI2 X10 hx (hb hby at_264) (pc' := 266) rfl rfl ?_
        refine oI2 X10 hx (hb hby at_266) (pc' := 268) rfl rfl ?_
        refine own_pre (T' := T10) (f' := (mkF m 269 #[iv p1, iv p2, iv p3, iv p4, iv p5, iv p6, iv P1, iv P2, iv P3, iv (0 : Int32), iv (0 : Int32), iv q, rv b1, rv b5, rv o, iv (1 : Int32), iv (0 : Int32), iv (0 : Int32), .unset, .unset, .unset, .unset, .unset, .unset] [(.int ((0 : Int32) + (0 : Int32)))])) (fun t k => XS.iadd X10.here hx rfl (hb hby at_268) rfl k) ?_
        rw [show ((0 : Int32) + (0 : Int32)) = (0 : Int32) from by decide]
        refine own_pre (T' := T10) (f' := (mkF m 271 #[iv p1, iv p2, iv p3, iv p4, iv p5, iv p6, iv P1, iv P2, iv P3, iv (0 : Int32), iv (0 : Int32), iv q, rv b1, rv b5, rv o, iv (1 : Int32), iv (0 : Int32), iv (0 : Int32), iv (0 : Int32), .unset, .unset, .unset, .unset, .unset] [])) (fun t k => XS.istore X10.here hx rfl (hb hby at_269) rfl (l' := #[iv p1, iv p2, iv p3, iv p4, iv p5, iv p6, iv P1, iv P2, iv P3, iv (0 : Int32), iv (0 : Int32), iv q, rv b1, rv b5, rv o, iv (1 : Int32), iv (0 : Int32), iv (0 : Int32), iv (0 : Int32), .unset, .unset, .unset, .unset, .unset]) rfl k) ?_
        refine oI2 X10 hx (hb hby at_271) (pc' := 273) rfl rfl ?_
        refine oI2 X10 hx (hb hby at_273) (pc' := 275) rfl rfl ?_
        refine oY X10 hx (hb hby at_275) (pc' := 304) (flt (by decide : ¬ ((0 : Int32) < (0 : Int32)))).2.1 (by decide) (by decide) ?_
        refine oC X10 hx (-1 : Int32) (hb hby at_304) (pc' := 305) rfl rfl ?_
        refine own_pre (T' := T10) (f' := (mkF m 307 #[iv p1, iv p2, iv p3, iv p4, iv p5, iv p6, iv P1, iv P2, iv P3, iv (0 : Int32), iv (0 : Int32), iv q, rv b1, rv b5, rv o, iv (1 : Int32), iv (0 : Int32), iv (0 : Int32), iv (0 : Int32), iv (-1 : Int32), .unset, .unset, .unset, .unset] [])) (fun t k => XS.istore X10.here hx rfl (hb hby at_305) rfl (l' := #[iv p1, iv p2, iv p3, iv p4, iv p5, iv p6, iv P1, iv P2, iv P3, iv (0 : Int32), iv (0 : Int32), iv q, rv b1, rv b5, rv o, iv (1 : Int32), iv (0 : Int32), iv (0 : Int32), iv (0 : Int32), iv (-1 : Int32), .unset, .unset, .unset, .unset]) rfl k) ?_
        refine oI2 X10 hx (hb hby at_307) (pc' := 309) rfl rfl ?_
        refine own_pre (T' := T10) (f' := (mkF m 311 #[iv p1, iv p2, iv p3, iv p4, iv p5, iv p6, iv P1, iv P2, iv P3, iv (0 : Int32), iv (0 : Int32), iv q, rv b1, rv b5, rv o, iv (1 : Int32), iv (0 : Int32), iv (0 : Int32), iv (0 : Int32), iv (-1 : Int32), iv (0 : Int32), .unset, .unset, .unset] [])) (fun t k => XS.istore X10.here hx rfl (hb hby at_309) rfl (l' := #[iv p1, iv p2, iv p3, iv p4, iv p5, iv p6, iv P1, iv P2, iv P3, iv (0 : Int32), iv (0 : Int32), iv q, rv b1, rv b5, rv o, iv (1 : Int32), iv (0 : Int32), iv (0 : Int32), iv (0 : Int32), iv (-1 : Int32), iv (0 : Int32), .unset, .unset, .unset]) rfl k) ?_
        refine oA2 X10 hx (hb hby at_311) (pc' := 313) rfl rfl rfl ?_
        refine oI2 X10 hx (hb hby at_313) (pc' := 315) rfl rfl ?_
        obtain ⟨T11, X11, e11, st11⟩ := own_pure (f := 0) (n := 0) (v := (some (.int (-1 : Int32)))) (own_callV X10 hx hZ e10 (y := (⟨"com/example/orthonorm/orthonorm/sanskrit/Anchors", "takeAt", "(I)I"⟩ : MethodName)) hown (hw _ (List.mem_of_getElem? (i := 17) rfl)) (hw _ (List.mem_of_getElem? (i := 18) rfl)) (hw _ (List.mem_of_getElem? (i := 20) rfl)) (hw _ (List.mem_of_getElem? (i := 19) rfl)) (hw _ (List.mem_of_getElem? (i := 21) rfl)) (hw _ (List.mem_of_getElem? (i := 4) rfl)) (by decide) 0 [(.int q)] [] (own_at0 l Z a0 hw [] w_NO_ANCHORS k_NO_ANCHORS h10 (own_F_ext F0 EX10_h0) h8 Fb o q B10) (by decide) (by decide) (by decide) (by decide) (own_Ob_E B10) (g := (mkF m 315 #[iv p1, iv p2, iv p3, iv p4, iv p5, iv p6, iv P1, iv P2, iv P3, iv (0 : Int32), iv (0 : Int32), iv q, rv b1, rv b5, rv o, iv (1 : Int32), iv (0 : Int32), iv (0 : Int32), iv (0 : Int32), iv (-1 : Int32), iv (0 : Int32), .unset, .unset, .unset] [(.int q), (.ref o)])) rfl (by rw [hml]; rfl) (lenOf pd_3 rfl) rfl (by show 2 * 0 + _ ≤ _; exact Nat.le_of_eq rfl) (hb hby at_315))
        refine own_pre (T' := T11) (f' := (mkF m 318 #[iv p1, iv p2, iv p3, iv p4, iv p5, iv p6, iv P1, iv P2, iv P3, iv (0 : Int32), iv (0 : Int32), iv q, rv b1, rv b5, rv o, iv (1 : Int32), iv (0 : Int32), iv (0 : Int32), iv (0 : Int32), iv (-1 : Int32), iv (0 : Int32), .unset, .unset, .unset] [(.int (-1 : Int32))])) (fun t k => st11 t k) ?_
        refine own_pre (T' := T11) (f' := (mkF m 320 #[iv p1, iv p2, iv p3, iv p4, iv p5, iv p6, iv P1, iv P2, iv P3, iv (0 : Int32), iv (0 : Int32), iv q, rv b1, rv b5, rv o, iv (1 : Int32), iv (0 : Int32), iv (0 : Int32), iv (0 : Int32), iv (-1 : Int32), iv (0 : Int32), iv (-1 : Int32), .unset, .unset] [])) (fun t k => XS.istore X11.here hx rfl (hb hby at_318) rfl (l' := #[iv p1, iv p2, iv p3, iv p4, iv p5, iv p6, iv P1, iv P2, iv P3, iv (0 : Int32), iv (0 : Int32), iv q, rv b1, rv b5, rv o, iv (1 : Int32), iv (0 : Int32), iv (0 : Int32), iv (0 : Int32), iv (-1 : Int32), iv (0 : Int32), iv (-1 : Int32), .unset, .unset]) rfl k) ?_
        refine oA2 X11 hx (hb hby at_320) (pc' := 322) rfl rfl rfl ?_
        obtain ⟨T12, X12, e12, st12⟩ := own_pure (f := 0) (n := 0) (v := (some (.int (2147483647 : Int32)))) (own_callV X11 hx hZ e11 (y := (⟨"com/example/orthonorm/orthonorm/sanskrit/Anchors", "nextPlace", "()I"⟩ : MethodName)) hown (hw _ (List.mem_of_getElem? (i := 26) rfl)) (hw _ (List.mem_of_getElem? (i := 27) rfl)) (hw _ (List.mem_of_getElem? (i := 29) rfl)) (hw _ (List.mem_of_getElem? (i := 28) rfl)) (hw _ (List.mem_of_getElem? (i := 30) rfl)) (hw _ (List.mem_of_getElem? (i := 4) rfl)) (by decide) 0 [] [] (own_next0 l Z a0 hw [] w_NO_ANCHORS k_NO_ANCHORS h10 (own_F_ext F0 EX10_h0) h8 Fb o B10) (by decide) (by decide) (by decide) (by decide) (own_Ob_E B10) (g := (mkF m 322 #[iv p1, iv p2, iv p3, iv p4, iv p5, iv p6, iv P1, iv P2, iv P3, iv (0 : Int32), iv (0 : Int32), iv q, rv b1, rv b5, rv o, iv (1 : Int32), iv (0 : Int32), iv (0 : Int32), iv (0 : Int32), iv (-1 : Int32), iv (0 : Int32), iv (-1 : Int32), .unset, .unset] [(.ref o)])) rfl (by rw [hml]; rfl) (lenOf pd_4 rfl) rfl (by show 2 * 0 + _ ≤ _; exact Nat.le_of_eq rfl) (hb hby at_322))
        refine own_pre (T' := T12) (f' := (mkF m 325 #[iv p1, iv p2, iv p3, iv p4, iv p5, iv p6, iv P1, iv P2, iv P3, iv (0 : Int32), iv (0 : Int32), iv q, rv b1, rv b5, rv o, iv (1 : Int32), iv (0 : Int32), iv (0 : Int32), iv (0 : Int32), iv (-1 : Int32), iv (0 : Int32), iv (-1 : Int32), .unset, .unset] [(.int (2147483647 : Int32))])) (fun t k => st12 t k) ?_
        refine own_pre (T' := T12) (f' := (mkF m 327 #[iv p1, iv p2, iv p3, iv p4, iv p5, iv p6, iv P1, iv P2, iv P3, iv (0 : Int32), iv (0 : Int32), iv q, rv b1, rv b5, rv o, iv (1 : Int32), iv (0 : Int32), iv (0 : Int32), iv (0 : Int32), iv (-1 : Int32), iv (0 : Int32), iv (-1 : Int32), iv (2147483647 : Int32), .unset] [])) (fun t k => XS.istore X12.here hx rfl (hb hby at_325) rfl (l' := #[iv p1, iv p2, iv p3, iv p4, iv p5, iv p6, iv P1, iv P2, iv P3, iv (0 : Int32), iv (0 : Int32), iv q, rv b1, rv b5, rv o, iv (1 : Int32), iv (0 : Int32), iv (0 : Int32), iv (0 : Int32), iv (-1 : Int32), iv (0 : Int32), iv (-1 : Int32), iv (2147483647 : Int32), .unset]) rfl k) ?_
        refine oI2 X12 hx (hb hby at_327) (pc' := 329) rfl rfl ?_
        refine oI2 X12 hx (hb hby at_329) (pc' := 331) rfl rfl ?_
        refine oY X12 hx (hb hby at_331) (pc' := 342) (flt (by decide : ¬ ((0 : Int32) < (0 : Int32)))).2.1 (by decide) (by decide) ?_
        refine own_pre (T' := T12) (f' := (mkF m 344 #[iv p1, iv p2, iv p3, iv p4, iv p5, iv p6, iv P1, iv P2, iv P3, iv (0 : Int32), iv (0 : Int32), iv q, rv b1, rv b5, rv o, iv (1 : Int32), iv (0 : Int32), iv (0 : Int32), iv (0 : Int32), iv (-1 : Int32), iv (0 : Int32), iv (-1 : Int32), iv (2147483647 : Int32), .unset] [(.int (2147483647 : Int32))])) (fun t k => X12.ldcInt hx hown (mvT hZ (hw _ (List.mem_of_getElem? (i := 32) rfl))) (g := (mkF m 342 #[iv p1, iv p2, iv p3, iv p4, iv p5, iv p6, iv P1, iv P2, iv P3, iv (0 : Int32), iv (0 : Int32), iv q, rv b1, rv b5, rv o, iv (1 : Int32), iv (0 : Int32), iv (0 : Int32), iv (0 : Int32), iv (-1 : Int32), iv (0 : Int32), iv (-1 : Int32), iv (2147483647 : Int32), .unset] [])) rfl (hb hby at_342) t k) ?_
        refine own_pre (T' := T12) (f' := (mkF m 346 #[iv p1, iv p2, iv p3, iv p4, iv p5, iv p6, iv P1, iv P2, iv P3, iv (0 : Int32), iv (0 : Int32), iv q, rv b1, rv b5, rv o, iv (1 : Int32), iv (0 : Int32), iv (0 : Int32), iv (0 : Int32), iv (-1 : Int32), iv (0 : Int32), iv (-1 : Int32), iv (2147483647 : Int32), iv (2147483647 : Int32)] [])) (fun t k => XS.istore X12.here hx rfl (hb hby at_344) rfl (l' := #[iv p1, iv p2, iv p3, iv p4, iv p5, iv p6, iv P1, iv P2, iv P3, iv (0 : Int32), iv (0 : Int32), iv q, rv b1, rv b5, rv o, iv (1 : Int32), iv (0 : Int32), iv (0 : Int32), iv (0 : Int32), iv (-1 : Int32), iv (0 : Int32), iv (-1 : Int32), iv (2147483647 : Int32), iv (2147483647 : Int32)]) rfl k) ?_
        refine oI2 X12 hx (hb hby at_346) (pc' := 348) rfl rfl ?_
        refine oN0 X12 hx (hb hby at_348) (pc' := 351) rfl ((if0 _ _).trans (feq (by decide : ¬ ((1 : Int32) = (0 : Int32)))).1) ?_
        refine oI2 X12 hx (hb hby at_351) (pc' := 353) rfl rfl ?_
        refine oI2 X12 hx (hb hby at_353) (pc' := 355) rfl rfl ?_
        refine oN X12 hx (hb hby at_355) (pc' := 358) rfl (teq (by decide : (-1 : Int32) = (-1 : Int32))).2 ?_
        refine oI2 X12 hx (hb hby at_358) (pc' := 360) rfl rfl ?_
        refine oI2 X12 hx (hb hby at_360) (pc' := 362) rfl rfl ?_
        refine oN X12 hx (hb hby at_362) (pc' := 365) rfl (teq (by decide : (2147483647 : Int32) = (2147483647 : Int32))).2 ?_
        refine oC X12 hx (1 : Int32) (hb hby at_365) (pc' := 366) rfl rfl ?_
        refine oG X12 hx (hb hby at_366) (pc' := 370) (by decide) (by decide) ?_
        refine own_pre (T' := T12) (f' := (mkF m 372 #[iv p1, iv p2, iv p3, iv p4, iv p5, iv p6, iv P1, iv P2, iv P3, iv (0 : Int32), iv (0 : Int32), iv q, rv b1, rv b5, rv o, iv (1 : Int32), iv (0 : Int32), iv (0 : Int32), iv (0 : Int32), iv (-1 : Int32), iv (0 : Int32), iv (-1 : Int32), iv (2147483647 : Int32), iv (2147483647 : Int32)] [])) (fun t k => XS.istore X12.here hx rfl (hb hby at_370) rfl (l' := #[iv p1, iv p2, iv p3, iv p4, iv p5, iv p6, iv P1, iv P2, iv P3, iv (0 : Int32), iv (0 : Int32), iv q, rv b1, rv b5, rv o, iv (1 : Int32), iv (0 : Int32), iv (0 : Int32), iv (0 : Int32), iv (-1 : Int32), iv (0 : Int32), iv (-1 : Int32), iv (2147483647 : Int32), iv (2147483647 : Int32)]) rfl k) ?_
        refine oI2 X12 hx (hb hby at_372) (pc' := 374) rfl rfl ?_
        refine oI2 X12 hx (hb hby at_374) (pc' := 376) rfl rfl ?_
        refine oY X12 hx (hb hby at_376) (pc' := 404) (flt (by decide : ¬ ((0 : Int32) < (0 : Int32)))).2.1 (by decide) (by decide) ?_
        refine oI2 X12 hx (hb hby at_404) (pc' := 406) rfl rfl ?_
        exact own_retZ X12 hx hlk hret (hb hby at_406) rfl (⟨rfl, Fr.nil _⟩) (by decide) (by decide)
      · refine oI2 X10 hx (hb hby at_123) (pc' := 125) rfl rfl ?_
        refine oC X10 hx (1 : Int32) (hb hby at_125) (pc' := 126) rfl rfl ?_
        refine oY X10 hx (hb hby at_126) (pc' := 137) (tlt (by decide : (0 : Int32) < (1 : Int32))).1 (by decide) (by decide) ?_
        refine oI2 X10 hx (hb hby at_137) (pc' := 139) rfl rfl ?_
        refine oC X10 hx (2 : Int32) (hb hby at_139) (pc' := 140) rfl rfl ?_
        refine oY X10 hx (hb hby at_140) (pc' := 151) (tlt (by decide : (0 : Int32) < (2 : Int32))).1 (by decide) (by decide) ?_
        refine oI2 X10 hx (hb hby at_151) (pc' := 153) rfl rfl ?_
        refine oC X10 hx (3 : Int32) (hb hby at_153) (pc' := 154) rfl rfl ?_
        refine oY X10 hx (hb hby at_154) (pc' := 166) (tlt (by decide : (0 : Int32) < (3 : Int32))).1 (by decide) (by decide) ?_
        refine oC X10 hx (1 : Int32) (hb hby at_166) (pc' := 167) rfl rfl ?_
        refine own_pre (T' := T10) (f' := (mkF m 169 #[iv p1, iv p2, iv p3, iv p4, iv p5, iv p6, iv P1, iv P2, iv P3, iv (1 : Int32), iv (0 : Int32), iv q, rv b1, rv b5, rv o, iv (1 : Int32), .unset, .unset, .unset, .unset, .unset, .unset, .unset, .unset] [])) (fun t k => XS.istore X10.here hx rfl (hb hby at_167) rfl (l' := #[iv p1, iv p2, iv p3, iv p4, iv p5, iv p6, iv P1, iv P2, iv P3, iv (1 : Int32), iv (0 : Int32), iv q, rv b1, rv b5, rv o, iv (1 : Int32), .unset, .unset, .unset, .unset, .unset, .unset, .unset, .unset]) rfl k) ?_
        refine oC X10 hx (0 : Int32) (hb hby at_169) (pc' := 170) rfl rfl ?_
        refine own_pre (T' := T10) (f' := (mkF m 172 #[iv p1, iv p2, iv p3, iv p4, iv p5, iv p6, iv P1, iv P2, iv P3, iv (1 : Int32), iv (0 : Int32), iv q, rv b1, rv b5, rv o, iv (1 : Int32), iv (0 : Int32), .unset, .unset, .unset, .unset, .unset, .unset, .unset] [])) (fun t k => XS.istore X10.here hx rfl (hb hby at_170) rfl (l' := #[iv p1, iv p2, iv p3, iv p4, iv p5, iv p6, iv P1, iv P2, iv P3, iv (1 : Int32), iv (0 : Int32), iv q, rv b1, rv b5, rv o, iv (1 : Int32), iv (0 : Int32), .unset, .unset, .unset, .unset, .unset, .unset, .unset]) rfl k) ?_
        refine oI2 X10 hx (hb hby at_172) (pc' := 174) rfl rfl ?_
        refine oN0 X10 hx (hb hby at_174) (pc' := 177) rfl ((if0 _ _).trans (feq (by decide : ¬ ((1 : Int32) = (0 : Int32)))).1) ?_
        refine oI2 X10 hx (hb hby at_177) (pc' := 179) rfl rfl ?_
        refine oC X10 hx (1 : Int32) (hb hby at_179) (pc' := 180) rfl rfl ?_
        refine oY X10 hx (hb hby at_180) (pc' := 202) (tlt (by decide : (0 : Int32) < (1 : Int32))).1 (by decide) (by decide) ?_
        refine oC X10 hx (0 : Int32) (hb hby at_202) (pc' := 203) rfl rfl ?_
        refine own_pre (T' := T10) (f' := (mkF m 205 #[iv p1, iv p2, iv p3, iv p4, iv p5, iv p6, iv P1, iv P2, iv P3, iv (1 : Int32), iv (0 : Int32), iv q, rv b1, rv b5, rv o, iv (1 : Int32), iv (0 : Int32), iv (0 : Int32), .unset, .unset, .unset, .unset, .unset, .unset] [])) (fun t k => XS.istore X10.here hx rfl (hb hby at_203) rfl (l' := #[iv p1, iv p2, iv p3, iv p4, iv p5, iv p6, iv P1, iv P2, iv P3, iv (1 : Int32), iv (0 : Int32), iv q, rv b1, rv b5, rv o, iv (1 : Int32), iv (0 : Int32), iv (0 : Int32), .unset, .unset, .unset, .unset, .unset, .unset]) rfl k) ?_
        refine oI2 X10 hx (hb hby at_205) (pc' := 207) rfl rfl ?_
        refine oN0 X10 hx (hb hby at_207) (pc' := 210) rfl ((if0 _ _).trans (flt (by decide : ¬ ((0 : Int32) < (0 : Int32)))).2.2.1) ?_
        refine oC X10 hx (0 : Int32) (hb hby at_210) (pc' := 211) rfl rfl ?_
        refine oI2 X10 hx (hb hby at_211) (pc' := 213) rfl rfl ?_
        refine oY X10 hx (hb hby at_213) (pc' := 226) (flt (by decide : ¬ ((0 : Int32) < (0 : Int32)))).2.1 (by decide) (by decide) ?_
        refine oI2 X10 hx (hb hby at_226) (pc' := 228) rfl rfl ?_
        refine oC X10 hx (1 : Int32) (hb hby at_228) (pc' := 229) rfl rfl ?_
        refine oN X10 hx (hb hby at_229) (pc' := 232) rfl (flt (by decide : ¬ ((1 : Int32) < (0 : Int32)))).2.2.1 ?_
        refine oC X10 hx (1 : Int32) (hb hby at_232) (pc' := 233) rfl rfl ?_
        refine oI2 X10 hx (hb hby at_233) (pc' := 235) rfl rfl ?_
        refine oY X10 hx (hb hby at_235) (pc' := 248) (flt (by decide : ¬ ((1 : Int32) < (0 : Int32)))).2.1 (by decide) (by decide) ?_
        refine oC X10 hx (2 : Int32) (hb hby at_248) (pc' := 249) rfl rfl ?_
        refine oI2 X10 hx (hb hby at_249) (pc' := 251) rfl rfl ?_
        refine oY X10 hx (hb hby at_251) (pc' := 264) (flt (by decide : ¬ ((2 : Int32) < (0 : Int32)))).2.1 (by decide) (by decide) ?_
        refine oI2 X10 hx (hb hby at_264) (pc' := 266) rfl rfl ?_
        refine oI2 X10 hx (hb hby at_266) (pc' := 268) rfl rfl ?_
        refine own_pre (T' := T10) (f' := (mkF m 269 #[iv p1, iv p2, iv p3, iv p4, iv p5, iv p6, iv P1, iv P2, iv P3, iv (1 : Int32), iv (0 : Int32), iv q, rv b1, rv b5, rv o, iv (1 : Int32), iv (0 : Int32), iv (0 : Int32), .unset, .unset, .unset, .unset, .unset, .unset] [(.int ((0 : Int32) + (0 : Int32)))])) (fun t k => XS.iadd X10.here hx rfl (hb hby at_268) rfl k) ?_
        rw [show ((0 : Int32) + (0 : Int32)) = (0 : Int32) from by decide]
        refine own_pre (T' := T10) (f' := (mkF m 271 #[iv p1, iv p2, iv p3, iv p4, iv p5, iv p6, iv P1, iv P2, iv P3, iv (1 : Int32), iv (0 : Int32), iv q, rv b1, rv b5, rv o, iv (1 : Int32), iv (0 : Int32), iv (0 : Int32), iv (0 : Int32), .unset, .unset, .unset, .unset, .unset] [])) (fun t k => XS.istore X10.here hx rfl (hb hby at_269) rfl (l' := #[iv p1, iv p2, iv p3, iv p4, iv p5, iv p6, iv P1, iv P2, iv P3, iv (1 : Int32), iv (0 : Int32), iv q, rv b1, rv b5, rv o, iv (1 : Int32), iv (0 : Int32), iv (0 : Int32), iv (0 : Int32), .unset, .unset, .unset, .unset, .unset]) rfl k) ?_
        refine oI2 X10 hx (hb hby at_271) (pc' := 273) rfl rfl ?_
        refine oI2 X10 hx (hb hby at_273) (pc' := 275) rfl rfl ?_
        refine oY X10 hx (hb hby at_275) (pc' := 304) (flt (by decide : ¬ ((0 : Int32) < (0 : Int32)))).2.1 (by decide) (by decide) ?_
        refine oC X10 hx (-1 : Int32) (hb hby at_304) (pc' := 305) rfl rfl ?_
        refine own_pre (T' := T10) (f' := (mkF m 307 #[iv p1, iv p2, iv p3, iv p4, iv p5, iv p6, iv P1, iv P2, iv P3, iv (1 : Int32), iv (0 : Int32), iv q, rv b1, rv b5, rv o, iv (1 : Int32), iv (0 : Int32), iv (0 : Int32), iv (0 : Int32), iv (-1 : Int32), .unset, .unset, .unset, .unset] [])) (fun t k => XS.istore X10.here hx rfl (hb hby at_305) rfl (l' := #[iv p1, iv p2, iv p3, iv p4, iv p5, iv p6, iv P1, iv P2, iv P3, iv (1 : Int32), iv (0 : Int32), iv q, rv b1, rv b5, rv o, iv (1 : Int32), iv (0 : Int32), iv (0 : Int32), iv (0 : Int32), iv (-1 : Int32), .unset, .unset, .unset, .unset]) rfl k) ?_
        refine oI2 X10 hx (hb hby at_307) (pc' := 309) rfl rfl ?_
        refine own_pre (T' := T10) (f' := (mkF m 311 #[iv p1, iv p2, iv p3, iv p4, iv p5, iv p6, iv P1, iv P2, iv P3, iv (1 : Int32), iv (0 : Int32), iv q, rv b1, rv b5, rv o, iv (1 : Int32), iv (0 : Int32), iv (0 : Int32), iv (0 : Int32), iv (-1 : Int32), iv (0 : Int32), .unset, .unset, .unset] [])) (fun t k => XS.istore X10.here hx rfl (hb hby at_309) rfl (l' := #[iv p1, iv p2, iv p3, iv p4, iv p5, iv p6, iv P1, iv P2, iv P3, iv (1 : Int32), iv (0 : Int32), iv q, rv b1, rv b5, rv o, iv (1 : Int32), iv (0 : Int32), iv (0 : Int32), iv (0 : Int32), iv (-1 : Int32), iv (0 : Int32), .unset, .unset, .unset]) rfl k) ?_
        refine oA2 X10 hx (hb hby at_311) (pc' := 313) rfl rfl rfl ?_
        refine oI2 X10 hx (hb hby at_313) (pc' := 315) rfl rfl ?_
        obtain ⟨T13, X13, e13, st13⟩ := own_pure (f := 0) (n := 0) (v := (some (.int (-1 : Int32)))) (own_callV X10 hx hZ e10 (y := (⟨"com/example/orthonorm/orthonorm/sanskrit/Anchors", "takeAt", "(I)I"⟩ : MethodName)) hown (hw _ (List.mem_of_getElem? (i := 17) rfl)) (hw _ (List.mem_of_getElem? (i := 18) rfl)) (hw _ (List.mem_of_getElem? (i := 20) rfl)) (hw _ (List.mem_of_getElem? (i := 19) rfl)) (hw _ (List.mem_of_getElem? (i := 21) rfl)) (hw _ (List.mem_of_getElem? (i := 4) rfl)) (by decide) 0 [(.int q)] [] (own_at0 l Z a0 hw [] w_NO_ANCHORS k_NO_ANCHORS h10 (own_F_ext F0 EX10_h0) h8 Fb o q B10) (by decide) (by decide) (by decide) (by decide) (own_Ob_E B10) (g := (mkF m 315 #[iv p1, iv p2, iv p3, iv p4, iv p5, iv p6, iv P1, iv P2, iv P3, iv (1 : Int32), iv (0 : Int32), iv q, rv b1, rv b5, rv o, iv (1 : Int32), iv (0 : Int32), iv (0 : Int32), iv (0 : Int32), iv (-1 : Int32), iv (0 : Int32), .unset, .unset, .unset] [(.int q), (.ref o)])) rfl (by rw [hml]; rfl) (lenOf pd_3 rfl) rfl (by show 2 * 0 + _ ≤ _; exact Nat.le_of_eq rfl) (hb hby at_315))
        refine own_pre (T' := T13) (f' := (mkF m 318 #[iv p1, iv p2, iv p3, iv p4, iv p5, iv p6, iv P1, iv P2, iv P3, iv (1 : Int32), iv (0 : Int32), iv q, rv b1, rv b5, rv o, iv (1 : Int32), iv (0 : Int32), iv (0 : Int32), iv (0 : Int32), iv (-1 : Int32), iv (0 : Int32), .unset, .unset, .unset] [(.int (-1 : Int32))])) (fun t k => st13 t k) ?_
        refine own_pre (T' := T13) (f' := (mkF m 320 #[iv p1, iv p2, iv p3, iv p4, iv p5, iv p6, iv P1, iv P2, iv P3, iv (1 : Int32), iv (0 : Int32), iv q, rv b1, rv b5, rv o, iv (1 : Int32), iv (0 : Int32), iv (0 : Int32), iv (0 : Int32), iv (-1 : Int32), iv (0 : Int32), iv (-1 : Int32), .unset, .unset] [])) (fun t k => XS.istore X13.here hx rfl (hb hby at_318) rfl (l' := #[iv p1, iv p2, iv p3, iv p4, iv p5, iv p6, iv P1, iv P2, iv P3, iv (1 : Int32), iv (0 : Int32), iv q, rv b1, rv b5, rv o, iv (1 : Int32), iv (0 : Int32), iv (0 : Int32), iv (0 : Int32), iv (-1 : Int32), iv (0 : Int32), iv (-1 : Int32), .unset, .unset]) rfl k) ?_
        refine oA2 X13 hx (hb hby at_320) (pc' := 322) rfl rfl rfl ?_
        obtain ⟨T14, X14, e14, st14⟩ := own_pure (f := 0) (n := 0) (v := (some (.int (2147483647 : Int32)))) (own_callV X13 hx hZ e13 (y := (⟨"com/example/orthonorm/orthonorm/sanskrit/Anchors", "nextPlace", "()I"⟩ : MethodName)) hown (hw _ (List.mem_of_getElem? (i := 26) rfl)) (hw _ (List.mem_of_getElem? (i := 27) rfl)) (hw _ (List.mem_of_getElem? (i := 29) rfl)) (hw _ (List.mem_of_getElem? (i := 28) rfl)) (hw _ (List.mem_of_getElem? (i := 30) rfl)) (hw _ (List.mem_of_getElem? (i := 4) rfl)) (by decide) 0 [] [] (own_next0 l Z a0 hw [] w_NO_ANCHORS k_NO_ANCHORS h10 (own_F_ext F0 EX10_h0) h8 Fb o B10) (by decide) (by decide) (by decide) (by decide) (own_Ob_E B10) (g := (mkF m 322 #[iv p1, iv p2, iv p3, iv p4, iv p5, iv p6, iv P1, iv P2, iv P3, iv (1 : Int32), iv (0 : Int32), iv q, rv b1, rv b5, rv o, iv (1 : Int32), iv (0 : Int32), iv (0 : Int32), iv (0 : Int32), iv (-1 : Int32), iv (0 : Int32), iv (-1 : Int32), .unset, .unset] [(.ref o)])) rfl (by rw [hml]; rfl) (lenOf pd_4 rfl) rfl (by show 2 * 0 + _ ≤ _; exact Nat.le_of_eq rfl) (hb hby at_322))
        refine own_pre (T' := T14) (f' := (mkF m 325 #[iv p1, iv p2, iv p3, iv p4, iv p5, iv p6, iv P1, iv P2, iv P3, iv (1 : Int32), iv (0 : Int32), iv q, rv b1, rv b5, rv o, iv (1 : Int32), iv (0 : Int32), iv (0 : Int32), iv (0 : Int32), iv (-1 : Int32), iv (0 : Int32), iv (-1 : Int32), .unset, .unset] [(.int (2147483647 : Int32))])) (fun t k => st14 t k) ?_
        refine own_pre (T' := T14) (f' := (mkF m 327 #[iv p1, iv p2, iv p3, iv p4, iv p5, iv p6, iv P1, iv P2, iv P3, iv (1 : Int32), iv (0 : Int32), iv q, rv b1, rv b5, rv o, iv (1 : Int32), iv (0 : Int32), iv (0 : Int32), iv (0 : Int32), iv (-1 : Int32), iv (0 : Int32), iv (-1 : Int32), iv (2147483647 : Int32), .unset] [])) (fun t k => XS.istore X14.here hx rfl (hb hby at_325) rfl (l' := #[iv p1, iv p2, iv p3, iv p4, iv p5, iv p6, iv P1, iv P2, iv P3, iv (1 : Int32), iv (0 : Int32), iv q, rv b1, rv b5, rv o, iv (1 : Int32), iv (0 : Int32), iv (0 : Int32), iv (0 : Int32), iv (-1 : Int32), iv (0 : Int32), iv (-1 : Int32), iv (2147483647 : Int32), .unset]) rfl k) ?_
        refine oI2 X14 hx (hb hby at_327) (pc' := 329) rfl rfl ?_
        refine oI2 X14 hx (hb hby at_329) (pc' := 331) rfl rfl ?_
        refine oY X14 hx (hb hby at_331) (pc' := 342) (flt (by decide : ¬ ((0 : Int32) < (0 : Int32)))).2.1 (by decide) (by decide) ?_
        refine own_pre (T' := T14) (f' := (mkF m 344 #[iv p1, iv p2, iv p3, iv p4, iv p5, iv p6, iv P1, iv P2, iv P3, iv (1 : Int32), iv (0 : Int32), iv q, rv b1, rv b5, rv o, iv (1 : Int32), iv (0 : Int32), iv (0 : Int32), iv (0 : Int32), iv (-1 : Int32), iv (0 : Int32), iv (-1 : Int32), iv (2147483647 : Int32), .unset] [(.int (2147483647 : Int32))])) (fun t k => X14.ldcInt hx hown (mvT hZ (hw _ (List.mem_of_getElem? (i := 32) rfl))) (g := (mkF m 342 #[iv p1, iv p2, iv p3, iv p4, iv p5, iv p6, iv P1, iv P2, iv P3, iv (1 : Int32), iv (0 : Int32), iv q, rv b1, rv b5, rv o, iv (1 : Int32), iv (0 : Int32), iv (0 : Int32), iv (0 : Int32), iv (-1 : Int32), iv (0 : Int32), iv (-1 : Int32), iv (2147483647 : Int32), .unset] [])) rfl (hb hby at_342) t k) ?_
        refine own_pre (T' := T14) (f' := (mkF m 346 #[iv p1, iv p2, iv p3, iv p4, iv p5, iv p6, iv P1, iv P2, iv P3, iv (1 : Int32), iv (0 : Int32), iv q, rv b1, rv b5, rv o, iv (1 : Int32), iv (0 : Int32), iv (0 : Int32), iv (0 : Int32), iv (-1 : Int32), iv (0 : Int32), iv (-1 : Int32), iv (2147483647 : Int32), iv (2147483647 : Int32)] [])) (fun t k => XS.istore X14.here hx rfl (hb hby at_344) rfl (l' := #[iv p1, iv p2, iv p3, iv p4, iv p5, iv p6, iv P1, iv P2, iv P3, iv (1 : Int32), iv (0 : Int32), iv q, rv b1, rv b5, rv o, iv (1 : Int32), iv (0 : Int32), iv (0 : Int32), iv (0 : Int32), iv (-1 : Int32), iv (0 : Int32), iv (-1 : Int32), iv (2147483647 : Int32), iv (2147483647 : Int32)]) rfl k) ?_
        refine oI2 X14 hx (hb hby at_346) (pc' := 348) rfl rfl ?_
        refine oN0 X14 hx (hb hby at_348) (pc' := 351) rfl ((if0 _ _).trans (feq (by decide : ¬ ((1 : Int32) = (0 : Int32)))).1) ?_
        refine oI2 X14 hx (hb hby at_351) (pc' := 353) rfl rfl ?_
        refine oI2 X14 hx (hb hby at_353) (pc' := 355) rfl rfl ?_
        refine oN X14 hx (hb hby at_355) (pc' := 358) rfl (teq (by decide : (-1 : Int32) = (-1 : Int32))).2 ?_
        refine oI2 X14 hx (hb hby at_358) (pc' := 360) rfl rfl ?_
        refine oI2 X14 hx (hb hby at_360) (pc' := 362) rfl rfl ?_
        refine oN X14 hx (hb hby at_362) (pc' := 365) rfl (teq (by decide : (2147483647 : Int32) = (2147483647 : Int32))).2 ?_
        refine oC X14 hx (1 : Int32) (hb hby at_365) (pc' := 366) rfl rfl ?_
        refine oG X14 hx (hb hby at_366) (pc' := 370) (by decide) (by decide) ?_
        refine own_pre (T' := T14) (f' := (mkF m 372 #[iv p1, iv p2, iv p3, iv p4, iv p5, iv p6, iv P1, iv P2, iv P3, iv (1 : Int32), iv (0 : Int32), iv q, rv b1, rv b5, rv o, iv (1 : Int32), iv (0 : Int32), iv (0 : Int32), iv (0 : Int32), iv (-1 : Int32), iv (0 : Int32), iv (-1 : Int32), iv (2147483647 : Int32), iv (2147483647 : Int32)] [])) (fun t k => XS.istore X14.here hx rfl (hb hby at_370) rfl (l' := #[iv p1, iv p2, iv p3, iv p4, iv p5, iv p6, iv P1, iv P2, iv P3, iv (1 : Int32), iv (0 : Int32), iv q, rv b1, rv b5, rv o, iv (1 : Int32), iv (0 : Int32), iv (0 : Int32), iv (0 : Int32), iv (-1 : Int32), iv (0 : Int32), iv (-1 : Int32), iv (2147483647 : Int32), iv (2147483647 : Int32)]) rfl k) ?_
        refine oI2 X14 hx (hb hby at_372) (pc' := 374) rfl rfl ?_
        refine oI2 X14 hx (hb hby at_374) (pc' := 376) rfl rfl ?_
        refine oY X14 hx (hb hby at_376) (pc' := 404) (flt (by decide : ¬ ((0 : Int32) < (0 : Int32)))).2.1 (by decide) (by decide) ?_
        refine oI2 X14 hx (hb hby at_404) (pc' := 406) rfl rfl ?_
        exact own_retZ X14 hx hlk hret (hb hby at_406) rfl (⟨rfl, Fr.nil _⟩) (by decide) (by decide)
    · rcases hpr with rfl | rfl
      · refine oI2 X10 hx (hb hby at_123) (pc' := 125) rfl rfl ?_
        refine oC X10 hx (1 : Int32) (hb hby at_125) (pc' := 126) rfl rfl ?_
        refine oN X10 hx (hb hby at_126) (pc' := 129) rfl (flt (by decide : ¬ ((1 : Int32) < (1 : Int32)))).1 ?_
        refine oA2 X10 hx (hb hby at_129) (pc' := 131) rfl rfl rfl ?_
        refine oI2 X10 hx (hb hby at_131) (pc' := 133) rfl rfl ?_
        refine oI1 X10 hx (hb hby at_133) (pc' := 134) rfl rfl ?_
        obtain ⟨T15, L15, v15, Y15a, ⟨rfl, N15, P, O, kP, kO, B15⟩, st15⟩ := own_callV X10 hx hZ e10 (y := (⟨"com/example/orthonorm/orthonorm/sanskrit/Anchors", "add", "(II)V"⟩ : MethodName)) hown (hw _ (List.mem_of_getElem? (i := 33) rfl)) (hw _ (List.mem_of_getElem? (i := 34) rfl)) (hw _ (List.mem_of_getElem? (i := 36) rfl)) (hw _ (List.mem_of_getElem? (i := 35) rfl)) (hw _ (List.mem_of_getElem? (i := 37) rfl)) (hw _ (List.mem_of_getElem? (i := 4) rfl)) (by decide) 0 [(.int P1), (.int p3)] [] (own_add1 l Z a0 hw [] w_NO_ANCHORS k_NO_ANCHORS h10 (own_F_ext F0 EX10_h0) h8 Fb o P1 p3 B10) (by decide) (by decide) (by decide) (by decide) (own_Ob_E B10) (g := (mkF m 134 #[iv p1, iv p2, iv p3, iv p4, iv p5, iv p6, iv P1, iv P2, iv P3, iv (0 : Int32), iv (1 : Int32), iv q, rv b1, rv b5, rv o, .unset, .unset, .unset, .unset, .unset, .unset, .unset, .unset, .unset] [(.int p3), (.int P1), (.ref o)])) rfl (by rw [hml]; rfl) (lenOf pd_5 rfl) rfl (by show 2 * 0 + _ ≤ _; exact Nat.le_of_eq rfl) (hb hby at_134)
        have X15 := Y15a.forget (fun y hy => Nat.le_trans hsz (N15 y hy))
        obtain ⟨h15, e15⟩ : ∃ y, T15.heap = y := ⟨_, rfl⟩
        rw [e15] at B15
        have EX15_h0 : Ext h0 h15 := own_extE EX8_h0 (own_Ob_X B15.1)
        have EX15_h4 : Ext h4 h15 := own_extE EX8_h4 (own_Ob_X B15.1)
        have EX15_h8 : Ext h8 h15 := own_Ob_X B15.1
        refine own_pre (T' := T15) (f' := (mkF m 137 #[iv p1, iv p2, iv p3, iv p4, iv p5, iv p6, iv P1, iv P2, iv P3, iv (0 : Int32), iv (1 : Int32), iv q, rv b1, rv b5, rv o, .unset, .unset, .unset, .unset, .unset, .unset, .unset, .unset, .unset] [])) (fun t k => st15 t k) ?_
        refine oI2 X15 hx (hb hby at_137) (pc' := 139) rfl rfl ?_
        refine oC X15 hx (2 : Int32) (hb hby at_139) (pc' := 140) rfl rfl ?_
        refine oY X15 hx (hb hby at_140) (pc' := 151) (tlt (by decide : (1 : Int32) < (2 : Int32))).1 (by decide) (by decide) ?_
        refine oI2 X15 hx (hb hby at_151) (pc' := 153) rfl rfl ?_
        refine oC X15 hx (3 : Int32) (hb hby at_153) (pc' := 154) rfl rfl ?_
        refine oY X15 hx (hb hby at_154) (pc' := 166) (tlt (by decide : (1 : Int32) < (3 : Int32))).1 (by decide) (by decide) ?_
        refine oC X15 hx (1 : Int32) (hb hby at_166) (pc' := 167) rfl rfl ?_
        refine own_pre (T' := T15) (f' := (mkF m 169 #[iv p1, iv p2, iv p3, iv p4, iv p5, iv p6, iv P1, iv P2, iv P3, iv (0 : Int32), iv (1 : Int32), iv q, rv b1, rv b5, rv o, iv (1 : Int32), .unset, .unset, .unset, .unset, .unset, .unset, .unset, .unset] [])) (fun t k => XS.istore X15.here hx rfl (hb hby at_167) rfl (l' := #[iv p1, iv p2, iv p3, iv p4, iv p5, iv p6, iv P1, iv P2, iv P3, iv (0 : Int32), iv (1 : Int32), iv q, rv b1, rv b5, rv o, iv (1 : Int32), .unset, .unset, .unset, .unset, .unset, .unset, .unset, .unset]) rfl k) ?_
        refine oC X15 hx (0 : Int32) (hb hby at_169) (pc' := 170) rfl rfl ?_
        refine own_pre (T' := T15) (f' := (mkF m 172 #[iv p1, iv p2, iv p3, iv p4, iv p5, iv p6, iv P1, iv P2, iv P3, iv (0 : Int32), iv (1 : Int32), iv q, rv b1, rv b5, rv o, iv (1 : Int32), iv (0 : Int32), .unset, .unset, .unset, .unset, .unset, .unset, .unset] [])) (fun t k => XS.istore X15.here hx rfl (hb hby at_170) rfl (l' := #[iv p1, iv p2, iv p3, iv p4, iv p5, iv p6, iv P1, iv P2, iv P3, iv (0 : Int32), iv (1 : Int32), iv q, rv b1, rv b5, rv o, iv (1 : Int32), iv (0 : Int32), .unset, .unset, .unset, .unset, .unset, .unset, .unset]) rfl k) ?_
        refine oI2 X15 hx (hb hby at_172) (pc' := 174) rfl rfl ?_
        refine oY0 X15 hx (hb hby at_174) (pc' := 202) ((if0 _ _).trans (teq (by decide : (0 : Int32) = (0 : Int32))).1) (by decide) (by decide) ?_
        refine oC X15 hx (0 : Int32) (hb hby at_202) (pc' := 203) rfl rfl ?_
        refine own_pre (T' := T15) (f' := (mkF m 205 #[iv p1, iv p2, iv p3, iv p4, iv p5, iv p6, iv P1, iv P2, iv P3, iv (0 : Int32), iv (1 : Int32), iv q, rv b1, rv b5, rv o, iv (1 : Int32), iv (0 : Int32), iv (0 : Int32), .unset, .unset, .unset, .unset, .unset, .unset] [])) (fun t k => XS.istore X15.here hx rfl (hb hby at_203) rfl (l' := #[iv p1, iv p2, iv p3, iv p4, iv p5, iv p6, iv P1, iv P2, iv P3, iv (0 : Int32), iv (1 : Int32), iv q, rv b1, rv b5, rv o, iv (1 : Int32), iv (0 : Int32), iv (0 : Int32), .unset, .unset, .unset, .unset, .unset, .unset]) rfl k) ?_
        refine oI2 X15 hx (hb hby at_205) (pc' := 207) rfl rfl ?_
        refine oN0 X15 hx (hb hby at_207) (pc' := 210) rfl ((if0 _ _).trans (flt (by decide : ¬ ((0 : Int32) < (0 : Int32)))).2.2.1) ?_
        refine oC X15 hx (0 : Int32) (hb hby at_210) (pc' := 211) rfl rfl ?_
        refine oI2 X15 hx (hb hby at_211) (pc' := 213) rfl rfl ?_
        refine oN X15 hx (hb hby at_213) (pc' := 216) rfl (tlt (by decide : (0 : Int32) < (1 : Int32))).2.1 ?_
        refine oI2 X15 hx (hb hby at_216) (pc' := 218) rfl rfl ?_
        refine oI2 X15 hx (hb hby at_218) (pc' := 220) rfl rfl ?_
        by_cases hc16 : P1 < q
        · refine oN X15 hx (hb hby at_220) (pc' := 223) rfl (tlt hc16).2.1 ?_
          refine own_pre (T' := T15) (f' := (mkF m 226 #[iv p1, iv p2, iv p3, iv p4, iv p5, iv p6, iv P1, iv P2, iv P3, iv (0 : Int32), iv (1 : Int32), iv q, rv b1, rv b5, rv o, iv (1 : Int32), iv (0 : Int32), iv ((0 : Int32) + (1 : Int32)), .unset, .unset, .unset, .unset, .unset, .unset] [])) (fun t k => XS.iinc X15.here hx rfl (hb hby at_223) rfl (l' := #[iv p1, iv p2, iv p3, iv p4, iv p5, iv p6, iv P1, iv P2, iv P3, iv (0 : Int32), iv (1 : Int32), iv q, rv b1, rv b5, rv o, iv (1 : Int32), iv (0 : Int32), iv ((0 : Int32) + (1 : Int32)), .unset, .unset, .unset, .unset, .unset, .unset]) rfl k) ?_
          rw [show ((0 : Int32) + (1 : Int32)) = (1 : Int32) from by decide]
          refine oI2 X15 hx (hb hby at_226) (pc' := 228) rfl rfl ?_
          refine oC X15 hx (1 : Int32) (hb hby at_228) (pc' := 229) rfl rfl ?_
          refine oN X15 hx (hb hby at_229) (pc' := 232) rfl (flt (by decide : ¬ ((1 : Int32) < (0 : Int32)))).2.2.1 ?_
          refine oC X15 hx (1 : Int32) (hb hby at_232) (pc' := 233) rfl rfl ?_
          refine oI2 X15 hx (hb hby at_233) (pc' := 235) rfl rfl ?_
          refine oY X15 hx (hb hby at_235) (pc' := 248) (flt (by decide : ¬ ((1 : Int32) < (1 : Int32)))).2.1 (by decide) (by decide) ?_
          refine oC X15 hx (2 : Int32) (hb hby at_248) (pc' := 249) rfl rfl ?_
          refine oI2 X15 hx (hb hby at_249) (pc' := 251) rfl rfl ?_
          refine oY X15 hx (hb hby at_251) (pc' := 264) (flt (by decide : ¬ ((2 : Int32) < (1 : Int32)))).2.1 (by decide) (by decide) ?_
          refine oI2 X15 hx (hb hby at_264) (pc' := 266) rfl rfl ?_
          refine oI2 X15 hx (hb hby at_266) (pc' := 268) rfl rfl ?_
          refine own_pre (T' := T15) (f' := (mkF m 269 #[iv p1, iv p2, iv p3, iv p4, iv p5, iv p6, iv P1, iv P2, iv P3, iv (0 : Int32), iv (1 : Int32), iv q, rv b1, rv b5, rv o, iv (1 : Int32), iv (0 : Int32), iv (1 : Int32), .unset, .unset, .unset, .unset, .unset, .unset] [(.int ((0 : Int32) + (1 : Int32)))])) (fun t k => XS.iadd X15.here hx rfl (hb hby at_268) rfl k) ?_
          rw [show ((0 : Int32) + (1 : Int32)) = (1 : Int32) from by decide]
          refine own_pre (T' := T15) (f' := (mkF m 271 #[iv p1, iv p2, iv p3, iv p4, iv p5, iv p6, iv P1, iv P2, iv P3, iv (0 : Int32), iv (1 : Int32), iv q, rv b1, rv b5, rv o, iv (1 : Int32), iv (0 : Int32), iv (1 : Int32), iv (1 : Int32), .unset, .unset, .unset, .unset, .unset] [])) (fun t k => XS.istore X15.here hx rfl (hb hby at_269) rfl (l' := #[iv p1, iv p2, iv p3, iv p4, iv p5, iv p6, iv P1, iv P2, iv P3, iv (0 : Int32), iv (1 : Int32), iv q, rv b1, rv b5, rv o, iv (1 : Int32), iv (0 : Int32), iv (1 : Int32), iv (1 : Int32), .unset, .unset, .unset, .unset, .unset]) rfl k) ?_
          refine oI2 X15 hx (hb hby at_271) (pc' := 273) rfl rfl ?_
          refine oI2 X15 hx (hb hby at_273) (pc' := 275) rfl rfl ?_
          refine oY X15 hx (hb hby at_275) (pc' := 304) (flt (by decide : ¬ ((1 : Int32) < (1 : Int32)))).2.1 (by decide) (by decide) ?_
          refine oC X15 hx (-1 : Int32) (hb hby at_304) (pc' := 305) rfl rfl ?_
          refine own_pre (T' := T15) (f' := (mkF m 307 #[iv p1, iv p2, iv p3, iv p4, iv p5, iv p6, iv P1, iv P2, iv P3, iv (0 : Int32), iv (1 : Int32), iv q, rv b1, rv b5, rv o, iv (1 : Int32), iv (0 : Int32), iv (1 : Int32), iv (1 : Int32), iv (-1 : Int32), .unset, .unset, .unset, .unset] [])) (fun t k => XS.istore X15.here hx rfl (hb hby at_305) rfl (l' := #[iv p1, iv p2, iv p3, iv p4, iv p5, iv p6, iv P1, iv P2, iv P3, iv (0 : Int32), iv (1 : Int32), iv q, rv b1, rv b5, rv o, iv (1 : Int32), iv (0 : Int32), iv (1 : Int32), iv (1 : Int32), iv (-1 : Int32), .unset, .unset, .unset, .unset]) rfl k) ?_
          refine oI2 X15 hx (hb hby at_307) (pc' := 309) rfl rfl ?_
          refine own_pre (T' := T15) (f' := (mkF m 311 #[iv p1, iv p2, iv p3, iv p4, iv p5, iv p6, iv P1, iv P2, iv P3, iv (0 : Int32), iv (1 : Int32), iv q, rv b1, rv b5, rv o, iv (1 : Int32), iv (0 : Int32), iv (1 : Int32), iv (1 : Int32), iv (-1 : Int32), iv (1 : Int32), .unset, .unset, .unset] [])) (fun t k => XS.istore X15.here hx rfl (hb hby at_309) rfl (l' := #[iv p1, iv p2, iv p3, iv p4, iv p5, iv p6, iv P1, iv P2, iv P3, iv (0 : Int32), iv (1 : Int32), iv q, rv b1, rv b5, rv o, iv (1 : Int32), iv (0 : Int32), iv (1 : Int32), iv (1 : Int32), iv (-1 : Int32), iv (1 : Int32), .unset, .unset, .unset]) rfl k) ?_
          refine oA2 X15 hx (hb hby at_311) (pc' := 313) rfl rfl rfl ?_
          refine oI2 X15 hx (hb hby at_313) (pc' := 315) rfl rfl ?_
          obtain ⟨T17, L17, v17, Y17a, ⟨rfl, N17, B17⟩, st17⟩ := own_callV X15 hx hZ e15 (y := (⟨"com/example/orthonorm/orthonorm/sanskrit/Anchors", "takeAt", "(I)I"⟩ : MethodName)) hown (hw _ (List.mem_of_getElem? (i := 17) rfl)) (hw _ (List.mem_of_getElem? (i := 18) rfl)) (hw _ (List.mem_of_getElem? (i := 20) rfl)) (hw _ (List.mem_of_getElem? (i := 19) rfl)) (hw _ (List.mem_of_getElem? (i := 21) rfl)) (hw _ (List.mem_of_getElem? (i := 4) rfl)) (by decide) 0 [(.int q)] [] (own_at_1_0_1_0 l Z a0 hw [] w_NO_ANCHORS k_NO_ANCHORS h15 (own_F_ext F0 EX15_h0) h8 Fb o P O kP kO P1 (0 : Int32) (0 : Int32) (0 : Int32) (0 : Int32) (0 : Int32) (0 : Int32) (0 : Int32) p3 (0 : Int32) (0 : Int32) (0 : Int32) (0 : Int32) (0 : Int32) (0 : Int32) (0 : Int32) B15 q hc16) (by decide) (by decide) (by decide) (by decide) (own_Ob_E B15.1) (g := (mkF m 315 #[iv p1, iv p2, iv p3, iv p4, iv p5, iv p6, iv P1, iv P2, iv P3, iv (0 : Int32), iv (1 : Int32), iv q, rv b1, rv b5, rv o, iv (1 : Int32), iv (0 : Int32), iv (1 : Int32), iv (1 : Int32), iv (-1 : Int32), iv (1 : Int32), .unset, .unset, .unset] [(.int q), (.ref o)])) rfl (by rw [hml]; rfl) (lenOf pd_3 rfl) rfl (by show 2 * 0 + _ ≤ _; exact Nat.le_of_eq rfl) (hb hby at_315)
          have X17 := Y17a.forget (fun y hy => Nat.le_trans hsz (N17 y hy))
          obtain ⟨h17, e17⟩ : ∃ y, T17.heap = y := ⟨_, rfl⟩
          rw [e17] at B17
          have EX17_h0 : Ext h0 h17 := own_extE EX8_h0 (own_Ob_X B17.1)
          have EX17_h4 : Ext h4 h17 := own_extE EX8_h4 (own_Ob_X B17.1)
          have EX17_h8 : Ext h8 h17 := own_Ob_X B17.1
          refine own_pre (T' := T17) (f' := (mkF m 318 #[iv p1, iv p2, iv p3, iv p4, iv p5, iv p6, iv P1, iv P2, iv P3, iv (0 : Int32), iv (1 : Int32), iv q, rv b1, rv b5, rv o, iv (1 : Int32), iv (0 : Int32), iv (1 : Int32), iv (1 : Int32), iv (-1 : Int32), iv (1 : Int32), .unset, .unset, .unset] [(.int (-1 : Int32))])) (fun t k => st17 t k) ?_
          refine own_pre (T' := T17) (f' := (mkF m 320 #[iv p1, iv p2, iv p3, iv p4, iv p5, iv p6, iv P1, iv P2, iv P3, iv (0 : Int32), iv (1 : Int32), iv q, rv b1, rv b5, rv o, iv (1 : Int32), iv (0 : Int32), iv (1 : Int32), iv (1 : Int32), iv (-1 : Int32), iv (1 : Int32), iv (-1 : Int32), .unset, .unset] [])) (fun t k => XS.istore X17.here hx rfl (hb hby at_318) rfl (l' := #[iv p1, iv p2, iv p3, iv p4, iv p5, iv p6, iv P1, iv P2, iv P3, iv (0 : Int32), iv (1 : Int32), iv q, rv b1, rv b5, rv o, iv (1 : Int32), iv (0 : Int32), iv (1 : Int32), iv (1 : Int32), iv (-1 : Int32), iv (1 : Int32), iv (-1 : Int32), .unset, .unset]) rfl k) ?_
          refine oA2 X17 hx (hb hby at_320) (pc' := 322) rfl rfl rfl ?_
          obtain ⟨T18, X18, e18, st18⟩ := own_pure (f := 0) (n := 0) (v := (some (.int (2147483647 : Int32)))) (own_callV X17 hx hZ e17 (y := (⟨"com/example/orthonorm/orthonorm/sanskrit/Anchors", "nextPlace", "()I"⟩ : MethodName)) hown (hw _ (List.mem_of_getElem? (i := 26) rfl)) (hw _ (List.mem_of_getElem? (i := 27) rfl)) (hw _ (List.mem_of_getElem? (i := 29) rfl)) (hw _ (List.mem_of_getElem? (i := 28) rfl)) (hw _ (List.mem_of_getElem? (i := 30) rfl)) (hw _ (List.mem_of_getElem? (i := 4) rfl)) (by decide) 0 [] [] (own_next_1_1 l Z a0 hw [] w_NO_ANCHORS k_NO_ANCHORS h17 (own_F_ext F0 EX17_h0) h8 Fb o P O kP kO P1 (0 : Int32) (0 : Int32) (0 : Int32) (0 : Int32) (0 : Int32) (0 : Int32) (0 : Int32) p3 (0 : Int32) (0 : Int32) (0 : Int32) (0 : Int32) (0 : Int32) (0 : Int32) (0 : Int32) B17) (by decide) (by decide) (by decide) (by decide) (own_Ob_E B17.1) (g := (mkF m 322 #[iv p1, iv p2, iv p3, iv p4, iv p5, iv p6, iv P1, iv P2, iv P3, iv (0 : Int32), iv (1 : Int32), iv q, rv b1, rv b5, rv o, iv (1 : Int32), iv (0 : Int32), iv (1 : Int32), iv (1 : Int32), iv (-1 : Int32), iv (1 : Int32), iv (-1 : Int32), .unset, .unset] [(.ref o)])) rfl (by rw [hml]; rfl) (lenOf pd_4 rfl) rfl (by show 2 * 0 + _ ≤ _; exact Nat.le_of_eq rfl) (hb hby at_322))
          refine own_pre (T' := T18) (f' := (mkF m 325 #[iv p1, iv p2, iv p3, iv p4, iv p5, iv p6, iv P1, iv P2, iv P3, iv (0 : Int32), iv (1 : Int32), iv q, rv b1, rv b5, rv o, iv (1 : Int32), iv (0 : Int32), iv (1 : Int32), iv (1 : Int32), iv (-1 : Int32), iv (1 : Int32), iv (-1 : Int32), .unset, .unset] [(.int (2147483647 : Int32))])) (fun t k => st18 t k) ?_
          refine own_pre (T' := T18) (f' := (mkF m 327 #[iv p1, iv p2, iv p3, iv p4, iv p5, iv p6, iv P1, iv P2, iv P3, iv (0 : Int32), iv (1 : Int32), iv q, rv b1, rv b5, rv o, iv (1 : Int32), iv (0 : Int32), iv (1 : Int32), iv (1 : Int32), iv (-1 : Int32), iv (1 : Int32), iv (-1 : Int32), iv (2147483647 : Int32), .unset] [])) (fun t k => XS.istore X18.here hx rfl (hb hby at_325) rfl (l' := #[iv p1, iv p2, iv p3, iv p4, iv p5, iv p6, iv P1, iv P2, iv P3, iv (0 : Int32), iv (1 : Int32), iv q, rv b1, rv b5, rv o, iv (1 : Int32), iv (0 : Int32), iv (1 : Int32), iv (1 : Int32), iv (-1 : Int32), iv (1 : Int32), iv (-1 : Int32), iv (2147483647 : Int32), .unset]) rfl k) ?_
          refine oI2 X18 hx (hb hby at_327) (pc' := 329) rfl rfl ?_
          refine oI2 X18 hx (hb hby at_329) (pc' := 331) rfl rfl ?_
          refine oY X18 hx (hb hby at_331) (pc' := 342) (flt (by decide : ¬ ((1 : Int32) < (1 : Int32)))).2.1 (by decide) (by decide) ?_
          refine own_pre (T' := T18) (f' := (mkF m 344 #[iv p1, iv p2, iv p3, iv p4, iv p5, iv p6, iv P1, iv P2, iv P3, iv (0 : Int32), iv (1 : Int32), iv q, rv b1, rv b5, rv o, iv (1 : Int32), iv (0 : Int32), iv (1 : Int32), iv (1 : Int32), iv (-1 : Int32), iv (1 : Int32), iv (-1 : Int32), iv (2147483647 : Int32), .unset] [(.int (2147483647 : Int32))])) (fun t k => X18.ldcInt hx hown (mvT hZ (hw _ (List.mem_of_getElem? (i := 32) rfl))) (g := (mkF m 342 #[iv p1, iv p2, iv p3, iv p4, iv p5, iv p6, iv P1, iv P2, iv P3, iv (0 : Int32), iv (1 : Int32), iv q, rv b1, rv b5, rv o, iv (1 : Int32), iv (0 : Int32), iv (1 : Int32), iv (1 : Int32), iv (-1 : Int32), iv (1 : Int32), iv (-1 : Int32), iv (2147483647 : Int32), .unset] [])) rfl (hb hby at_342) t k) ?_
          refine own_pre (T' := T18) (f' := (mkF m 346 #[iv p1, iv p2, iv p3, iv p4, iv p5, iv p6, iv P1, iv P2, iv P3, iv (0 : Int32), iv (1 : Int32), iv q, rv b1, rv b5, rv o, iv (1 : Int32), iv (0 : Int32), iv (1 : Int32), iv (1 : Int32), iv (-1 : Int32), iv (1 : Int32), iv (-1 : Int32), iv (2147483647 : Int32), iv (2147483647 : Int32)] [])) (fun t k => XS.istore X18.here hx rfl (hb hby at_344) rfl (l' := #[iv p1, iv p2, iv p3, iv p4, iv p5, iv p6, iv P1, iv P2, iv P3, iv (0 : Int32), iv (1 : Int32), iv q, rv b1, rv b5, rv o, iv (1 : Int32), iv (0 : Int32), iv (1 : Int32), iv (1 : Int32), iv (-1 : Int32), iv (1 : Int32), iv (-1 : Int32), iv (2147483647 : Int32), iv (2147483647 : Int32)]) rfl k) ?_
          refine oI2 X18 hx (hb hby at_346) (pc' := 348) rfl rfl ?_
          refine oN0 X18 hx (hb hby at_348) (pc' := 351) rfl ((if0 _ _).trans (feq (by decide : ¬ ((1 : Int32) = (0 : Int32)))).1) ?_
          refine oI2 X18 hx (hb hby at_351) (pc' := 353) rfl rfl ?_
          refine oI2 X18 hx (hb hby at_353) (pc' := 355) rfl rfl ?_
          refine oN X18 hx (hb hby at_355) (pc' := 358) rfl (teq (by decide : (-1 : Int32) = (-1 : Int32))).2 ?_
          refine oI2 X18 hx (hb hby at_358) (pc' := 360) rfl rfl ?_
          refine oI2 X18 hx (hb hby at_360) (pc' := 362) rfl rfl ?_
          refine oN X18 hx (hb hby at_362) (pc' := 365) rfl (teq (by decide : (2147483647 : Int32) = (2147483647 : Int32))).2 ?_
          refine oC X18 hx (1 : Int32) (hb hby at_365) (pc' := 366) rfl rfl ?_
          refine oG X18 hx (hb hby at_366) (pc' := 370) (by decide) (by decide) ?_
          refine own_pre (T' := T18) (f' := (mkF m 372 #[iv p1, iv p2, iv p3, iv p4, iv p5, iv p6, iv P1, iv P2, iv P3, iv (0 : Int32), iv (1 : Int32), iv q, rv b1, rv b5, rv o, iv (1 : Int32), iv (0 : Int32), iv (1 : Int32), iv (1 : Int32), iv (-1 : Int32), iv (1 : Int32), iv (-1 : Int32), iv (2147483647 : Int32), iv (2147483647 : Int32)] [])) (fun t k => XS.istore X18.here hx rfl (hb hby at_370) rfl (l' := #[iv p1, iv p2, iv p3, iv p4, iv p5, iv p6, iv P1, iv P2, iv P3, iv (0 : Int32), iv (1 : Int32), iv q, rv b1, rv b5, rv o, iv (1 : Int32), iv (0 : Int32), iv (1 : Int32), iv (1 : Int32), iv (-1 : Int32), iv (1 : Int32), iv (-1 : Int32), iv (2147483647 : Int32), iv (2147483647 : Int32)]) rfl k) ?_
          refine oI2 X18 hx (hb hby at_372) (pc' := 374) rfl rfl ?_
          refine oI2 X18 hx (hb hby at_374) (pc' := 376) rfl rfl ?_
          refine oY X18 hx (hb hby at_376) (pc' := 404) (flt (by decide : ¬ ((1 : Int32) < (1 : Int32)))).2.1 (by decide) (by decide) ?_
          refine oI2 X18 hx (hb hby at_404) (pc' := 406) rfl rfl ?_
          exact own_retZ X18 hx hlk hret (hb hby at_406) rfl (⟨rfl, Fr.nil _⟩) (by decide) (by decide)
        · refine oY X15 hx (hb hby at_220) (pc' := 226) (flt hc16).2.1 (by decide) (by decide) ?_
          refine oI2 X15 hx (hb hby at_226) (pc' := 228) rfl rfl ?_
          refine oC X15 hx (1 : Int32) (hb hby at_228) (pc' := 229) rfl rfl ?_
          refine oN X15 hx (hb hby at_229) (pc' := 232) rfl (flt (by decide : ¬ ((1 : Int32) < (0 : Int32)))).2.2.1 ?_
          refine oC X15 hx (1 : Int32) (hb hby at_232) (pc' := 233) rfl rfl ?_
          refine oI2 X15 hx (hb hby at_233) (pc' := 235) rfl rfl ?_
          refine oY X15 hx (hb hby at_235) (pc' := 248) (flt (by decide : ¬ ((1 : Int32) < (1 : Int32)))).2.1 (by decide) (by decide) ?_
          refine oC X15 hx (2 : Int32) (hb hby at_248) (pc' := 249) rfl rfl ?_
          refine oI2 X15 hx (hb hby at_249) (pc' := 251) rfl rfl ?_
          refine oY X15 hx (hb hby at_251) (pc' := 264) (flt (by decide : ¬ ((2 : Int32) < (1 : Int32)))).2.1 (by decide) (by decide) ?_
          refine oI2 X15 hx (hb hby at_264) (pc' := 266) rfl rfl ?_
          refine oI2 X15 hx (hb hby at_266) (pc' := 268) rfl rfl ?_
          refine own_pre (T' := T15) (f' := (mkF m 269 #[iv p1, iv p2, iv p3, iv p4, iv p5, iv p6, iv P1, iv P2, iv P3, iv (0 : Int32), iv (1 : Int32), iv q, rv b1, rv b5, rv o, iv (1 : Int32), iv (0 : Int32), iv (0 : Int32), .unset, .unset, .unset, .unset, .unset, .unset] [(.int ((0 : Int32) + (0 : Int32)))])) (fun t k => XS.iadd X15.here hx rfl (hb hby at_268) rfl k) ?_
          rw [show ((0 : Int32) + (0 : Int32)) = (0 : Int32) from by decide]
          refine own_pre (T' := T15) (f' := (mkF m 271 #[iv p1, iv p2, iv p3, iv p4, iv p5, iv p6, iv P1, iv P2, iv P3, iv (0 : Int32), iv (1 : Int32), iv q, rv b1, rv b5, rv o, iv (1 : Int32), iv (0 : Int32), iv (0 : Int32), iv (0 : Int32), .unset, .unset, .unset, .unset, .unset] [])) (fun t k => XS.istore X15.here hx rfl (hb hby at_269) rfl (l' := #[iv p1, iv p2, iv p3, iv p4, iv p5, iv p6, iv P1, iv P2, iv P3, iv (0 : Int32), iv (1 : Int32), iv q, rv b1, rv b5, rv o, iv (1 : Int32), iv (0 : Int32), iv (0 : Int32), iv (0 : Int32), .unset, .unset, .unset, .unset, .unset]) rfl k) ?_
          refine oI2 X15 hx (hb hby at_271) (pc' := 273) rfl rfl ?_
          refine oI2 X15 hx (hb hby at_273) (pc' := 275) rfl rfl ?_
          refine oN X15 hx (hb hby at_275) (pc' := 278) rfl (tlt (by decide : (0 : Int32) < (1 : Int32))).2.1 ?_
          refine oA2 X15 hx (hb hby at_278) (pc' := 280) rfl rfl rfl ?_
          refine oI2 X15 hx (hb hby at_280) (pc' := 282) rfl rfl ?_
          refine own_pre (T' := T15) (f' := (mkF m 283 #[iv p1, iv p2, iv p3, iv p4, iv p5, iv p6, iv P1, iv P2, iv P3, iv (0 : Int32), iv (1 : Int32), iv q, rv b1, rv b5, rv o, iv (1 : Int32), iv (0 : Int32), iv (0 : Int32), iv (0 : Int32), .unset, .unset, .unset, .unset, .unset] [(.int P1)])) (fun t k => own_ldI X15 hx hZ e15 (V4.ext EX15_h4) (by decide) rfl (g := (mkF m 282 #[iv p1, iv p2, iv p3, iv p4, iv p5, iv p6, iv P1, iv P2, iv P3, iv (0 : Int32), iv (1 : Int32), iv q, rv b1, rv b5, rv o, iv (1 : Int32), iv (0 : Int32), iv (0 : Int32), iv (0 : Int32), .unset, .unset, .unset, .unset, .unset] [(.int (0 : Int32)), (.ref b1)])) rfl rfl (hb hby at_282) t k) ?_
          refine oI2 X15 hx (hb hby at_283) (pc' := 285) rfl rfl ?_
          by_cases hc19 : P1 = q
          · refine oN X15 hx (hb hby at_285) (pc' := 288) rfl (teq hc19).2 ?_
            refine oA2 X15 hx (hb hby at_288) (pc' := 290) rfl rfl rfl ?_
            refine oI2 X15 hx (hb hby at_290) (pc' := 292) rfl rfl ?_
            refine own_pre (T' := T15) (f' := (mkF m 293 #[iv p1, iv p2, iv p3, iv p4, iv p5, iv p6, iv P1, iv P2, iv P3, iv (0 : Int32), iv (1 : Int32), iv q, rv b1, rv b5, rv o, iv (1 : Int32), iv (0 : Int32), iv (0 : Int32), iv (0 : Int32), .unset, .unset, .unset, .unset, .unset] [(.int p3)])) (fun t k => own_ldI X15 hx hZ e15 (V8.ext EX15_h8) (by decide) rfl (g := (mkF m 292 #[iv p1, iv p2, iv p3, iv p4, iv p5, iv p6, iv P1, iv P2, iv P3, iv (0 : Int32), iv (1 : Int32), iv q, rv b1, rv b5, rv o, iv (1 : Int32), iv (0 : Int32), iv (0 : Int32), iv (0 : Int32), .unset, .unset, .unset, .unset, .unset] [(.int (0 : Int32)), (.ref b5)])) rfl rfl (hb hby at_292) t k) ?_
            refine own_pre (T' := T15) (f' := (mkF m 295 #[iv p1, iv p2, iv p3, iv p4, iv p5, iv p6, iv P1, iv P2, iv P3, iv (0 : Int32), iv (1 : Int32), iv q, rv b1, rv b5, rv o, iv (1 : Int32), iv (0 : Int32), iv (0 : Int32), iv (0 : Int32), iv p3, .unset, .unset, .unset, .unset] [])) (fun t k => XS.istore X15.here hx rfl (hb hby at_293) rfl (l' := #[iv p1, iv p2, iv p3, iv p4, iv p5, iv p6, iv P1, iv P2, iv P3, iv (0 : Int32), iv (1 : Int32), iv q, rv b1, rv b5, rv o, iv (1 : Int32), iv (0 : Int32), iv (0 : Int32), iv (0 : Int32), iv p3, .unset, .unset, .unset, .unset]) rfl k) ?_
            refine oI2 X15 hx (hb hby at_295) (pc' := 297) rfl rfl ?_
            refine oC X15 hx (1 : Int32) (hb hby at_297) (pc' := 298) rfl rfl ?_
            refine own_pre (T' := T15) (f' := (mkF m 299 #[iv p1, iv p2, iv p3, iv p4, iv p5, iv p6, iv P1, iv P2, iv P3, iv (0 : Int32), iv (1 : Int32), iv q, rv b1, rv b5, rv o, iv (1 : Int32), iv (0 : Int32), iv (0 : Int32), iv (0 : Int32), iv p3, .unset, .unset, .unset, .unset] [(.int ((0 : Int32) + (1 : Int32)))])) (fun t k => XS.iadd X15.here hx rfl (hb hby at_298) rfl k) ?_
            rw [show ((0 : Int32) + (1 : Int32)) = (1 : Int32) from by decide]
            refine own_pre (T' := T15) (f' := (mkF m 301 #[iv p1, iv p2, iv p3, iv p4, iv p5, iv p6, iv P1, iv P2, iv P3, iv (0 : Int32), iv (1 : Int32), iv q, rv b1, rv b5, rv o, iv (1 : Int32), iv (0 : Int32), iv (0 : Int32), iv (0 : Int32), iv p3, iv (1 : Int32), .unset, .unset, .unset] [])) (fun t k => XS.istore X15.here hx rfl (hb hby at_299) rfl (l' := #[iv p1, iv p2, iv p3, iv p4, iv p5, iv p6, iv P1, iv P2, iv P3, iv (0 : Int32), iv (1 : Int32), iv q, rv b1, rv b5, rv o, iv (1 : Int32), iv (0 : Int32), iv (0 : Int32), iv (0 : Int32), iv p3, iv (1 : Int32), .unset, .unset, .unset]) rfl k) ?_
            refine oG X15 hx (hb hby at_301) (pc' := 311) (by decide) (by decide) ?_
            refine oA2 X15 hx (hb hby at_311) (pc' := 313) rfl rfl rfl ?_
            refine oI2 X15 hx (hb hby at_313) (pc' := 315) rfl rfl ?_
            obtain ⟨T20, L20, v20, Y20a, ⟨rfl, N20, B20⟩, st20⟩ := own_callV X15 hx hZ e15 (y := (⟨"com/example/orthonorm/orthonorm/sanskrit/Anchors", "takeAt", "(I)I"⟩ : MethodName)) hown (hw _ (List.mem_of_getElem? (i := 17) rfl)) (hw _ (List.mem_of_getElem? (i := 18) rfl)) (hw _ (List.mem_of_getElem? (i := 20) rfl)) (hw _ (List.mem_of_getElem? (i := 19) rfl)) (hw _ (List.mem_of_getElem? (i := 21) rfl)) (hw _ (List.mem_of_getElem? (i := 4) rfl)) (by decide) 0 [(.int q)] [] (own_at_1_0_0_1 l Z a0 hw [] w_NO_ANCHORS k_NO_ANCHORS h15 (own_F_ext F0 EX15_h0) h8 Fb o P O kP kO P1 (0 : Int32) (0 : Int32) (0 : Int32) (0 : Int32) (0 : Int32) (0 : Int32) (0 : Int32) p3 (0 : Int32) (0 : Int32) (0 : Int32) (0 : Int32) (0 : Int32) (0 : Int32) (0 : Int32) B15 q hc16 hc19) (by decide) (by decide) (by decide) (by decide) (own_Ob_E B15.1) (g := (mkF m 315 #[iv p1, iv p2, iv p3, iv p4, iv p5, iv p6, iv P1, iv P2, iv P3, iv (0 : Int32), iv (1 : Int32), iv q, rv b1, rv b5, rv o, iv (1 : Int32), iv (0 : Int32), iv (0 : Int32), iv (0 : Int32), iv p3, iv (1 : Int32), .unset, .unset, .unset] [(.int q), (.ref o)])) rfl (by rw [hml]; rfl) (lenOf pd_3 rfl) rfl (by show 2 * 0 + _ ≤ _; exact Nat.le_of_eq rfl) (hb hby at_315)
            have X20 := Y20a.forget (fun y hy => Nat.le_trans hsz (N20 y hy))
            obtain ⟨h20, e20⟩ : ∃ y, T20.heap = y := ⟨_, rfl⟩
            rw [e20] at B20
            have EX20_h0 : Ext h0 h20 := own_extE EX8_h0 (own_Ob_X B20.1)
            have EX20_h4 : Ext h4 h20 := own_extE EX8_h4 (own_Ob_X B20.1)
            have EX20_h8 : Ext h8 h20 := own_Ob_X B20.1
            refine own_pre (T' := T20) (f' := (mkF m 318 #[iv p1, iv p2, iv p3, iv p4, iv p5, iv p6, iv P1, iv P2, iv P3, iv (0 : Int32), iv (1 : Int32), iv q, rv b1, rv b5, rv o, iv (1 : Int32), iv (0 : Int32), iv (0 : Int32), iv (0 : Int32), iv p3, iv (1 : Int32), .unset, .unset, .unset] [(.int p3)])) (fun t k => st20 t k) ?_
            refine own_pre (T' := T20) (f' := (mkF m 320 #[iv p1, iv p2, iv p3, iv p4, iv p5, iv p6, iv P1, iv P2, iv P3, iv (0 : Int32), iv (1 : Int32), iv q, rv b1, rv b5, rv o, iv (1 : Int32), iv (0 : Int32), iv (0 : Int32), iv (0 : Int32), iv p3, iv (1 : Int32), iv p3, .unset, .unset] [])) (fun t k => XS.istore X20.here hx rfl (hb hby at_318) rfl (l' := #[iv p1, iv p2, iv p3, iv p4, iv p5, iv p6, iv P1, iv P2, iv P3, iv (0 : Int32), iv (1 : Int32), iv q, rv b1, rv b5, rv o, iv (1 : Int32), iv (0 : Int32), iv (0 : Int32), iv (0 : Int32), iv p3, iv (1 : Int32), iv p3, .unset, .unset]) rfl k) ?_
            refine oA2 X20 hx (hb hby at_320) (pc' := 322) rfl rfl rfl ?_
            obtain ⟨T21, X21, e21, st21⟩ := own_pure (f := 0) (n := 0) (v := (some (.int (2147483647 : Int32)))) (own_callV X20 hx hZ e20 (y := (⟨"com/example/orthonorm/orthonorm/sanskrit/Anchors", "nextPlace", "()I"⟩ : MethodName)) hown (hw _ (List.mem_of_getElem? (i := 26) rfl)) (hw _ (List.mem_of_getElem? (i := 27) rfl)) (hw _ (List.mem_of_getElem? (i := 29) rfl)) (hw _ (List.mem_of_getElem? (i := 28) rfl)) (hw _ (List.mem_of_getElem? (i := 30) rfl)) (hw _ (List.mem_of_getElem? (i := 4) rfl)) (by decide) 0 [] [] (own_next_1_1 l Z a0 hw [] w_NO_ANCHORS k_NO_ANCHORS h20 (own_F_ext F0 EX20_h0) h8 Fb o P O kP kO P1 (0 : Int32) (0 : Int32) (0 : Int32) (0 : Int32) (0 : Int32) (0 : Int32) (0 : Int32) p3 (0 : Int32) (0 : Int32) (0 : Int32) (0 : Int32) (0 : Int32) (0 : Int32) (0 : Int32) B20) (by decide) (by decide) (by decide) (by decide) (own_Ob_E B20.1) (g := (mkF m 322 #[iv p1, iv p2, iv p3, iv p4, iv p5, iv p6, iv P1, iv P2, iv P3, iv (0 : Int32), iv (1 : Int32), iv q, rv b1, rv b5, rv o, iv (1 : Int32), iv (0 : Int32), iv (0 : Int32), iv (0 : Int32), iv p3, iv (1 : Int32), iv p3, .unset, .unset] [(.ref o)])) rfl (by rw [hml]; rfl) (lenOf pd_4 rfl) rfl (by show 2 * 0 + _ ≤ _; exact Nat.le_of_eq rfl) (hb hby at_322))
            refine own_pre (T' := T21) (f' := (mkF m 325 #[iv p1, iv p2, iv p3, iv p4, iv p5, iv p6, iv P1, iv P2, iv P3, iv (0 : Int32), iv (1 : Int32), iv q, rv b1, rv b5, rv o, iv (1 : Int32), iv (0 : Int32), iv (0 : Int32), iv (0 : Int32), iv p3, iv (1 : Int32), iv p3, .unset, .unset] [(.int (2147483647 : Int32))])) (fun t k => st21 t k) ?_
            refine own_pre (T' := T21) (f' := (mkF m 327 #[iv p1, iv p2, iv p3, iv p4, iv p5, iv p6, iv P1, iv P2, iv P3, iv (0 : Int32), iv (1 : Int32), iv q, rv b1, rv b5, rv o, iv (1 : Int32), iv (0 : Int32), iv (0 : Int32), iv (0 : Int32), iv p3, iv (1 : Int32), iv p3, iv (2147483647 : Int32), .unset] [])) (fun t k => XS.istore X21.here hx rfl (hb hby at_325) rfl (l' := #[iv p1, iv p2, iv p3, iv p4, iv p5, iv p6, iv P1, iv P2, iv P3, iv (0 : Int32), iv (1 : Int32), iv q, rv b1, rv b5, rv o, iv (1 : Int32), iv (0 : Int32), iv (0 : Int32), iv (0 : Int32), iv p3, iv (1 : Int32), iv p3, iv (2147483647 : Int32), .unset]) rfl k) ?_
            refine oI2 X21 hx (hb hby at_327) (pc' := 329) rfl rfl ?_
            refine oI2 X21 hx (hb hby at_329) (pc' := 331) rfl rfl ?_
            refine oY X21 hx (hb hby at_331) (pc' := 342) (flt (by decide : ¬ ((1 : Int32) < (1 : Int32)))).2.1 (by decide) (by decide) ?_
            refine own_pre (T' := T21) (f' := (mkF m 344 #[iv p1, iv p2, iv p3, iv p4, iv p5, iv p6, iv P1, iv P2, iv P3, iv (0 : Int32), iv (1 : Int32), iv q, rv b1, rv b5, rv o, iv (1 : Int32), iv (0 : Int32), iv (0 : Int32), iv (0 : Int32), iv p3, iv (1 : Int32), iv p3, iv (2147483647 : Int32), .unset] [(.int (2147483647 : Int32))])) (fun t k => X21.ldcInt hx hown (mvT hZ (hw _ (List.mem_of_getElem? (i := 32) rfl))) (g := (mkF m 342 #[iv p1, iv p2, iv p3, iv p4, iv p5, iv p6, iv P1, iv P2, iv P3, iv (0 : Int32), iv (1 : Int32), iv q, rv b1, rv b5, rv o, iv (1 : Int32), iv (0 : Int32), iv (0 : Int32), iv (0 : Int32), iv p3, iv (1 : Int32), iv p3, iv (2147483647 : Int32), .unset] [])) rfl (hb hby at_342) t k) ?_
            refine own_pre (T' := T21) (f' := (mkF m 346 #[iv p1, iv p2, iv p3, iv p4, iv p5, iv p6, iv P1, iv P2, iv P3, iv (0 : Int32), iv (1 : Int32), iv q, rv b1, rv b5, rv o, iv (1 : Int32), iv (0 : Int32), iv (0 : Int32), iv (0 : Int32), iv p3, iv (1 : Int32), iv p3, iv (2147483647 : Int32), iv (2147483647 : Int32)] [])) (fun t k => XS.istore X21.here hx rfl (hb hby at_344) rfl (l' := #[iv p1, iv p2, iv p3, iv p4, iv p5, iv p6, iv P1, iv P2, iv P3, iv (0 : Int32), iv (1 : Int32), iv q, rv b1, rv b5, rv o, iv (1 : Int32), iv (0 : Int32), iv (0 : Int32), iv (0 : Int32), iv p3, iv (1 : Int32), iv p3, iv (2147483647 : Int32), iv (2147483647 : Int32)]) rfl k) ?_
            refine oI2 X21 hx (hb hby at_346) (pc' := 348) rfl rfl ?_
            refine oN0 X21 hx (hb hby at_348) (pc' := 351) rfl ((if0 _ _).trans (feq (by decide : ¬ ((1 : Int32) = (0 : Int32)))).1) ?_
            refine oI2 X21 hx (hb hby at_351) (pc' := 353) rfl rfl ?_
            refine oI2 X21 hx (hb hby at_353) (pc' := 355) rfl rfl ?_
            refine oN X21 hx (hb hby at_355) (pc' := 358) rfl (teq (rfl : p3 = p3)).2 ?_
            refine oI2 X21 hx (hb hby at_358) (pc' := 360) rfl rfl ?_
            refine oI2 X21 hx (hb hby at_360) (pc' := 362) rfl rfl ?_
            refine oN X21 hx (hb hby at_362) (pc' := 365) rfl (teq (by decide : (2147483647 : Int32) = (2147483647 : Int32))).2 ?_
            refine oC X21 hx (1 : Int32) (hb hby at_365) (pc' := 366) rfl rfl ?_
            refine oG X21 hx (hb hby at_366) (pc' := 370) (by decide) (by decide) ?_
            refine own_pre (T' := T21) (f' := (mkF m 372 #[iv p1, iv p2, iv p3, iv p4, iv p5, iv p6, iv P1, iv P2, iv P3, iv (0 : Int32), iv (1 : Int32), iv q, rv b1, rv b5, rv o, iv (1 : Int32), iv (0 : Int32), iv (0 : Int32), iv (0 : Int32), iv p3, iv (1 : Int32), iv p3, iv (2147483647 : Int32), iv (2147483647 : Int32)] [])) (fun t k => XS.istore X21.here hx rfl (hb hby at_370) rfl (l' := #[iv p1, iv p2, iv p3, iv p4, iv p5, iv p6, iv P1, iv P2, iv P3, iv (0 : Int32), iv (1 : Int32), iv q, rv b1, rv b5, rv o, iv (1 : Int32), iv (0 : Int32), iv (0 : Int32), iv (0 : Int32), iv p3, iv (1 : Int32), iv p3, iv (2147483647 : Int32), iv (2147483647 : Int32)]) rfl k) ?_
            refine oI2 X21 hx (hb hby at_372) (pc' := 374) rfl rfl ?_
            refine oI2 X21 hx (hb hby at_374) (pc' := 376) rfl rfl ?_
            refine oY X21 hx (hb hby at_376) (pc' := 404) (flt (by decide : ¬ ((1 : Int32) < (1 : Int32)))).2.1 (by decide) (by decide) ?_
            refine oI2 X21 hx (hb hby at_404) (pc' := 406) rfl rfl ?_
            exact own_retZ X21 hx hlk hret (hb hby at_406) rfl (⟨rfl, Fr.nil _⟩) (by decide) (by decide)
          · refine oY X15 hx (hb hby at_285) (pc' := 304) (feq hc19).2 (by decide) (by decide) ?_
            refine oC X15 hx (-1 : Int32) (hb hby at_304) (pc' := 305) rfl rfl ?_
            refine own_pre (T' := T15) (f' := (mkF m 307 #[iv p1, iv p2, iv p3, iv p4, iv p5, iv p6, iv P1, iv P2, iv P3, iv (0 : Int32), iv (1 : Int32), iv q, rv b1, rv b5, rv o, iv (1 : Int32), iv (0 : Int32), iv (0 : Int32), iv (0 : Int32), iv (-1 : Int32), .unset, .unset, .unset, .unset] [])) (fun t k => XS.istore X15.here hx rfl (hb hby at_305) rfl (l' := #[iv p1, iv p2, iv p3, iv p4, iv p5, iv p6, iv P1, iv P2, iv P3, iv (0 : Int32), iv (1 : Int32), iv q, rv b1, rv b5, rv o, iv (1 : Int32), iv (0 : Int32), iv (0 : Int32), iv (0 : Int32), iv (-1 : Int32), .unset, .unset, .unset, .unset]) rfl k) ?_
            refine oI2 X15 hx (hb hby at_307) (pc' := 309) rfl rfl ?_
            refine own_pre (T' := T15) (f' := (mkF m 311 #[iv p1, iv p2, iv p3, iv p4, iv p5, iv p6, iv P1, iv P2, iv P3, iv (0 : Int32), iv (1 : Int32), iv q, rv b1, rv b5, rv o, iv (1 : Int32), iv (0 : Int32), iv (0 : Int32), iv (0 : Int32), iv (-1 : Int32), iv (0 : Int32), .unset, .unset, .unset] [])) (fun t k => XS.istore X15.here hx rfl (hb hby at_309) rfl (l' := #[iv p1, iv p2, iv p3, iv p4, iv p5, iv p6, iv P1, iv P2, iv P3, iv (0 : Int32), iv (1 : Int32), iv q, rv b1, rv b5, rv o, iv (1 : Int32), iv (0 : Int32), iv (0 : Int32), iv (0 : Int32), iv (-1 : Int32), iv (0 : Int32), .unset, .unset, .unset]) rfl k) ?_
            refine oA2 X15 hx (hb hby at_311) (pc' := 313) rfl rfl rfl ?_
            refine oI2 X15 hx (hb hby at_313) (pc' := 315) rfl rfl ?_
            obtain ⟨T22, X22, e22, st22⟩ := own_pure (f := 0) (n := 0) (v := (some (.int (-1 : Int32)))) (own_callV X15 hx hZ e15 (y := (⟨"com/example/orthonorm/orthonorm/sanskrit/Anchors", "takeAt", "(I)I"⟩ : MethodName)) hown (hw _ (List.mem_of_getElem? (i := 17) rfl)) (hw _ (List.mem_of_getElem? (i := 18) rfl)) (hw _ (List.mem_of_getElem? (i := 20) rfl)) (hw _ (List.mem_of_getElem? (i := 19) rfl)) (hw _ (List.mem_of_getElem? (i := 21) rfl)) (hw _ (List.mem_of_getElem? (i := 4) rfl)) (by decide) 0 [(.int q)] [] (own_at_1_0_0_0 l Z a0 hw [] w_NO_ANCHORS k_NO_ANCHORS h15 (own_F_ext F0 EX15_h0) h8 Fb o P O kP kO P1 (0 : Int32) (0 : Int32) (0 : Int32) (0 : Int32) (0 : Int32) (0 : Int32) (0 : Int32) p3 (0 : Int32) (0 : Int32) (0 : Int32) (0 : Int32) (0 : Int32) (0 : Int32) (0 : Int32) B15 q hc16 hc19) (by decide) (by decide) (by decide) (by decide) (own_Ob_E B15.1) (g := (mkF m 315 #[iv p1, iv p2, iv p3, iv p4, iv p5, iv p6, iv P1, iv P2, iv P3, iv (0 : Int32), iv (1 : Int32), iv q, rv b1, rv b5, rv o, iv (1 : Int32), iv (0 : Int32), iv (0 : Int32), iv (0 : Int32), iv (-1 : Int32), iv (0 : Int32), .unset, .unset, .unset] [(.int q), (.ref o)])) rfl (by rw [hml]; rfl) (lenOf pd_3 rfl) rfl (by show 2 * 0 + _ ≤ _; exact Nat.le_of_eq rfl) (hb hby at_315))
            refine own_pre (T' := T22) (f' := (mkF m 318 #[iv p1, iv p2, iv p3, iv p4, iv p5, iv p6, iv P1, iv P2, iv P3, iv (0 : Int32), iv (1 : Int32), iv q, rv b1, rv b5, rv o, iv (1 : Int32), iv (0 : Int32), iv (0 : Int32), iv (0 : Int32), iv (-1 : Int32), iv (0 : Int32), .unset, .unset, .unset] [(.int (-1 : Int32))])) (fun t k => st22 t k) ?_
            refine own_pre (T' := T22) (f' := (mkF m 320 #[iv p1, iv p2, iv p3, iv p4, iv p5, iv p6, iv P1, iv P2, iv P3, iv (0 : Int32), iv (1 : Int32), iv q, rv b1, rv b5, rv o, iv (1 : Int32), iv (0 : Int32), iv (0 : Int32), iv (0 : Int32), iv (-1 : Int32), iv (0 : Int32), iv (-1 : Int32), .unset, .unset] [])) (fun t k => XS.istore X22.here hx rfl (hb hby at_318) rfl (l' := #[iv p1, iv p2, iv p3, iv p4, iv p5, iv p6, iv P1, iv P2, iv P3, iv (0 : Int32), iv (1 : Int32), iv q, rv b1, rv b5, rv o, iv (1 : Int32), iv (0 : Int32), iv (0 : Int32), iv (0 : Int32), iv (-1 : Int32), iv (0 : Int32), iv (-1 : Int32), .unset, .unset]) rfl k) ?_
            refine oA2 X22 hx (hb hby at_320) (pc' := 322) rfl rfl rfl ?_
            obtain ⟨T23, X23, e23, st23⟩ := own_pure (f := 0) (n := 0) (v := (some (.int P1))) (own_callV X22 hx hZ e22 (y := (⟨"com/example/orthonorm/orthonorm/sanskrit/Anchors", "nextPlace", "()I"⟩ : MethodName)) hown (hw _ (List.mem_of_getElem? (i := 26) rfl)) (hw _ (List.mem_of_getElem? (i := 27) rfl)) (hw _ (List.mem_of_getElem? (i := 29) rfl)) (hw _ (List.mem_of_getElem? (i := 28) rfl)) (hw _ (List.mem_of_getElem? (i := 30) rfl)) (hw _ (List.mem_of_getElem? (i := 4) rfl)) (by decide) 0 [] [] (own_next_1_0 l Z a0 hw [] w_NO_ANCHORS k_NO_ANCHORS h15 (own_F_ext F0 EX15_h0) h8 Fb o P O kP kO P1 (0 : Int32) (0 : Int32) (0 : Int32) (0 : Int32) (0 : Int32) (0 : Int32) (0 : Int32) p3 (0 : Int32) (0 : Int32) (0 : Int32) (0 : Int32) (0 : Int32) (0 : Int32) (0 : Int32) B15) (by decide) (by decide) (by decide) (by decide) (own_Ob_E B15.1) (g := (mkF m 322 #[iv p1, iv p2, iv p3, iv p4, iv p5, iv p6, iv P1, iv P2, iv P3, iv (0 : Int32), iv (1 : Int32), iv q, rv b1, rv b5, rv o, iv (1 : Int32), iv (0 : Int32), iv (0 : Int32), iv (0 : Int32), iv (-1 : Int32), iv (0 : Int32), iv (-1 : Int32), .unset, .unset] [(.ref o)])) rfl (by rw [hml]; rfl) (lenOf pd_4 rfl) rfl (by show 2 * 0 + _ ≤ _; exact Nat.le_of_eq rfl) (hb hby at_322))
            refine own_pre (T' := T23) (f' := (mkF m 325 #[iv p1, iv p2, iv p3, iv p4, iv p5, iv p6, iv P1, iv P2, iv P3, iv (0 : Int32), iv (1 : Int32), iv q, rv b1, rv b5, rv o, iv (1 : Int32), iv (0 : Int32), iv (0 : Int32), iv (0 : Int32), iv (-1 : Int32), iv (0 : Int32), iv (-1 : Int32), .unset, .unset] [(.int P1)])) (fun t k => st23 t k) ?_
            refine own_pre (T' := T23) (f' := (mkF m 327 #[iv p1, iv p2, iv p3, iv p4, iv p5, iv p6, iv P1, iv P2, iv P3, iv (0 : Int32), iv (1 : Int32), iv q, rv b1, rv b5, rv o, iv (1 : Int32), iv (0 : Int32), iv (0 : Int32), iv (0 : Int32), iv (-1 : Int32), iv (0 : Int32), iv (-1 : Int32), iv P1, .unset] [])) (fun t k => XS.istore X23.here hx rfl (hb hby at_325) rfl (l' := #[iv p1, iv p2, iv p3, iv p4, iv p5, iv p6, iv P1, iv P2, iv P3, iv (0 : Int32), iv (1 : Int32), iv q, rv b1, rv b5, rv o, iv (1 : Int32), iv (0 : Int32), iv (0 : Int32), iv (0 : Int32), iv (-1 : Int32), iv (0 : Int32), iv (-1 : Int32), iv P1, .unset]) rfl k) ?_
            refine oI2 X23 hx (hb hby at_327) (pc' := 329) rfl rfl ?_
            refine oI2 X23 hx (hb hby at_329) (pc' := 331) rfl rfl ?_
            refine oN X23 hx (hb hby at_331) (pc' := 334) rfl (tlt (by decide : (0 : Int32) < (1 : Int32))).2.1 ?_
            refine oA2 X23 hx (hb hby at_334) (pc' := 336) rfl rfl rfl ?_
            refine oI2 X23 hx (hb hby at_336) (pc' := 338) rfl rfl ?_
            refine own_pre (T' := T23) (f' := (mkF m 339 #[iv p1, iv p2, iv p3, iv p4, iv p5, iv p6, iv P1, iv P2, iv P3, iv (0 : Int32), iv (1 : Int32), iv q, rv b1, rv b5, rv o, iv (1 : Int32), iv (0 : Int32), iv (0 : Int32), iv (0 : Int32), iv (-1 : Int32), iv (0 : Int32), iv (-1 : Int32), iv P1, .unset] [(.int P1)])) (fun t k => own_ldI X23 hx hZ e23 (V4.ext EX15_h4) (by decide) rfl (g := (mkF m 338 #[iv p1, iv p2, iv p3, iv p4, iv p5, iv p6, iv P1, iv P2, iv P3, iv (0 : Int32), iv (1 : Int32), iv q, rv b1, rv b5, rv o, iv (1 : Int32), iv (0 : Int32), iv (0 : Int32), iv (0 : Int32), iv (-1 : Int32), iv (0 : Int32), iv (-1 : Int32), iv P1, .unset] [(.int (0 : Int32)), (.ref b1)])) rfl rfl (hb hby at_338) t k) ?_
            refine oG X23 hx (hb hby at_339) (pc' := 344) (by decide) (by decide) ?_
            refine own_pre (T' := T23) (f' := (mkF m 346 #[iv p1, iv p2, iv p3, iv p4, iv p5, iv p6, iv P1, iv P2, iv P3, iv (0 : Int32), iv (1 : Int32), iv q, rv b1, rv b5, rv o, iv (1 : Int32), iv (0 : Int32), iv (0 : Int32), iv (0 : Int32), iv (-1 : Int32), iv (0 : Int32), iv (-1 : Int32), iv P1, iv P1] [])) (fun t k => XS.istore X23.here hx rfl (hb hby at_344) rfl (l' := #[iv p1, iv p2, iv p3, iv p4, iv p5, iv p6, iv P1, iv P2, iv P3, iv (0 : Int32), iv (1 : Int32), iv q, rv b1, rv b5, rv o, iv (1 : Int32), iv (0 : Int32), iv (0 : Int32), iv (0 : Int32), iv (-1 : Int32), iv (0 : Int32), iv (-1 : Int32), iv P1, iv P1]) rfl k) ?_
            refine oI2 X23 hx (hb hby at_346) (pc' := 348) rfl rfl ?_
            refine oN0 X23 hx (hb hby at_348) (pc' := 351) rfl ((if0 _ _).trans (feq (by decide : ¬ ((1 : Int32) = (0 : Int32)))).1) ?_
            refine oI2 X23 hx (hb hby at_351) (pc' := 353) rfl rfl ?_
            refine oI2 X23 hx (hb hby at_353) (pc' := 355) rfl rfl ?_
            refine oN X23 hx (hb hby at_355) (pc' := 358) rfl (teq (by decide : (-1 : Int32) = (-1 : Int32))).2 ?_
            refine oI2 X23 hx (hb hby at_358) (pc' := 360) rfl rfl ?_
            refine oI2 X23 hx (hb hby at_360) (pc' := 362) rfl rfl ?_
            refine oN X23 hx (hb hby at_362) (pc' := 365) rfl (teq (rfl : P1 = P1)).2 ?_
            refine oC X23 hx (1 : Int32) (hb hby at_365) (pc' := 366) rfl rfl ?_
            refine oG X23 hx (hb hby at_366) (pc' := 370) (by decide) (by decide) ?_
            refine own_pre (T' := T23) (f' := (mkF m 372 #[iv p1, iv p2, iv p3, iv p4, iv p5, iv p6, iv P1, iv P2, iv P3, iv (0 : Int32), iv (1 : Int32), iv q, rv b1, rv b5, rv o, iv (1 : Int32), iv (0 : Int32), iv (0 : Int32), iv (0 : Int32), iv (-1 : Int32), iv (0 : Int32), iv (-1 : Int32), iv P1, iv P1] [])) (fun t k => XS.istore X23.here hx rfl (hb hby at_370) rfl (l' := #[iv p1, iv p2, iv p3, iv p4, iv p5, iv p6, iv P1, iv P2, iv P3, iv (0 : Int32), iv (1 : Int32), iv q, rv b1, rv b5, rv o, iv (1 : Int32), iv (0 : Int32), iv (0 : Int32), iv (0 : Int32), iv (-1 : Int32), iv (0 : Int32), iv (-1 : Int32), iv P1, iv P1]) rfl k) ?_
            refine oI2 X23 hx (hb hby at_372) (pc' := 374) rfl rfl ?_
            refine oI2 X23 hx (hb hby at_374) (pc' := 376) rfl rfl ?_
            refine oN X23 hx (hb hby at_376) (pc' := 379) rfl (tlt (by decide : (0 : Int32) < (1 : Int32))).2.1 ?_
            refine oI2 X23 hx (hb hby at_379) (pc' := 381) rfl rfl ?_
            refine oN0 X23 hx (hb hby at_381) (pc' := 384) rfl ((if0 _ _).trans (feq (by decide : ¬ ((1 : Int32) = (0 : Int32)))).1) ?_
            refine oA2 X23 hx (hb hby at_384) (pc' := 386) rfl rfl rfl ?_
            obtain ⟨T24, L24, v24, Y24a, ⟨rfl, N24, B24⟩, st24⟩ := own_callV X23 hx hZ e23 (y := (⟨"com/example/orthonorm/orthonorm/sanskrit/Anchors", "take", "()I"⟩ : MethodName)) hown (hw _ (List.mem_of_getElem? (i := 53) rfl)) (hw _ (List.mem_of_getElem? (i := 54) rfl)) (hw _ (List.mem_of_getElem? (i := 56) rfl)) (hw _ (List.mem_of_getElem? (i := 55) rfl)) (hw _ (List.mem_of_getElem? (i := 57) rfl)) (hw _ (List.mem_of_getElem? (i := 4) rfl)) (by decide) 0 [] [] (own_take_0 l Z a0 hw [] w_NO_ANCHORS k_NO_ANCHORS h15 (own_F_ext F0 EX15_h0) h8 Fb o P O kP kO P1 (0 : Int32) (0 : Int32) (0 : Int32) (0 : Int32) (0 : Int32) (0 : Int32) (0 : Int32) p3 (0 : Int32) (0 : Int32) (0 : Int32) (0 : Int32) (0 : Int32) (0 : Int32) (0 : Int32) (1 : Int32) B15) (by decide) (by decide) (by decide) (by decide) (own_Ob_E B15.1) (g := (mkF m 386 #[iv p1, iv p2, iv p3, iv p4, iv p5, iv p6, iv P1, iv P2, iv P3, iv (0 : Int32), iv (1 : Int32), iv q, rv b1, rv b5, rv o, iv (1 : Int32), iv (0 : Int32), iv (0 : Int32), iv (0 : Int32), iv (-1 : Int32), iv (0 : Int32), iv (-1 : Int32), iv P1, iv P1] [(.ref o)])) rfl (by rw [hml]; rfl) (lenOf pd_4 rfl) rfl (by show 2 * 0 + _ ≤ _; exact Nat.le_of_eq rfl) (hb hby at_386)
            have X24 := Y24a.forget (fun y hy => Nat.le_trans hsz (N24 y hy))
            obtain ⟨h24, e24⟩ : ∃ y, T24.heap = y := ⟨_, rfl⟩
            rw [e24] at B24
            have EX24_h0 : Ext h0 h24 := own_extE EX8_h0 (own_Ob_X B24.1)
            have EX24_h4 : Ext h4 h24 := own_extE EX8_h4 (own_Ob_X B24.1)
            have EX24_h8 : Ext h8 h24 := own_Ob_X B24.1
            refine own_pre (T' := T24) (f' := (mkF m 389 #[iv p1, iv p2, iv p3, iv p4, iv p5, iv p6, iv P1, iv P2, iv P3, iv (0 : Int32), iv (1 : Int32), iv q, rv b1, rv b5, rv o, iv (1 : Int32), iv (0 : Int32), iv (0 : Int32), iv (0 : Int32), iv (-1 : Int32), iv (0 : Int32), iv (-1 : Int32), iv P1, iv P1] [(.int p3)])) (fun t k => st24 t k) ?_
            refine oA2 X24 hx (hb hby at_389) (pc' := 391) rfl rfl rfl ?_
            refine oI2 X24 hx (hb hby at_391) (pc' := 393) rfl rfl ?_
            refine own_pre (T' := T24) (f' := (mkF m 394 #[iv p1, iv p2, iv p3, iv p4, iv p5, iv p6, iv P1, iv P2, iv P3, iv (0 : Int32), iv (1 : Int32), iv q, rv b1, rv b5, rv o, iv (1 : Int32), iv (0 : Int32), iv (0 : Int32), iv (0 : Int32), iv (-1 : Int32), iv (0 : Int32), iv (-1 : Int32), iv P1, iv P1] [(.int p3), (.int p3)])) (fun t k => own_ldI X24 hx hZ e24 (V8.ext EX24_h8) (by decide) rfl (g := (mkF m 393 #[iv p1, iv p2, iv p3, iv p4, iv p5, iv p6, iv P1, iv P2, iv P3, iv (0 : Int32), iv (1 : Int32), iv q, rv b1, rv b5, rv o, iv (1 : Int32), iv (0 : Int32), iv (0 : Int32), iv (0 : Int32), iv (-1 : Int32), iv (0 : Int32), iv (-1 : Int32), iv P1, iv P1] [(.int (0 : Int32)), (.ref b5), (.int p3)])) rfl rfl (hb hby at_393) t k) ?_
            refine oN X24 hx (hb hby at_394) (pc' := 397) rfl (teq (rfl : p3 = p3)).2 ?_
            refine oC X24 hx (1 : Int32) (hb hby at_397) (pc' := 398) rfl rfl ?_
            refine oG X24 hx (hb hby at_398) (pc' := 402) (by decide) (by decide) ?_
            refine own_pre (T' := T24) (f' := (mkF m 404 #[iv p1, iv p2, iv p3, iv p4, iv p5, iv p6, iv P1, iv P2, iv P3, iv (0 : Int32), iv (1 : Int32), iv q, rv b1, rv b5, rv o, iv (1 : Int32), iv (0 : Int32), iv (0 : Int32), iv (0 : Int32), iv (-1 : Int32), iv (0 : Int32), iv (-1 : Int32), iv P1, iv P1] [])) (fun t k => XS.istore X24.here hx rfl (hb hby at_402) rfl (l' := #[iv p1, iv p2, iv p3, iv p4, iv p5, iv p6, iv P1, iv P2, iv P3, iv (0 : Int32), iv (1 : Int32), iv q, rv b1, rv b5, rv o, iv (1 : Int32), iv (0 : Int32), iv (0 : Int32), iv (0 : Int32), iv (-1 : Int32), iv (0 : Int32), iv (-1 : Int32), iv P1, iv P1]) rfl k) ?_
            refine oI2 X24 hx (hb hby at_404) (pc' := 406) rfl rfl ?_
            exact own_retZ X24 hx hlk hret (hb hby at_406) rfl (⟨rfl, Fr.nil _⟩) (by decide) (by decide)
      · refine oI2 X10 hx (hb hby at_123) (pc' := 125) rfl rfl ?_
        refine oC X10 hx (1 : Int32) (hb hby at_125) (pc' := 126) rfl rfl ?_
        refine oN X10 hx (hb hby at_126) (pc' := 129) rfl (flt (by decide : ¬ ((1 : Int32) < (1 : Int32)))).1 ?_
        refine oA2 X10 hx (hb hby at_129) (pc' := 131) rfl rfl rfl ?_
        refine oI2 X10 hx (hb hby at_131) (pc' := 133) rfl rfl ?_
        refine oI1 X10 hx (hb hby at_133) (pc' := 134) rfl rfl ?_
        obtain ⟨T25, L25, v25, Y25a, ⟨rfl, N25, P, O, kP, kO, B25⟩, st25⟩ := own_callV X10 hx hZ e10 (y := (⟨"com/example/orthonorm/orthonorm/sanskrit/Anchors", "add", "(II)V"⟩ : MethodName)) hown (hw _ (List.mem_of_getElem? (i := 33) rfl)) (hw _ (List.mem_of_getElem? (i := 34) rfl)) (hw _ (List.mem_of_getElem? (i := 36) rfl)) (hw _ (List.mem_of_getElem? (i := 35) rfl)) (hw _ (List.mem_of_getElem? (i := 37) rfl)) (hw _ (List.mem_of_getElem? (i := 4) rfl)) (by decide) 0 [(.int P1), (.int p3)] [] (own_add1 l Z a0 hw [] w_NO_ANCHORS k_NO_ANCHORS h10 (own_F_ext F0 EX10_h0) h8 Fb o P1 p3 B10) (by decide) (by decide) (by decide) (by decide) (own_Ob_E B10) (g := (mkF m 134 #[iv p1, iv p2, iv p3, iv p4, iv p5, iv p6, iv P1, iv P2, iv P3, iv (1 : Int32), iv (1 : Int32), iv q, rv b1, rv b5, rv o, .unset, .unset, .unset, .unset, .unset, .unset, .unset, .unset, .unset] [(.int p3), (.int P1), (.ref o)])) rfl (by rw [hml]; rfl) (lenOf pd_5 rfl) rfl (by show 2 * 0 + _ ≤ _; exact Nat.le_of_eq rfl) (hb hby at_134)
        have X25 := Y25a.forget (fun y hy => Nat.le_trans hsz (N25 y hy))
        obtain ⟨h25, e25⟩ : ∃ y, T25.heap = y := ⟨_, rfl⟩
        rw [e25] at B25
        have EX25_h0 : Ext h0 h25 := own_extE EX8_h0 (own_Ob_X B25.1)
        have EX25_h4 : Ext h4 h25 := own_extE EX8_h4 (own_Ob_X B25.1)
        have EX25_h8 : Ext h8 h25 := own_Ob_X B25.1
        refine own_pre (T' := T25) (f' := (mkF m 137 #[iv p1, iv p2, iv p3, iv p4, iv p5, iv p6, iv P1, iv P2, iv P3, iv (1 : Int32), iv (1 : Int32), iv q, rv b1, rv b5, rv o, .unset, .unset, .unset, .unset, .unset, .unset, .unset, .unset, .unset] [])) (fun t k => st25 t k) ?_
        refine oI2 X25 hx (hb hby at_137) (pc' := 139) rfl rfl ?_
        refine oC X25 hx (2 : Int32) (hb hby at_139) (pc' := 140) rfl rfl ?_
        refine oY X25 hx (hb hby at_140) (pc' := 151) (tlt (by decide : (1 : Int32) < (2 : Int32))).1 (by decide) (by decide) ?_
        refine oI2 X25 hx (hb hby at_151) (pc' := 153) rfl rfl ?_
        refine oC X25 hx (3 : Int32) (hb hby at_153) (pc' := 154) rfl rfl ?_
        refine oY X25 hx (hb hby at_154) (pc' := 166) (tlt (by decide : (1 : Int32) < (3 : Int32))).1 (by decide) (by decide) ?_
        refine oC X25 hx (1 : Int32) (hb hby at_166) (pc' := 167) rfl rfl ?_
        refine own_pre (T' := T25) (f' := (mkF m 169 #[iv p1, iv p2, iv p3, iv p4, iv p5, iv p6, iv P1, iv P2, iv P3, iv (1 : Int32), iv (1 : Int32), iv q, rv b1, rv b5, rv o, iv (1 : Int32), .unset, .unset, .unset, .unset, .unset, .unset, .unset, .unset] [])) (fun t k => XS.istore X25.here hx rfl (hb hby at_167) rfl (l' := #[iv p1, iv p2, iv p3, iv p4, iv p5, iv p6, iv P1, iv P2, iv P3, iv (1 : Int32), iv (1 : Int32), iv q, rv b1, rv b5, rv o, iv (1 : Int32), .unset, .unset, .unset, .unset, .unset, .unset, .unset, .unset]) rfl k) ?_
        refine oC X25 hx (0 : Int32) (hb hby at_169) (pc' := 170) rfl rfl ?_
        refine own_pre (T' := T25) (f' := (mkF m 172 #[iv p1, iv p2, iv p3, iv p4, iv p5, iv p6, iv P1, iv P2, iv P3, iv (1 : Int32), iv (1 : Int32), iv q, rv b1, rv b5, rv o, iv (1 : Int32), iv (0 : Int32), .unset, .unset, .unset, .unset, .unset, .unset, .unset] [])) (fun t k => XS.istore X25.here hx rfl (hb hby at_170) rfl (l' := #[iv p1, iv p2, iv p3, iv p4, iv p5, iv p6, iv P1, iv P2, iv P3, iv (1 : Int32), iv (1 : Int32), iv q, rv b1, rv b5, rv o, iv (1 : Int32), iv (0 : Int32), .unset, .unset, .unset, .unset, .unset, .unset, .unset]) rfl k) ?_
        refine oI2 X25 hx (hb hby at_172) (pc' := 174) rfl rfl ?_
        refine oN0 X25 hx (hb hby at_174) (pc' := 177) rfl ((if0 _ _).trans (feq (by decide : ¬ ((1 : Int32) = (0 : Int32)))).1) ?_
        refine oI2 X25 hx (hb hby at_177) (pc' := 179) rfl rfl ?_
        refine oC X25 hx (1 : Int32) (hb hby at_179) (pc' := 180) rfl rfl ?_
        refine oN X25 hx (hb hby at_180) (pc' := 183) rfl (flt (by decide : ¬ ((1 : Int32) < (1 : Int32)))).1 ?_
        refine oA2 X25 hx (hb hby at_183) (pc' := 185) rfl rfl rfl ?_
        obtain ⟨T26, L26, v26, Y26a, ⟨rfl, N26, B26⟩, st26⟩ := own_callV X25 hx hZ e25 (y := (⟨"com/example/orthonorm/orthonorm/sanskrit/Anchors", "take", "()I"⟩ : MethodName)) hown (hw _ (List.mem_of_getElem? (i := 53) rfl)) (hw _ (List.mem_of_getElem? (i := 54) rfl)) (hw _ (List.mem_of_getElem? (i := 56) rfl)) (hw _ (List.mem_of_getElem? (i := 55) rfl)) (hw _ (List.mem_of_getElem? (i := 57) rfl)) (hw _ (List.mem_of_getElem? (i := 4) rfl)) (by decide) 0 [] [] (own_take_0 l Z a0 hw [] w_NO_ANCHORS k_NO_ANCHORS h25 (own_F_ext F0 EX25_h0) h8 Fb o P O kP kO P1 (0 : Int32) (0 : Int32) (0 : Int32) (0 : Int32) (0 : Int32) (0 : Int32) (0 : Int32) p3 (0 : Int32) (0 : Int32) (0 : Int32) (0 : Int32) (0 : Int32) (0 : Int32) (0 : Int32) (1 : Int32) B25) (by decide) (by decide) (by decide) (by decide) (own_Ob_E B25.1) (g := (mkF m 185 #[iv p1, iv p2, iv p3, iv p4, iv p5, iv p6, iv P1, iv P2, iv P3, iv (1 : Int32), iv (1 : Int32), iv q, rv b1, rv b5, rv o, iv (1 : Int32), iv (0 : Int32), .unset, .unset, .unset, .unset, .unset, .unset, .unset] [(.ref o)])) rfl (by rw [hml]; rfl) (lenOf pd_4 rfl) rfl (by show 2 * 0 + _ ≤ _; exact Nat.le_of_eq rfl) (hb hby at_185)
        have X26 := Y26a.forget (fun y hy => Nat.le_trans hsz (N26 y hy))
        obtain ⟨h26, e26⟩ : ∃ y, T26.heap = y := ⟨_, rfl⟩
        rw [e26] at B26
        have EX26_h0 : Ext h0 h26 := own_extE EX8_h0 (own_Ob_X B26.1)
        have EX26_h4 : Ext h4 h26 := own_extE EX8_h4 (own_Ob_X B26.1)
        have EX26_h8 : Ext h8 h26 := own_Ob_X B26.1
        refine own_pre (T' := T26) (f' := (mkF m 188 #[iv p1, iv p2, iv p3, iv p4, iv p5, iv p6, iv P1, iv P2, iv P3, iv (1 : Int32), iv (1 : Int32), iv q, rv b1, rv b5, rv o, iv (1 : Int32), iv (0 : Int32), .unset, .unset, .unset, .unset, .unset, .unset, .unset] [(.int p3)])) (fun t k => st26 t k) ?_
        refine oI1 X26 hx (hb hby at_188) (pc' := 189) rfl rfl ?_
        refine oN X26 hx (hb hby at_189) (pc' := 192) rfl (teq (rfl : p3 = p3)).2 ?_
        refine oC X26 hx (1 : Int32) (hb hby at_192) (pc' := 193) rfl rfl ?_
        refine oG X26 hx (hb hby at_193) (pc' := 197) (by decide) (by decide) ?_
        refine own_pre (T' := T26) (f' := (mkF m 199 #[iv p1, iv p2, iv p3, iv p4, iv p5, iv p6, iv P1, iv P2, iv P3, iv (1 : Int32), iv (1 : Int32), iv q, rv b1, rv b5, rv o, iv (1 : Int32), iv (0 : Int32), .unset, .unset, .unset, .unset, .unset, .unset, .unset] [])) (fun t k => XS.istore X26.here hx rfl (hb hby at_197) rfl (l' := #[iv p1, iv p2, iv p3, iv p4, iv p5, iv p6, iv P1, iv P2, iv P3, iv (1 : Int32), iv (1 : Int32), iv q, rv b1, rv b5, rv o, iv (1 : Int32), iv (0 : Int32), .unset, .unset, .unset, .unset, .unset, .unset, .unset]) rfl k) ?_
        refine oC X26 hx (1 : Int32) (hb hby at_199) (pc' := 200) rfl rfl ?_
        refine own_pre (T' := T26) (f' := (mkF m 202 #[iv p1, iv p2, iv p3, iv p4, iv p5, iv p6, iv P1, iv P2, iv P3, iv (1 : Int32), iv (1 : Int32), iv q, rv b1, rv b5, rv o, iv (1 : Int32), iv (1 : Int32), .unset, .unset, .unset, .unset, .unset, .unset, .unset] [])) (fun t k => XS.istore X26.here hx rfl (hb hby at_200) rfl (l' := #[iv p1, iv p2, iv p3, iv p4, iv p5, iv p6, iv P1, iv P2, iv P3, iv (1 : Int32), iv (1 : Int32), iv q, rv b1, rv b5, rv o, iv (1 : Int32), iv (1 : Int32), .unset, .unset, .unset, .unset, .unset, .unset, .unset]) rfl k) ?_
        refine oC X26 hx (0 : Int32) (hb hby at_202) (pc' := 203) rfl rfl ?_
        refine own_pre (T' := T26) (f' := (mkF m 205 #[iv p1, iv p2, iv p3, iv p4, iv p5, iv p6, iv P1, iv P2, iv P3, iv (1 : Int32), iv (1 : Int32), iv q, rv b1, rv b5, rv o, iv (1 : Int32), iv (1 : Int32), iv (0 : Int32), .unset, .unset, .unset, .unset, .unset, .unset] [])) (fun t k => XS.istore X26.here hx rfl (hb hby at_203) rfl (l' := #[iv p1, iv p2, iv p3, iv p4, iv p5, iv p6, iv P1, iv P2, iv P3, iv (1 : Int32), iv (1 : Int32), iv q, rv b1, rv b5, rv o, iv (1 : Int32), iv (1 : Int32), iv (0 : Int32), .unset, .unset, .unset, .unset, .unset, .unset]) rfl k) ?_
        refine oI2 X26 hx (hb hby at_205) (pc' := 207) rfl rfl ?_
        refine oY0 X26 hx (hb hby at_207) (pc' := 226) ((if0 _ _).trans (tlt (by decide : (0 : Int32) < (1 : Int32))).2.2.1) (by decide) (by decide) ?_
        refine oI2 X26 hx (hb hby at_226) (pc' := 228) rfl rfl ?_
        refine oC X26 hx (1 : Int32) (hb hby at_228) (pc' := 229) rfl rfl ?_
        refine oN X26 hx (hb hby at_229) (pc' := 232) rfl (flt (by decide : ¬ ((1 : Int32) < (1 : Int32)))).2.2.1 ?_
        refine oC X26 hx (1 : Int32) (hb hby at_232) (pc' := 233) rfl rfl ?_
        refine oI2 X26 hx (hb hby at_233) (pc' := 235) rfl rfl ?_
        refine oY X26 hx (hb hby at_235) (pc' := 248) (flt (by decide : ¬ ((1 : Int32) < (1 : Int32)))).2.1 (by decide) (by decide) ?_
        refine oC X26 hx (2 : Int32) (hb hby at_248) (pc' := 249) rfl rfl ?_
        refine oI2 X26 hx (hb hby at_249) (pc' := 251) rfl rfl ?_
        refine oY X26 hx (hb hby at_251) (pc' := 264) (flt (by decide : ¬ ((2 : Int32) < (1 : Int32)))).2.1 (by decide) (by decide) ?_
        refine oI2 X26 hx (hb hby at_264) (pc' := 266) rfl rfl ?_
        refine oI2 X26 hx (hb hby at_266) (pc' := 268) rfl rfl ?_
        refine own_pre (T' := T26) (f' := (mkF m 269 #[iv p1, iv p2, iv p3, iv p4, iv p5, iv p6, iv P1, iv P2, iv P3, iv (1 : Int32), iv (1 : Int32), iv q, rv b1, rv b5, rv o, iv (1 : Int32), iv (1 : Int32), iv (0 : Int32), .unset, .unset, .unset, .unset, .unset, .unset] [(.int ((1 : Int32) + (0 : Int32)))])) (fun t k => XS.iadd X26.here hx rfl (hb hby at_268) rfl k) ?_
        rw [show ((1 : Int32) + (0 : Int32)) = (1 : Int32) from by decide]
        refine own_pre (T' := T26) (f' := (mkF m 271 #[iv p1, iv p2, iv p3, iv p4, iv p5, iv p6, iv P1, iv P2, iv P3, iv (1 : Int32), iv (1 : Int32), iv q, rv b1, rv b5, rv o, iv (1 : Int32), iv (1 : Int32), iv (0 : Int32), iv (1 : Int32), .unset, .unset, .unset, .unset, .unset] [])) (fun t k => XS.istore X26.here hx rfl (hb hby at_269) rfl (l' := #[iv p1, iv p2, iv p3, iv p4, iv p5, iv p6, iv P1, iv P2, iv P3, iv (1 : Int32), iv (1 : Int32), iv q, rv b1, rv b5, rv o, iv (1 : Int32), iv (1 : Int32), iv (0 : Int32), iv (1 : Int32), .unset, .unset, .unset, .unset, .unset]) rfl k) ?_
        refine oI2 X26 hx (hb hby at_271) (pc' := 273) rfl rfl ?_
        refine oI2 X26 hx (hb hby at_273) (pc' := 275) rfl rfl ?_
        refine oY X26 hx (hb hby at_275) (pc' := 304) (flt (by decide : ¬ ((1 : Int32) < (1 : Int32)))).2.1 (by decide) (by decide) ?_
        refine oC X26 hx (-1 : Int32) (hb hby at_304) (pc' := 305) rfl rfl ?_
        refine own_pre (T' := T26) (f' := (mkF m 307 #[iv p1, iv p2, iv p3, iv p4, iv p5, iv p6, iv P1, iv P2, iv P3, iv (1 : Int32), iv (1 : Int32), iv q, rv b1, rv b5, rv o, iv (1 : Int32), iv (1 : Int32), iv (0 : Int32), iv (1 : Int32), iv (-1 : Int32), .unset, .unset, .unset, .unset] [])) (fun t k => XS.istore X26.here hx rfl (hb hby at_305) rfl (l' := #[iv p1, iv p2, iv p3, iv p4, iv p5, iv p6, iv P1, iv P2, iv P3, iv (1 : Int32), iv (1 : Int32), iv q, rv b1, rv b5, rv o, iv (1 : Int32), iv (1 : Int32), iv (0 : Int32), iv (1 : Int32), iv (-1 : Int32), .unset, .unset, .unset, .unset]) rfl k) ?_
        refine oI2 X26 hx (hb hby at_307) (pc' := 309) rfl rfl ?_
        refine own_pre (T' := T26) (f' := (mkF m 311 #[iv p1, iv p2, iv p3, iv p4, iv p5, iv p6, iv P1, iv P2, iv P3, iv (1 : Int32), iv (1 : Int32), iv q, rv b1, rv b5, rv o, iv (1 : Int32), iv (1 : Int32), iv (0 : Int32), iv (1 : Int32), iv (-1 : Int32), iv (1 : Int32), .unset, .unset, .unset] [])) (fun t k => XS.istore X26.here hx rfl (hb hby at_309) rfl (l' := #[iv p1, iv p2, iv p3, iv p4, iv p5, iv p6, iv P1, iv P2, iv P3, iv (1 : Int32), iv (1 : Int32), iv q, rv b1, rv b5, rv o, iv (1 : Int32), iv (1 : Int32), iv (0 : Int32), iv (1 : Int32), iv (-1 : Int32), iv (1 : Int32), .unset, .unset, .unset]) rfl k) ?_
        refine oA2 X26 hx (hb hby at_311) (pc' := 313) rfl rfl rfl ?_
        refine oI2 X26 hx (hb hby at_313) (pc' := 315) rfl rfl ?_
        obtain ⟨T27, X27, e27, st27⟩ := own_pure (f := 0) (n := 0) (v := (some (.int (-1 : Int32)))) (own_callV X26 hx hZ e26 (y := (⟨"com/example/orthonorm/orthonorm/sanskrit/Anchors", "takeAt", "(I)I"⟩ : MethodName)) hown (hw _ (List.mem_of_getElem? (i := 17) rfl)) (hw _ (List.mem_of_getElem? (i := 18) rfl)) (hw _ (List.mem_of_getElem? (i := 20) rfl)) (hw _ (List.mem_of_getElem? (i := 19) rfl)) (hw _ (List.mem_of_getElem? (i := 21) rfl)) (hw _ (List.mem_of_getElem? (i := 4) rfl)) (by decide) 0 [(.int q)] [] (own_at_1_1_1_0 l Z a0 hw [] w_NO_ANCHORS k_NO_ANCHORS h26 (own_F_ext F0 EX26_h0) h8 Fb o P O kP kO P1 (0 : Int32) (0 : Int32) (0 : Int32) (0 : Int32) (0 : Int32) (0 : Int32) (0 : Int32) p3 (0 : Int32) (0 : Int32) (0 : Int32) (0 : Int32) (0 : Int32) (0 : Int32) (0 : Int32) B26 q ) (by decide) (by decide) (by decide) (by decide) (own_Ob_E B26.1) (g := (mkF m 315 #[iv p1, iv p2, iv p3, iv p4, iv p5, iv p6, iv P1, iv P2, iv P3, iv (1 : Int32), iv (1 : Int32), iv q, rv b1, rv b5, rv o, iv (1 : Int32), iv (1 : Int32), iv (0 : Int32), iv (1 : Int32), iv (-1 : Int32), iv (1 : Int32), .unset, .unset, .unset] [(.int q), (.ref o)])) rfl (by rw [hml]; rfl) (lenOf pd_3 rfl) rfl (by show 2 * 0 + _ ≤ _; exact Nat.le_of_eq rfl) (hb hby at_315))
        refine own_pre (T' := T27) (f' := (mkF m 318 #[iv p1, iv p2, iv p3, iv p4, iv p5, iv p6, iv P1, iv P2, iv P3, iv (1 : Int32), iv (1 : Int32), iv q, rv b1, rv b5, rv o, iv (1 : Int32), iv (1 : Int32), iv (0 : Int32), iv (1 : Int32), iv (-1 : Int32), iv (1 : Int32), .unset, .unset, .unset] [(.int (-1 : Int32))])) (fun t k => st27 t k) ?_
        refine own_pre (T' := T27) (f' := (mkF m 320 #[iv p1, iv p2, iv p3, iv p4, iv p5, iv p6, iv P1, iv P2, iv P3, iv (1 : Int32), iv (1 : Int32), iv q, rv b1, rv b5, rv o, iv (1 : Int32), iv (1 : Int32), iv (0 : Int32), iv (1 : Int32), iv (-1 : Int32), iv (1 : Int32), iv (-1 : Int32), .unset, .unset] [])) (fun t k => XS.istore X27.here hx rfl (hb hby at_318) rfl (l' := #[iv p1, iv p2, iv p3, iv p4, iv p5, iv p6, iv P1, iv P2, iv P3, iv (1 : Int32), iv (1 : Int32), iv q, rv b1, rv b5, rv o, iv (1 : Int32), iv (1 : Int32), iv (0 : Int32), iv (1 : Int32), iv (-1 : Int32), iv (1 : Int32), iv (-1 : Int32), .unset, .unset]) rfl k) ?_
        refine oA2 X27 hx (hb hby at_320) (pc' := 322) rfl rfl rfl ?_
        obtain ⟨T28, X28, e28, st28⟩ := own_pure (f := 0) (n := 0) (v := (some (.int (2147483647 : Int32)))) (own_callV X27 hx hZ e27 (y := (⟨"com/example/orthonorm/orthonorm/sanskrit/Anchors", "nextPlace", "()I"⟩ : MethodName)) hown (hw _ (List.mem_of_getElem? (i := 26) rfl)) (hw _ (List.mem_of_getElem? (i := 27) rfl)) (hw _ (List.mem_of_getElem? (i := 29) rfl)) (hw _ (List.mem_of_getElem? (i := 28) rfl)) (hw _ (List.mem_of_getElem? (i := 30) rfl)) (hw _ (List.mem_of_getElem? (i := 4) rfl)) (by decide) 0 [] [] (own_next_1_1 l Z a0 hw [] w_NO_ANCHORS k_NO_ANCHORS h26 (own_F_ext F0 EX26_h0) h8 Fb o P O kP kO P1 (0 : Int32) (0 : Int32) (0 : Int32) (0 : Int32) (0 : Int32) (0 : Int32) (0 : Int32) p3 (0 : Int32) (0 : Int32) (0 : Int32) (0 : Int32) (0 : Int32) (0 : Int32) (0 : Int32) B26) (by decide) (by decide) (by decide) (by decide) (own_Ob_E B26.1) (g := (mkF m 322 #[iv p1, iv p2, iv p3, iv p4, iv p5, iv p6, iv P1, iv P2, iv P3, iv (1 : Int32), iv (1 : Int32), iv q, rv b1, rv b5, rv o, iv (1 : Int32), iv (1 : Int32), iv (0 : Int32), iv (1 : Int32), iv (-1 : Int32), iv (1 : Int32), iv (-1 : Int32), .unset, .unset] [(.ref o)])) rfl (by rw [hml]; rfl) (lenOf pd_4 rfl) rfl (by show 2 * 0 + _ ≤ _; exact Nat.le_of_eq rfl) (hb hby at_322))
        refine own_pre (T' := T28) (f' := (mkF m 325 #[iv p1, iv p2, iv p3, iv p4, iv p5, iv p6, iv P1, iv P2, iv P3, iv (1 : Int32), iv (1 : Int32), iv q, rv b1, rv b5, rv o, iv (1 : Int32), iv (1 : Int32), iv (0 : Int32), iv (1 : Int32), iv (-1 : Int32), iv (1 : Int32), iv (-1 : Int32), .unset, .unset] [(.int (2147483647 : Int32))])) (fun t k => st28 t k) ?_
        refine own_pre (T' := T28) (f' := (mkF m 327 #[iv p1, iv p2, iv p3, iv p4, iv p5, iv p6, iv P1, iv P2, iv P3, iv (1 : Int32), iv (1 : Int32), iv q, rv b1, rv b5, rv o, iv (1 : Int32), iv (1 : Int32), iv (0 : Int32), iv (1 : Int32), iv (-1 : Int32), iv (1 : Int32), iv (-1 : Int32), iv (2147483647 : Int32), .unset] [])) (fun t k => XS.istore X28.here hx rfl (hb hby at_325) rfl (l' := #[iv p1, iv p2, iv p3, iv p4, iv p5, iv p6, iv P1, iv P2, iv P3, iv (1 : Int32), iv (1 : Int32), iv q, rv b1, rv b5, rv o, iv (1 : Int32), iv (1 : Int32), iv (0 : Int32), iv (1 : Int32), iv (-1 : Int32), iv (1 : Int32), iv (-1 : Int32), iv (2147483647 : Int32), .unset]) rfl k) ?_
        refine oI2 X28 hx (hb hby at_327) (pc' := 329) rfl rfl ?_
        refine oI2 X28 hx (hb hby at_329) (pc' := 331) rfl rfl ?_
        refine oY X28 hx (hb hby at_331) (pc' := 342) (flt (by decide : ¬ ((1 : Int32) < (1 : Int32)))).2.1 (by decide) (by decide) ?_
        refine own_pre (T' := T28) (f' := (mkF m 344 #[iv p1, iv p2, iv p3, iv p4, iv p5, iv p6, iv P1, iv P2, iv P3, iv (1 : Int32), iv (1 : Int32), iv q, rv b1, rv b5, rv o, iv (1 : Int32), iv (1 : Int32), iv (0 : Int32), iv (1 : Int32), iv (-1 : Int32), iv (1 : Int32), iv (-1 : Int32), iv (2147483647 : Int32), .unset] [(.int (2147483647 : Int32))])) (fun t k => X28.ldcInt hx hown (mvT hZ (hw _ (List.mem_of_getElem? (i := 32) rfl))) (g := (mkF m 342 #[iv p1, iv p2, iv p3, iv p4, iv p5, iv p6, iv P1, iv P2, iv P3, iv (1 : Int32), iv (1 : Int32), iv q, rv b1, rv b5, rv o, iv (1 : Int32), iv (1 : Int32), iv (0 : Int32), iv (1 : Int32), iv (-1 : Int32), iv (1 : Int32), iv (-1 : Int32), iv (2147483647 : Int32), .unset] [])) rfl (hb hby at_342) t k) ?_
        refine own_pre (T' := T28) (f' := (mkF m 346 #[iv p1, iv p2, iv p3, iv p4, iv p5, iv p6, iv P1, iv P2, iv P3, iv (1 : Int32), iv (1 : Int32), iv q, rv b1, rv b5, rv o, iv (1 : Int32), iv (1 : Int32), iv (0 : Int32), iv (1 : Int32), iv (-1 : Int32), iv (1 : Int32), iv (-1 : Int32), iv (2147483647 : Int32), iv (2147483647 : Int32)] [])) (fun t k => XS.istore X28.here hx rfl (hb hby at_344) rfl (l' := #[iv p1, iv p2, iv p3, iv p4, iv p5, iv p6, iv P1, iv P2, iv P3, iv (1 : Int32), iv (1 : Int32), iv q, rv b1, rv b5, rv o, iv (1 : Int32), iv (1 : Int32), iv (0 : Int32), iv (1 : Int32), iv (-1 : Int32), iv (1 : Int32), iv (-1 : Int32), iv (2147483647 : Int32), iv (2147483647 : Int32)]) rfl k) ?_
        refine oI2 X28 hx (hb hby at_346) (pc' := 348) rfl rfl ?_
        refine oN0 X28 hx (hb hby at_348) (pc' := 351) rfl ((if0 _ _).trans (feq (by decide : ¬ ((1 : Int32) = (0 : Int32)))).1) ?_
        refine oI2 X28 hx (hb hby at_351) (pc' := 353) rfl rfl ?_
        refine oI2 X28 hx (hb hby at_353) (pc' := 355) rfl rfl ?_
        refine oN X28 hx (hb hby at_355) (pc' := 358) rfl (teq (by decide : (-1 : Int32) = (-1 : Int32))).2 ?_
        refine oI2 X28 hx (hb hby at_358) (pc' := 360) rfl rfl ?_
        refine oI2 X28 hx (hb hby at_360) (pc' := 362) rfl rfl ?_
        refine oN X28 hx (hb hby at_362) (pc' := 365) rfl (teq (by decide : (2147483647 : Int32) = (2147483647 : Int32))).2 ?_
        refine oC X28 hx (1 : Int32) (hb hby at_365) (pc' := 366) rfl rfl ?_
        refine oG X28 hx (hb hby at_366) (pc' := 370) (by decide) (by decide) ?_
        refine own_pre (T' := T28) (f' := (mkF m 372 #[iv p1, iv p2, iv p3, iv p4, iv p5, iv p6, iv P1, iv P2, iv P3, iv (1 : Int32), iv (1 : Int32), iv q, rv b1, rv b5, rv o, iv (1 : Int32), iv (1 : Int32), iv (0 : Int32), iv (1 : Int32), iv (-1 : Int32), iv (1 : Int32), iv (-1 : Int32), iv (2147483647 : Int32), iv (2147483647 : Int32)] [])) (fun t k => XS.istore X28.here hx rfl (hb hby at_370) rfl (l' := #[iv p1, iv p2, iv p3, iv p4, iv p5, iv p6, iv P1, iv P2, iv P3, iv (1 : Int32), iv (1 : Int32), iv q, rv b1, rv b5, rv o, iv (1 : Int32), iv (1 : Int32), iv (0 : Int32), iv (1 : Int32), iv (-1 : Int32), iv (1 : Int32), iv (-1 : Int32), iv (2147483647 : Int32), iv (2147483647 : Int32)]) rfl k) ?_
        refine oI2 X28 hx (hb hby at_372) (pc' := 374) rfl rfl ?_
        refine oI2 X28 hx (hb hby at_374) (pc' := 376) rfl rfl ?_
        refine oY X28 hx (hb hby at_376) (pc' := 404) (flt (by decide : ¬ ((1 : Int32) < (1 : Int32)))).2.1 (by decide) (by decide) ?_
        refine oI2 X28 hx (hb hby at_404) (pc' := 406) rfl rfl ?_
        exact own_retZ X28 hx hlk hret (hb hby at_406) rfl (⟨rfl, Fr.nil _⟩) (by decide) (by decide)
    · rcases hpr with rfl | rfl
      · refine oI2 X10 hx (hb hby at_123) (pc' := 125) rfl rfl ?_
        refine oC X10 hx (1 : Int32) (hb hby at_125) (pc' := 126) rfl rfl ?_
        refine oN X10 hx (hb hby at_126) (pc' := 129) rfl (flt (by decide : ¬ ((2 : Int32) < (1 : Int32)))).1 ?_
        refine oA2 X10 hx (hb hby at_129) (pc' := 131) rfl rfl rfl ?_
        refine oI2 X10 hx (hb hby at_131) (pc' := 133) rfl rfl ?_
        refine oI1 X10 hx (hb hby at_133) (pc' := 134) rfl rfl ?_
        obtain ⟨T29, L29, v29, Y29a, ⟨rfl, N29, P, O, kP, kO, B29⟩, st29⟩ := own_callV X10 hx hZ e10 (y := (⟨"com/example/orthonorm/orthonorm/sanskrit/Anchors", "add", "(II)V"⟩ : MethodName)) hown (hw _ (List.mem_of_getElem? (i := 33) rfl)) (hw _ (List.mem_of_getElem? (i := 34) rfl)) (hw _ (List.mem_of_getElem? (i := 36) rfl)) (hw _ (List.mem_of_getElem? (i := 35) rfl)) (hw _ (List.mem_of_getElem? (i := 37) rfl)) (hw _ (List.mem_of_getElem? (i := 4) rfl)) (by decide) 0 [(.int P1), (.int p3)] [] (own_add1 l Z a0 hw [] w_NO_ANCHORS k_NO_ANCHORS h10 (own_F_ext F0 EX10_h0) h8 Fb o P1 p3 B10) (by decide) (by decide) (by decide) (by decide) (own_Ob_E B10) (g := (mkF m 134 #[iv p1, iv p2, iv p3, iv p4, iv p5, iv p6, iv P1, iv P2, iv P3, iv (0 : Int32), iv (2 : Int32), iv q, rv b1, rv b5, rv o, .unset, .unset, .unset, .unset, .unset, .unset, .unset, .unset, .unset] [(.int p3), (.int P1), (.ref o)])) rfl (by rw [hml]; rfl) (lenOf pd_5 rfl) rfl (by show 2 * 0 + _ ≤ _; exact Nat.le_of_eq rfl) (hb hby at_134)
        have X29 := Y29a.forget (fun y hy => Nat.le_trans hsz (N29 y hy))
        obtain ⟨h29, e29⟩ : ∃ y, T29.heap = y := ⟨_, rfl⟩
        rw [e29] at B29
        have EX29_h0 : Ext h0 h29 := own_extE EX8_h0 (own_Ob_X B29.1)
        have EX29_h4 : Ext h4 h29 := own_extE EX8_h4 (own_Ob_X B29.1)
        have EX29_h8 : Ext h8 h29 := own_Ob_X B29.1
        refine own_pre (T' := T29) (f' := (mkF m 137 #[iv p1, iv p2, iv p3, iv p4, iv p5, iv p6, iv P1, iv P2, iv P3, iv (0 : Int32), iv (2 : Int32), iv q, rv b1, rv b5, rv o, .unset, .unset, .unset, .unset, .unset, .unset, .unset, .unset, .unset] [])) (fun t k => st29 t k) ?_
        refine oI2 X29 hx (hb hby at_137) (pc' := 139) rfl rfl ?_
        refine oC X29 hx (2 : Int32) (hb hby at_139) (pc' := 140) rfl rfl ?_
        refine oN X29 hx (hb hby at_140) (pc' := 143) rfl (flt (by decide : ¬ ((2 : Int32) < (2 : Int32)))).1 ?_
        refine oA2 X29 hx (hb hby at_143) (pc' := 145) rfl rfl rfl ?_
        refine oI2 X29 hx (hb hby at_145) (pc' := 147) rfl rfl ?_
        refine oI1 X29 hx (hb hby at_147) (pc' := 148) rfl rfl ?_
        obtain ⟨T30, L30, v30, Y30a, ⟨rfl, N30, B30⟩, st30⟩ := own_callV X29 hx hZ e29 (y := (⟨"com/example/orthonorm/orthonorm/sanskrit/Anchors", "add", "(II)V"⟩ : MethodName)) hown (hw _ (List.mem_of_getElem? (i := 33) rfl)) (hw _ (List.mem_of_getElem? (i := 34) rfl)) (hw _ (List.mem_of_getElem? (i := 36) rfl)) (hw _ (List.mem_of_getElem? (i := 35) rfl)) (hw _ (List.mem_of_getElem? (i := 37) rfl)) (hw _ (List.mem_of_getElem? (i := 4) rfl)) (by decide) 0 [(.int P2), (.int p4)] [] (own_add_1 l Z a0 hw [] w_NO_ANCHORS k_NO_ANCHORS h29 (own_F_ext F0 EX29_h0) h8 Fb o P O kP kO P1 (0 : Int32) (0 : Int32) (0 : Int32) (0 : Int32) (0 : Int32) (0 : Int32) (0 : Int32) p3 (0 : Int32) (0 : Int32) (0 : Int32) (0 : Int32) (0 : Int32) (0 : Int32) (0 : Int32) B29 P2 p4 (own_lne hP12)) (by decide) (by decide) (by decide) (by decide) (own_Ob_E B29.1) (g := (mkF m 148 #[iv p1, iv p2, iv p3, iv p4, iv p5, iv p6, iv P1, iv P2, iv P3, iv (0 : Int32), iv (2 : Int32), iv q, rv b1, rv b5, rv o, .unset, .unset, .unset, .unset, .unset, .unset, .unset, .unset, .unset] [(.int p4), (.int P2), (.ref o)])) rfl (by rw [hml]; rfl) (lenOf pd_5 rfl) rfl (by show 2 * 0 + _ ≤ _; exact Nat.le_of_eq rfl) (hb hby at_148)
        have X30 := Y30a.forget (fun y hy => Nat.le_trans hsz (N30 y hy))
        obtain ⟨h30, e30⟩ : ∃ y, T30.heap = y := ⟨_, rfl⟩
        rw [e30] at B30
        have EX30_h0 : Ext h0 h30 := own_extE EX8_h0 (own_Ob_X B30.1)
        have EX30_h4 : Ext h4 h30 := own_extE EX8_h4 (own_Ob_X B30.1)
        have EX30_h8 : Ext h8 h30 := own_Ob_X B30.1
        refine own_pre (T' := T30) (f' := (mkF m 151 #[iv p1, iv p2, iv p3, iv p4, iv p5, iv p6, iv P1, iv P2, iv P3, iv (0 : Int32), iv (2 : Int32), iv q, rv b1, rv b5, rv o, .unset, .unset, .unset, .unset, .unset, .unset, .unset, .unset, .unset] [])) (fun t k => st30 t k) ?_
        refine oI2 X30 hx (hb hby at_151) (pc' := 153) rfl rfl ?_
        refine oC X30 hx (3 : Int32) (hb hby at_153) (pc' := 154) rfl rfl ?_
        refine oY X30 hx (hb hby at_154) (pc' := 166) (tlt (by decide : (2 : Int32) < (3 : Int32))).1 (by decide) (by decide) ?_
        refine oC X30 hx (1 : Int32) (hb hby at_166) (pc' := 167) rfl rfl ?_
        refine own_pre (T' := T30) (f' := (mkF m 169 #[iv p1, iv p2, iv p3, iv p4, iv p5, iv p6, iv P1, iv P2, iv P3, iv (0 : Int32), iv (2 : Int32), iv q, rv b1, rv b5, rv o, iv (1 : Int32), .unset, .unset, .unset, .unset, .unset, .unset, .unset, .unset] [])) (fun t k => XS.istore X30.here hx rfl (hb hby at_167) rfl (l' := #[iv p1, iv p2, iv p3, iv p4, iv p5, iv p6, iv P1, iv P2, iv P3, iv (0 : Int32), iv (2 : Int32), iv q, rv b1, rv b5, rv o, iv (1 : Int32), .unset, .unset, .unset, .unset, .unset, .unset, .unset, .unset]) rfl k) ?_
        refine oC X30 hx (0 : Int32) (hb hby at_169) (pc' := 170) rfl rfl ?_
        refine own_pre (T' := T30) (f' := (mkF m 172 #[iv p1, iv p2, iv p3, iv p4, iv p5, iv p6, iv P1, iv P2, iv P3, iv (0 : Int32), iv (2 : Int32), iv q, rv b1, rv b5, rv o, iv (1 : Int32), iv (0 : Int32), .unset, .unset, .unset, .unset, .unset, .unset, .unset] [])) (fun t k => XS.istore X30.here hx rfl (hb hby at_170) rfl (l' := #[iv p1, iv p2, iv p3, iv p4, iv p5, iv p6, iv P1, iv P2, iv P3, iv (0 : Int32), iv (2 : Int32), iv q, rv b1, rv b5, rv o, iv (1 : Int32), iv (0 : Int32), .unset, .unset, .unset, .unset, .unset, .unset, .unset]) rfl k) ?_
        refine oI2 X30 hx (hb hby at_172) (pc' := 174) rfl rfl ?_
        refine oY0 X30 hx (hb hby at_174) (pc' := 202) ((if0 _ _).trans (teq (by decide : (0 : Int32) = (0 : Int32))).1) (by decide) (by decide) ?_
        refine oC X30 hx (0 : Int32) (hb hby at_202) (pc' := 203) rfl rfl ?_
        refine own_pre (T' := T30) (f' := (mkF m 205 #[iv p1, iv p2, iv p3, iv p4, iv p5, iv p6, iv P1, iv P2, iv P3, iv (0 : Int32), iv (2 : Int32), iv q, rv b1, rv b5, rv o, iv (1 : Int32), iv (0 : Int32), iv (0 : Int32), .unset, .unset, .unset, .unset, .unset, .unset] [])) (fun t k => XS.istore X30.here hx rfl (hb hby at_203) rfl (l' := #[iv p1, iv p2, iv p3, iv p4, iv p5, iv p6, iv P1, iv P2, iv P3, iv (0 : Int32), iv (2 : Int32), iv q, rv b1, rv b5, rv o, iv (1 : Int32), iv (0 : Int32), iv (0 : Int32), .unset, .unset, .unset, .unset, .unset, .unset]) rfl k) ?_
        refine oI2 X30 hx (hb hby at_205) (pc' := 207) rfl rfl ?_
        refine oN0 X30 hx (hb hby at_207) (pc' := 210) rfl ((if0 _ _).trans (flt (by decide : ¬ ((0 : Int32) < (0 : Int32)))).2.2.1) ?_
        refine oC X30 hx (0 : Int32) (hb hby at_210) (pc' := 211) rfl rfl ?_
        refine oI2 X30 hx (hb hby at_211) (pc' := 213) rfl rfl ?_
        refine oN X30 hx (hb hby at_213) (pc' := 216) rfl (tlt (by decide : (0 : Int32) < (2 : Int32))).2.1 ?_
        refine oI2 X30 hx (hb hby at_216) (pc' := 218) rfl rfl ?_
        refine oI2 X30 hx (hb hby at_218) (pc' := 220) rfl rfl ?_
        by_cases hc31 : P1 < q
        · refine oN X30 hx (hb hby at_220) (pc' := 223) rfl (tlt hc31).2.1 ?_
          refine own_pre (T' := T30) (f' := (mkF m 226 #[iv p1, iv p2, iv p3, iv p4, iv p5, iv p6, iv P1, iv P2, iv P3, iv (0 : Int32), iv (2 : Int32), iv q, rv b1, rv b5, rv o, iv (1 : Int32), iv (0 : Int32), iv ((0 : Int32) + (1 : Int32)), .unset, .unset, .unset, .unset, .unset, .unset] [])) (fun t k => XS.iinc X30.here hx rfl (hb hby at_223) rfl (l' := #[iv p1, iv p2, iv p3, iv p4, iv p5, iv p6, iv P1, iv P2, iv P3, iv (0 : Int32), iv (2 : Int32), iv q, rv b1, rv b5, rv o, iv (1 : Int32), iv (0 : Int32), iv ((0 : Int32) + (1 : Int32)), .unset, .unset, .unset, .unset, .unset, .unset]) rfl k) ?_
          rw [show ((0 : Int32) + (1 : Int32)) = (1 : Int32) from by decide]
          refine oI2 X30 hx (hb hby at_226) (pc' := 228) rfl rfl ?_
          refine oC X30 hx (1 : Int32) (hb hby at_228) (pc' := 229) rfl rfl ?_
          refine oN X30 hx (hb hby at_229) (pc' := 232) rfl (flt (by decide : ¬ ((1 : Int32) < (0 : Int32)))).2.2.1 ?_
          refine oC X30 hx (1 : Int32) (hb hby at_232) (pc' := 233) rfl rfl ?_
          refine oI2 X30 hx (hb hby at_233) (pc' := 235) rfl rfl ?_
          refine oN X30 hx (hb hby at_235) (pc' := 238) rfl (tlt (by decide : (1 : Int32) < (2 : Int32))).2.1 ?_
          refine oI2 X30 hx (hb hby at_238) (pc' := 240) rfl rfl ?_
          refine oI2 X30 hx (hb hby at_240) (pc' := 242) rfl rfl ?_
          by_cases hc32 : P2 < q
          · refine oN X30 hx (hb hby at_242) (pc' := 245) rfl (tlt hc32).2.1 ?_
            refine own_pre (T' := T30) (f' := (mkF m 248 #[iv p1, iv p2, iv p3, iv p4, iv p5, iv p6, iv P1, iv P2, iv P3, iv (0 : Int32), iv (2 : Int32), iv q, rv b1, rv b5, rv o, iv (1 : Int32), iv (0 : Int32), iv ((1 : Int32) + (1 : Int32)), .unset, .unset, .unset, .unset, .unset, .unset] [])) (fun t k => XS.iinc X30.here hx rfl (hb hby at_245) rfl (l' := #[iv p1, iv p2, iv p3, iv p4, iv p5, iv p6, iv P1, iv P2, iv P3, iv (0 : Int32), iv (2 : Int32), iv q, rv b1, rv b5, rv o, iv (1 : Int32), iv (0 : Int32), iv ((1 : Int32) + (1 : Int32)), .unset, .unset, .unset, .unset, .unset, .unset]) rfl k) ?_
            rw [show ((1 : Int32) + (1 : Int32)) = (2 : Int32) from by decide]
            refine oC X30 hx (2 : Int32) (hb hby at_248) (pc' := 249) rfl rfl ?_
            refine oI2 X30 hx (hb hby at_249) (pc' := 251) rfl rfl ?_
            refine oY X30 hx (hb hby at_251) (pc' := 264) (flt (by decide : ¬ ((2 : Int32) < (2 : Int32)))).2.1 (by decide) (by decide) ?_
            refine oI2 X30 hx (hb hby at_264) (pc' := 266) rfl rfl ?_
            refine oI2 X30 hx (hb hby at_266) (pc' := 268) rfl rfl ?_
            refine own_pre (T' := T30) (f' := (mkF m 269 #[iv p1, iv p2, iv p3, iv p4, iv p5, iv p6, iv P1, iv P2, iv P3, iv (0 : Int32), iv (2 : Int32), iv q, rv b1, rv b5, rv o, iv (1 : Int32), iv (0 : Int32), iv (2 : Int32), .unset, .unset, .unset, .unset, .unset, .unset] [(.int ((0 : Int32) + (2 : Int32)))])) (fun t k => XS.iadd X30.here hx rfl (hb hby at_268) rfl k) ?_
            rw [show ((0 : Int32) + (2 : Int32)) = (2 : Int32) from by decide]
            refine own_pre (T' := T30) (f' := (mkF m 271 #[iv p1, iv p2, iv p3, iv p4, iv p5, iv p6, iv P1, iv P2, iv P3, iv (0 : Int32), iv (2 : Int32), iv q, rv b1, rv b5, rv o, iv (1 : Int32), iv (0 : Int32), iv (2 : Int32), iv (2 : Int32), .unset, .unset, .unset, .unset, .unset] [])) (fun t k => XS.istore X30.here hx rfl (hb hby at_269) rfl (l' := #[iv p1, iv p2, iv p3, iv p4, iv p5, iv p6, iv P1, iv P2, iv P3, iv (0 : Int32), iv (2 : Int32), iv q, rv b1, rv b5, rv o, iv (1 : Int32), iv (0 : Int32), iv (2 : Int32), iv (2 : Int32), .unset, .unset, .unset, .unset, .unset]) rfl k) ?_
            refine oI2 X30 hx (hb hby at_271) (pc' := 273) rfl rfl ?_
            refine oI2 X30 hx (hb hby at_273) (pc' := 275) rfl rfl ?_
            refine oY X30 hx (hb hby at_275) (pc' := 304) (flt (by decide : ¬ ((2 : Int32) < (2 : Int32)))).2.1 (by decide) (by decide) ?_
            refine oC X30 hx (-1 : Int32) (hb hby at_304) (pc' := 305) rfl rfl ?_
            refine own_pre (T' := T30) (f' := (mkF m 307 #[iv p1, iv p2, iv p3, iv p4, iv p5, iv p6, iv P1, iv P2, iv P3, iv (0 : Int32), iv (2 : Int32), iv q, rv b1, rv b5, rv o, iv (1 : Int32), iv (0 : Int32), iv (2 : Int32), iv (2 : Int32), iv (-1 : Int32), .unset, .unset, .unset, .unset] [])) (fun t k => XS.istore X30.here hx rfl (hb hby at_305) rfl (l' := #[iv p1, iv p2, iv p3, iv p4, iv p5, iv p6, iv P1, iv P2, iv P3, iv (0 : Int32), iv (2 : Int32), iv q, rv b1, rv b5, rv o, iv (1 : Int32), iv (0 : Int32), iv (2 : Int32), iv (2 : Int32), iv (-1 : Int32), .unset, .unset, .unset, .unset]) rfl k) ?_
            refine oI2 X30 hx (hb hby at_307) (pc' := 309) rfl rfl ?_
            refine own_pre (T' := T30) (f' := (mkF m 311 #[iv p1, iv p2, iv p3, iv p4, iv p5, iv p6, iv P1, iv P2, iv P3, iv (0 : Int32), iv (2 : Int32), iv q, rv b1, rv b5, rv o, iv (1 : Int32), iv (0 : Int32), iv (2 : Int32), iv (2 : Int32), iv (-1 : Int32), iv (2 : Int32), .unset, .unset, .unset] [])) (fun t k => XS.istore X30.here hx rfl (hb hby at_309) rfl (l' := #[iv p1, iv p2, iv p3, iv p4, iv p5, iv p6, iv P1, iv P2, iv P3, iv (0 : Int32), iv (2 : Int32), iv q, rv b1, rv b5, rv o, iv (1 : Int32), iv (0 : Int32), iv (2 : Int32), iv (2 : Int32), iv (-1 : Int32), iv (2 : Int32), .unset, .unset, .unset]) rfl k) ?_
            refine oA2 X30 hx (hb hby at_311) (pc' := 313) rfl rfl rfl ?_
            refine oI2 X30 hx (hb hby at_313) (pc' := 315) rfl rfl ?_
            obtain ⟨T33, L33, v33, Y33a, ⟨rfl, N33, B33⟩, st33⟩ := own_callV X30 hx hZ e30 (y := (⟨"com/example/orthonorm/orthonorm/sanskrit/Anchors", "takeAt", "(I)I"⟩ : MethodName)) hown (hw _ (List.mem_of_getElem? (i := 17) rfl)) (hw _ (List.mem_of_getElem? (i := 18) rfl)) (hw _ (List.mem_of_getElem? (i := 20) rfl)) (hw _ (List.mem_of_getElem? (i := 19) rfl)) (hw _ (List.mem_of_getElem? (i := 21) rfl)) (hw _ (List.mem_of_getElem? (i := 4) rfl)) (by decide) 0 [(.int q)] [] (own_at_2_0_2_0 l Z a0 hw [] w_NO_ANCHORS k_NO_ANCHORS h30 (own_F_ext F0 EX30_h0) h8 Fb o P O kP kO P1 P2 (0 : Int32) (0 : Int32) (0 : Int32) (0 : Int32) (0 : Int32) (0 : Int32) p3 p4 (0 : Int32) (0 : Int32) (0 : Int32) (0 : Int32) (0 : Int32) (0 : Int32) B30 q hc31 hc32) (by decide) (by decide) (by decide) (by decide) (own_Ob_E B30.1) (g := (mkF m 315 #[iv p1, iv p2, iv p3, iv p4, iv p5, iv p6, iv P1, iv P2, iv P3, iv (0 : Int32), iv (2 : Int32), iv q, rv b1, rv b5, rv o, iv (1 : Int32), iv (0 : Int32), iv (2 : Int32), iv (2 : Int32), iv (-1 : Int32), iv (2 : Int32), .unset, .unset, .unset] [(.int q), (.ref o)])) rfl (by rw [hml]; rfl) (lenOf pd_3 rfl) rfl (by show 2 * 0 + _ ≤ _; exact Nat.le_of_eq rfl) (hb hby at_315)
            have X33 := Y33a.forget (fun y hy => Nat.le_trans hsz (N33 y hy))
            obtain ⟨h33, e33⟩ : ∃ y, T33.heap = y := ⟨_, rfl⟩
            rw [e33] at B33
            have EX33_h0 : Ext h0 h33 := own_extE EX8_h0 (own_Ob_X B33.1)
            have EX33_h4 : Ext h4 h33 := own_extE EX8_h4 (own_Ob_X B33.1)
            have EX33_h8 : Ext h8 h33 := own_Ob_X B33.1
            refine own_pre (T' := T33) (f' := (mkF m 318 #[iv p1, iv p2, iv p3, iv p4, iv p5, iv p6, iv P1, iv P2, iv P3, iv (0 : Int32), iv (2 : Int32), iv q, rv b1, rv b5, rv o, iv (1 : Int32), iv (0 : Int32), iv (2 : Int32), iv (2 : Int32), iv (-1 : Int32), iv (2 : Int32), .unset, .unset, .unset] [(.int (-1 : Int32))])) (fun t k => st33 t k) ?_
            refine own_pre (T' := T33) (f' := (mkF m 320 #[iv p1, iv p2, iv p3, iv p4, iv p5, iv p6, iv P1, iv P2, iv P3, iv (0 : Int32), iv (2 : Int32), iv q, rv b1, rv b5, rv o, iv (1 : Int32), iv (0 : Int32), iv (2 : Int32), iv (2 : Int32), iv (-1 : Int32), iv (2 : Int32), iv (-1 : Int32), .unset, .unset] [])) (fun t k => XS.istore X33.here hx rfl (hb hby at_318) rfl (l' := #[iv p1, iv p2, iv p3, iv p4, iv p5, iv p6, iv P1, iv P2, iv P3, iv (0 : Int32), iv (2 : Int32), iv q, rv b1, rv b5, rv o, iv (1 : Int32), iv (0 : Int32), iv (2 : Int32), iv (2 : Int32), iv (-1 : Int32), iv (2 : Int32), iv (-1 : Int32), .unset, .unset]) rfl k) ?_
            refine oA2 X33 hx (hb hby at_320) (pc' := 322) rfl rfl rfl ?_
            obtain ⟨T34, X34, e34, st34⟩ := own_pure (f := 0) (n := 0) (v := (some (.int (2147483647 : Int32)))) (own_callV X33 hx hZ e33 (y := (⟨"com/example/orthonorm/orthonorm/sanskrit/Anchors", "nextPlace", "()I"⟩ : MethodName)) hown (hw _ (List.mem_of_getElem? (i := 26) rfl)) (hw _ (List.mem_of_getElem? (i := 27) rfl)) (hw _ (List.mem_of_getElem? (i := 29) rfl)) (hw _ (List.mem_of_getElem? (i := 28) rfl)) (hw _ (List.mem_of_getElem? (i := 30) rfl)) (hw _ (List.mem_of_getElem? (i := 4) rfl)) (by decide) 0 [] [] (own_next_2_2 l Z a0 hw [] w_NO_ANCHORS k_NO_ANCHORS h33 (own_F_ext F0 EX33_h0) h8 Fb o P O kP kO P1 P2 (0 : Int32) (0 : Int32) (0 : Int32) (0 : Int32) (0 : Int32) (0 : Int32) p3 p4 (0 : Int32) (0 : Int32) (0 : Int32) (0 : Int32) (0 : Int32) (0 : Int32) B33) (by decide) (by decide) (by decide) (by decide) (own_Ob_E B33.1) (g := (mkF m 322 #[iv p1, iv p2, iv p3, iv p4, iv p5, iv p6, iv P1, iv P2, iv P3, iv (0 : Int32), iv (2 : Int32), iv q, rv b1, rv b5, rv o, iv (1 : Int32), iv (0 : Int32), iv (2 : Int32), iv (2 : Int32), iv (-1 : Int32), iv (2 : Int32), iv (-1 : Int32), .unset, .unset] [(.ref o)])) rfl (by rw [hml]; rfl) (lenOf pd_4 rfl) rfl (by show 2 * 0 + _ ≤ _; exact Nat.le_of_eq rfl) (hb hby at_322))
            refine own_pre (T' := T34) (f' := (mkF m 325 #[iv p1, iv p2, iv p3, iv p4, iv p5, iv p6, iv P1, iv P2, iv P3, iv (0 : Int32), iv (2 : Int32), iv q, rv b1, rv b5, rv o, iv (1 : Int32), iv (0 : Int32), iv (2 : Int32), iv (2 : Int32), iv (-1 : Int32), iv (2 : Int32), iv (-1 : Int32), .unset, .unset] [(.int (2147483647 : Int32))])) (fun t k => st34 t k) ?_
            refine own_pre (T' := T34) (f' := (mkF m 327 #[iv p1, iv p2, iv p3, iv p4, iv p5, iv p6, iv P1, iv P2, iv P3, iv (0 : Int32), iv (2 : Int32), iv q, rv b1, rv b5, rv o, iv (1 : Int32), iv (0 : Int32), iv (2 : Int32), iv (2 : Int32), iv (-1 : Int32), iv (2 : Int32), iv (-1 : Int32), iv (2147483647 : Int32), .unset] [])) (fun t k => XS.istore X34.here hx rfl (hb hby at_325) rfl (l' := #[iv p1, iv p2, iv p3, iv p4, iv p5, iv p6, iv P1, iv P2, iv P3, iv (0 : Int32), iv (2 : Int32), iv q, rv b1, rv b5, rv o, iv (1 : Int32), iv (0 : Int32), iv (2 : Int32), iv (2 : Int32), iv (-1 : Int32), iv (2 : Int32), iv (-1 : Int32), iv (2147483647 : Int32), .unset]) rfl k) ?_
            refine oI2 X34 hx (hb hby at_327) (pc' := 329) rfl rfl ?_
            refine oI2 X34 hx (hb hby at_329) (pc' := 331) rfl rfl ?_
            refine oY X34 hx (hb hby at_331) (pc' := 342) (flt (by decide : ¬ ((2 : Int32) < (2 : Int32)))).2.1 (by decide) (by decide) ?_
            refine own_pre (T' := T34) (f' := (mkF m 344 #[iv p1, iv p2, iv p3, iv p4, iv p5, iv p6, iv P1, iv P2, iv P3, iv (0 : Int32), iv (2 : Int32), iv q, rv b1, rv b5, rv o, iv (1 : Int32), iv (0 : Int32), iv (2 : Int32), iv (2 : Int32), iv (-1 : Int32), iv (2 : Int32), iv (-1 : Int32), iv (2147483647 : Int32), .unset] [(.int (2147483647 : Int32))])) (fun t k => X34.ldcInt hx hown (mvT hZ (hw _ (List.mem_of_getElem? (i := 32) rfl))) (g := (mkF m 342 #[iv p1, iv p2, iv p3, iv p4, iv p5, iv p6, iv P1, iv P2, iv P3, iv (0 : Int32), iv (2 : Int32), iv q, rv b1, rv b5, rv o, iv (1 : Int32), iv (0 : Int32), iv (2 : Int32), iv (2 : Int32), iv (-1 : Int32), iv (2 : Int32), iv (-1 : Int32), iv (2147483647 : Int32), .unset] [])) rfl (hb hby at_342) t k) ?_
            refine own_pre (T' := T34) (f' := (mkF m 346 #[iv p1, iv p2, iv p3, iv p4, iv p5, iv p6, iv P1, iv P2, iv P3, iv (0 : Int32), iv (2 : Int32), iv q, rv b1, rv b5, rv o, iv (1 : Int32), iv (0 : Int32), iv (2 : Int32), iv (2 : Int32), iv (-1 : Int32), iv (2 : Int32), iv (-1 : Int32), iv (2147483647 : Int32), iv (2147483647 : Int32)] [])) (fun t k => XS.istore X34.here hx rfl (hb hby at_344) rfl (l' := #[iv p1, iv p2, iv p3, iv p4, iv p5, iv p6, iv P1, iv P2, iv P3, iv (0 : Int32), iv (2 : Int32), iv q, rv b1, rv b5, rv o, iv (1 : Int32), iv (0 : Int32), iv (2 : Int32), iv (2 : Int32), iv (-1 : Int32), iv (2 : Int32), iv (-1 : Int32), iv (2147483647 : Int32), iv (2147483647 : Int32)]) rfl k) ?_
            refine oI2 X34 hx (hb hby at_346) (pc' := 348) rfl rfl ?_
            refine oN0 X34 hx (hb hby at_348) (pc' := 351) rfl ((if0 _ _).trans (feq (by decide : ¬ ((1 : Int32) = (0 : Int32)))).1) ?_
            refine oI2 X34 hx (hb hby at_351) (pc' := 353) rfl rfl ?_
            refine oI2 X34 hx (hb hby at_353) (pc' := 355) rfl rfl ?_
            refine oN X34 hx (hb hby at_355) (pc' := 358) rfl (teq (by decide : (-1 : Int32) = (-1 : Int32))).2 ?_
            refine oI2 X34 hx (hb hby at_358) (pc' := 360) rfl rfl ?_
            refine oI2 X34 hx (hb hby at_360) (pc' := 362) rfl rfl ?_
            refine oN X34 hx (hb hby at_362) (pc' := 365) rfl (teq (by decide : (2147483647 : Int32) = (2147483647 : Int32))).2 ?_
            refine oC X34 hx (1 : Int32) (hb hby at_365) (pc' := 366) rfl rfl ?_
            refine oG X34 hx (hb hby at_366) (pc' := 370) (by decide) (by decide) ?_
            refine own_pre (T' := T34) (f' := (mkF m 372 #[iv p1, iv p2, iv p3, iv p4, iv p5, iv p6, iv P1, iv P2, iv P3, iv (0 : Int32), iv (2 : Int32), iv q, rv b1, rv b5, rv o, iv (1 : Int32), iv (0 : Int32), iv (2 : Int32), iv (2 : Int32), iv (-1 : Int32), iv (2 : Int32), iv (-1 : Int32), iv (2147483647 : Int32), iv (2147483647 : Int32)] [])) (fun t k => XS.istore X34.here hx rfl (hb hby at_370) rfl (l' := #[iv p1, iv p2, iv p3, iv p4, iv p5, iv p6, iv P1, iv P2, iv P3, iv (0 : Int32), iv (2 : Int32), iv q, rv b1, rv b5, rv o, iv (1 : Int32), iv (0 : Int32), iv (2 : Int32), iv (2 : Int32), iv (-1 : Int32), iv (2 : Int32), iv (-1 : Int32), iv (2147483647 : Int32), iv (2147483647 : Int32)]) rfl k) ?_
            refine oI2 X34 hx (hb hby at_372) (pc' := 374) rfl rfl ?_
            refine oI2 X34 hx (hb hby at_374) (pc' := 376) rfl rfl ?_
            refine oY X34 hx (hb hby at_376) (pc' := 404) (flt (by decide : ¬ ((2 : Int32) < (2 : Int32)))).2.1 (by decide) (by decide) ?_
            refine oI2 X34 hx (hb hby at_404) (pc' := 406) rfl rfl ?_
            exact own_retZ X34 hx hlk hret (hb hby at_406) rfl (⟨rfl, Fr.nil _⟩) (by decide) (by decide)
          · refine oY X30 hx (hb hby at_242) (pc' := 248) (flt hc32).2.1 (by decide) (by decide) ?_
            refine oC X30 hx (2 : Int32) (hb hby at_248) (pc' := 249) rfl rfl ?_
            refine oI2 X30 hx (hb hby at_249) (pc' := 251) rfl rfl ?_
            refine oY X30 hx (hb hby at_251) (pc' := 264) (flt (by decide : ¬ ((2 : Int32) < (2 : Int32)))).2.1 (by decide) (by decide) ?_
            refine oI2 X30 hx (hb hby at_264) (pc' := 266) rfl rfl ?_
            refine oI2 X30 hx (hb hby at_266) (pc' := 268) rfl rfl ?_
            refine own_pre (T' := T30) (f' := (mkF m 269 #[iv p1, iv p2, iv p3, iv p4, iv p5, iv p6, iv P1, iv P2, iv P3, iv (0 : Int32), iv (2 : Int32), iv q, rv b1, rv b5, rv o, iv (1 : Int32), iv (0 : Int32), iv (1 : Int32), .unset, .unset, .unset, .unset, .unset, .unset] [(.int ((0 : Int32) + (1 : Int32)))])) (fun t k => XS.iadd X30.here hx rfl (hb hby at_268) rfl k) ?_
            rw [show ((0 : Int32) + (1 : Int32)) = (1 : Int32) from by decide]
            refine own_pre (T' := T30) (f' := (mkF m 271 #[iv p1, iv p2, iv p3, iv p4, iv p5, iv p6, iv P1, iv P2, iv P3, iv (0 : Int32), iv (2 : Int32), iv q, rv b1, rv b5, rv o, iv (1 : Int32), iv (0 : Int32), iv (1 : Int32), iv (1 : Int32), .unset, .unset, .unset, .unset, .unset] [])) (fun t k => XS.istore X30.here hx rfl (hb hby at_269) rfl (l' := #[iv p1, iv p2, iv p3, iv p4, iv p5, iv p6, iv P1, iv P2, iv P3, iv (0 : Int32), iv (2 : Int32), iv q, rv b1, rv b5, rv o, iv (1 : Int32), iv (0 : Int32), iv (1 : Int32), iv (1 : Int32), .unset, .unset, .unset, .unset, .unset]) rfl k) ?_
            refine oI2 X30 hx (hb hby at_271) (pc' := 273) rfl rfl ?_
            refine oI2 X30 hx (hb hby at_273) (pc' := 275) rfl rfl ?_
            refine oN X30 hx (hb hby at_275) (pc' := 278) rfl (tlt (by decide : (1 : Int32) < (2 : Int32))).2.1 ?_
            refine oA2 X30 hx (hb hby at_278) (pc' := 280) rfl rfl rfl ?_
            refine oI2 X30 hx (hb hby at_280) (pc' := 282) rfl rfl ?_
            refine own_pre (T' := T30) (f' := (mkF m 283 #[iv p1, iv p2, iv p3, iv p4, iv p5, iv p6, iv P1, iv P2, iv P3, iv (0 : Int32), iv (2 : Int32), iv q, rv b1, rv b5, rv o, iv (1 : Int32), iv (0 : Int32), iv (1 : Int32), iv (1 : Int32), .unset, .unset, .unset, .unset, .unset] [(.int P2)])) (fun t k => own_ldI X30 hx hZ e30 (V4.ext EX30_h4) (by decide) rfl (g := (mkF m 282 #[iv p1, iv p2, iv p3, iv p4, iv p5, iv p6, iv P1, iv P2, iv P3, iv (0 : Int32), iv (2 : Int32), iv q, rv b1, rv b5, rv o, iv (1 : Int32), iv (0 : Int32), iv (1 : Int32), iv (1 : Int32), .unset, .unset, .unset, .unset, .unset] [(.int (1 : Int32)), (.ref b1)])) rfl rfl (hb hby at_282) t k) ?_
            refine oI2 X30 hx (hb hby at_283) (pc' := 285) rfl rfl ?_
            by_cases hc35 : P2 = q
            · refine oN X30 hx (hb hby at_285) (pc' := 288) rfl (teq hc35).2 ?_
              refine oA2 X30 hx (hb hby at_288) (pc' := 290) rfl rfl rfl ?_
              refine oI2 X30 hx (hb hby at_290) (pc' := 292) rfl rfl ?_
              refine own_pre (T' := T30) (f' := (mkF m 293 #[iv p1, iv p2, iv p3, iv p4, iv p5, iv p6, iv P1, iv P2, iv P3, iv (0 : Int32), iv (2 : Int32), iv q, rv b1, rv b5, rv o, iv (1 : Int32), iv (0 : Int32), iv (1 : Int32), iv (1 : Int32), .unset, .unset, .unset, .unset, .unset] [(.int p4)])) (fun t k => own_ldI X30 hx hZ e30 (V8.ext EX30_h8) (by decide) rfl (g := (mkF m 292 #[iv p1, iv p2, iv p3, iv p4, iv p5, iv p6, iv P1, iv P2, iv P3, iv (0 : Int32), iv (2 : Int32), iv q, rv b1, rv b5, rv o, iv (1 : Int32), iv (0 : Int32), iv (1 : Int32), iv (1 : Int32), .unset, .unset, .unset, .unset, .unset] [(.int (1 : Int32)), (.ref b5)])) rfl rfl (hb hby at_292) t k) ?_
              refine own_pre (T' := T30) (f' := (mkF m 295 #[iv p1, iv p2, iv p3, iv p4, iv p5, iv p6, iv P1, iv P2, iv P3, iv (0 : Int32), iv (2 : Int32), iv q, rv b1, rv b5, rv o, iv (1 : Int32), iv (0 : Int32), iv (1 : Int32), iv (1 : Int32), iv p4, .unset, .unset, .unset, .unset] [])) (fun t k => XS.istore X30.here hx rfl (hb hby at_293) rfl (l' := #[iv p1, iv p2, iv p3, iv p4, iv p5, iv p6, iv P1, iv P2, iv P3, iv (0 : Int32), iv (2 : Int32), iv q, rv b1, rv b5, rv o, iv (1 : Int32), iv (0 : Int32), iv (1 : Int32), iv (1 : Int32), iv p4, .unset, .unset, .unset, .unset]) rfl k) ?_
              refine oI2 X30 hx (hb hby at_295) (pc' := 297) rfl rfl ?_
              refine oC X30 hx (1 : Int32) (hb hby at_297) (pc' := 298) rfl rfl ?_
              refine own_pre (T' := T30) (f' := (mkF m 299 #[iv p1, iv p2, iv p3, iv p4, iv p5, iv p6, iv P1, iv P2, iv P3, iv (0 : Int32), iv (2 : Int32), iv q, rv b1, rv b5, rv o, iv (1 : Int32), iv (0 : Int32), iv (1 : Int32), iv (1 : Int32), iv p4, .unset, .unset, .unset, .unset] [(.int ((1 : Int32) + (1 : Int32)))])) (fun t k => XS.iadd X30.here hx rfl (hb hby at_298) rfl k) ?_
              rw [show ((1 : Int32) + (1 : Int32)) = (2 : Int32) from by decide]
              refine own_pre (T' := T30) (f' := (mkF m 301 #[iv p1, iv p2, iv p3, iv p4, iv p5, iv p6, iv P1, iv P2, iv P3, iv (0 : Int32), iv (2 : Int32), iv q, rv b1, rv b5, rv o, iv (1 : Int32), iv (0 : Int32), iv (1 : Int32), iv (1 : Int32), iv p4, iv (2 : Int32), .unset, .unset, .unset] [])) (fun t k => XS.istore X30.here hx rfl (hb hby at_299) rfl (l' := #[iv p1, iv p2, iv p3, iv p4, iv p5, iv p6, iv P1, iv P2, iv P3, iv (0 : Int32), iv (2 : Int32), iv q, rv b1, rv b5, rv o, iv (1 : Int32), iv (0 : Int32), iv (1 : Int32), iv (1 : Int32), iv p4, iv (2 : Int32), .unset, .unset, .unset]) rfl k) ?_
              refine oG X30 hx (hb hby at_301) (pc' := 311) (by decide) (by decide) ?_
              refine oA2 X30 hx (hb hby at_311) (pc' := 313) rfl rfl rfl ?_
              refine oI2 X30 hx (hb hby at_313) (pc' := 315) rfl rfl ?_
              obtain ⟨T36, L36, v36, Y36a, ⟨rfl, N36, B36⟩, st36⟩ := own_callV X30 hx hZ e30 (y := (⟨"com/example/orthonorm/orthonorm/sanskrit/Anchors", "takeAt", "(I)I"⟩ : MethodName)) hown (hw _ (List.mem_of_getElem? (i := 17) rfl)) (hw _ (List.mem_of_getElem? (i := 18) rfl)) (hw _ (List.mem_of_getElem? (i := 20) rfl)) (hw _ (List.mem_of_getElem? (i := 19) rfl)) (hw _ (List.mem_of_getElem? (i := 21) rfl)) (hw _ (List.mem_of_getElem? (i := 4) rfl)) (by decide) 0 [(.int q)] [] (own_at_2_0_1_1 l Z a0 hw [] w_NO_ANCHORS k_NO_ANCHORS h30 (own_F_ext F0 EX30_h0) h8 Fb o P O kP kO P1 P2 (0 : Int32) (0 : Int32) (0 : Int32) (0 : Int32) (0 : Int32) (0 : Int32) p3 p4 (0 : Int32) (0 : Int32) (0 : Int32) (0 : Int32) (0 : Int32) (0 : Int32) B30 q hc31 hc32 hc35) (by decide) (by decide) (by decide) (by decide) (own_Ob_E B30.1) (g := (mkF m 315 #[iv p1, iv p2, iv p3, iv p4, iv p5, iv p6, iv P1, iv P2, iv P3, iv (0 : Int32), iv (2 : Int32), iv q, rv b1, rv b5, rv o, iv (1 : Int32), iv (0 : Int32), iv (1 : Int32), iv (1 : Int32), iv p4, iv (2 : Int32), .unset, .unset, .unset] [(.int q), (.ref o)])) rfl (by rw [hml]; rfl) (lenOf pd_3 rfl) rfl (by show 2 * 0 + _ ≤ _; exact Nat.le_of_eq rfl) (hb hby at_315)
              have X36 := Y36a.forget (fun y hy => Nat.le_trans hsz (N36 y hy))
              obtain ⟨h36, e36⟩ : ∃ y, T36.heap = y := ⟨_, rfl⟩
              rw [e36] at B36
              have EX36_h0 : Ext h0 h36 := own_extE EX8_h0 (own_Ob_X B36.1)
              have EX36_h4 : Ext h4 h36 := own_extE EX8_h4 (own_Ob_X B36.1)
              have EX36_h8 : Ext h8 h36 := own_Ob_X B36.1
              refine own_pre (T' := T36) (f' := (mkF m 318 #[iv p1, iv p2, iv p3, iv p4, iv p5, iv p6, iv P1, iv P2, iv P3, iv (0 : Int32), iv (2 : Int32), iv q, rv b1, rv b5, rv o, iv (1 : Int32), iv (0 : Int32), iv (1 : Int32), iv (1 : Int32), iv p4, iv (2 : Int32), .unset, .unset, .unset] [(.int p4)])) (fun t k => st36 t k) ?_
              refine own_pre (T' := T36) (f' := (mkF m 320 #[iv p1, iv p2, iv p3, iv p4, iv p5, iv p6, iv P1, iv P2, iv P3, iv (0 : Int32), iv (2 : Int32), iv q, rv b1, rv b5, rv o, iv (1 : Int32), iv (0 : Int32), iv (1 : Int32), iv (1 : Int32), iv p4, iv (2 : Int32), iv p4, .unset, .unset] [])) (fun t k => XS.istore X36.here hx rfl (hb hby at_318) rfl (l' := #[iv p1, iv p2, iv p3, iv p4, iv p5, iv p6, iv P1, iv P2, iv P3, iv (0 : Int32), iv (2 : Int32), iv q, rv b1, rv b5, rv o, iv (1 : Int32), iv (0 : Int32), iv (1 : Int32), iv (1 : Int32), iv p4, iv (2 : Int32), iv p4, .unset, .unset]) rfl k) ?_
              refine oA2 X36 hx (hb hby at_320) (pc' := 322) rfl rfl rfl ?_
              obtain ⟨T37, X37, e37, st37⟩ := own_pure (f := 0) (n := 0) (v := (some (.int (2147483647 : Int32)))) (own_callV X36 hx hZ e36 (y := (⟨"com/example/orthonorm/orthonorm/sanskrit/Anchors", "nextPlace", "()I"⟩ : MethodName)) hown (hw _ (List.mem_of_getElem? (i := 26) rfl)) (hw _ (List.mem_of_getElem? (i := 27) rfl)) (hw _ (List.mem_of_getElem? (i := 29) rfl)) (hw _ (List.mem_of_getElem? (i := 28) rfl)) (hw _ (List.mem_of_getElem? (i := 30) rfl)) (hw _ (List.mem_of_getElem? (i := 4) rfl)) (by decide) 0 [] [] (own_next_2_2 l Z a0 hw [] w_NO_ANCHORS k_NO_ANCHORS h36 (own_F_ext F0 EX36_h0) h8 Fb o P O kP kO P1 P2 (0 : Int32) (0 : Int32) (0 : Int32) (0 : Int32) (0 : Int32) (0 : Int32) p3 p4 (0 : Int32) (0 : Int32) (0 : Int32) (0 : Int32) (0 : Int32) (0 : Int32) B36) (by decide) (by decide) (by decide) (by decide) (own_Ob_E B36.1) (g := (mkF m 322 #[iv p1, iv p2, iv p3, iv p4, iv p5, iv p6, iv P1, iv P2, iv P3, iv (0 : Int32), iv (2 : Int32), iv q, rv b1, rv b5, rv o, iv (1 : Int32), iv (0 : Int32), iv (1 : Int32), iv (1 : Int32), iv p4, iv (2 : Int32), iv p4, .unset, .unset] [(.ref o)])) rfl (by rw [hml]; rfl) (lenOf pd_4 rfl) rfl (by show 2 * 0 + _ ≤ _; exact Nat.le_of_eq rfl) (hb hby at_322))
              refine own_pre (T' := T37) (f' := (mkF m 325 #[iv p1, iv p2, iv p3, iv p4, iv p5, iv p6, iv P1, iv P2, iv P3, iv (0 : Int32), iv (2 : Int32), iv q, rv b1, rv b5, rv o, iv (1 : Int32), iv (0 : Int32), iv (1 : Int32), iv (1 : Int32), iv p4, iv (2 : Int32), iv p4, .unset, .unset] [(.int (2147483647 : Int32))])) (fun t k => st37 t k) ?_
              refine own_pre (T' := T37) (f' := (mkF m 327 #[iv p1, iv p2, iv p3, iv p4, iv p5, iv p6, iv P1, iv P2, iv P3, iv (0 : Int32), iv (2 : Int32), iv q, rv b1, rv b5, rv o, iv (1 : Int32), iv (0 : Int32), iv (1 : Int32), iv (1 : Int32), iv p4, iv (2 : Int32), iv p4, iv (2147483647 : Int32), .unset] [])) (fun t k => XS.istore X37.here hx rfl (hb hby at_325) rfl (l' := #[iv p1, iv p2, iv p3, iv p4, iv p5, iv p6, iv P1, iv P2, iv P3, iv (0 : Int32), iv (2 : Int32), iv q, rv b1, rv b5, rv o, iv (1 : Int32), iv (0 : Int32), iv (1 : Int32), iv (1 : Int32), iv p4, iv (2 : Int32), iv p4, iv (2147483647 : Int32), .unset]) rfl k) ?_
              refine oI2 X37 hx (hb hby at_327) (pc' := 329) rfl rfl ?_
              refine oI2 X37 hx (hb hby at_329) (pc' := 331) rfl rfl ?_
              refine oY X37 hx (hb hby at_331) (pc' := 342) (flt (by decide : ¬ ((2 : Int32) < (2 : Int32)))).2.1 (by decide) (by decide) ?_
              refine own_pre (T' := T37) (f' := (mkF m 344 #[iv p1, iv p2, iv p3, iv p4, iv p5, iv p6, iv P1, iv P2, iv P3, iv (0 : Int32), iv (2 : Int32), iv q, rv b1, rv b5, rv o, iv (1 : Int32), iv (0 : Int32), iv (1 : Int32), iv (1 : Int32), iv p4, iv (2 : Int32), iv p4, iv (2147483647 : Int32), .unset] [(.int (2147483647 : Int32))])) (fun t k => X37.ldcInt hx hown (mvT hZ (hw _ (List.mem_of_getElem? (i := 32) rfl))) (g := (mkF m 342 #[iv p1, iv p2, iv p3, iv p4, iv p5, iv p6, iv P1, iv P2, iv P3, iv (0 : Int32), iv (2 : Int32), iv q, rv b1, rv b5, rv o, iv (1 : Int32), iv (0 : Int32), iv (1 : Int32), iv (1 : Int32), iv p4, iv (2 : Int32), iv p4, iv (2147483647 : Int32), .unset] [])) rfl (hb hby at_342) t k) ?_
              refine own_pre (T' := T37) (f' := (mkF m 346 #[iv p1, iv p2, iv p3, iv p4, iv p5, iv p6, iv P1, iv P2, iv P3, iv (0 : Int32), iv (2 : Int32), iv q, rv b1, rv b5, rv o, iv (1 : Int32), iv (0 : Int32), iv (1 : Int32), iv (1 : Int32), iv p4, iv (2 : Int32), iv p4, iv (2147483647 : Int32), iv (2147483647 : Int32)] [])) (fun t k => XS.istore X37.here hx rfl (hb hby at_344) rfl (l' := #[iv p1, iv p2, iv p3, iv p4, iv p5, iv p6, iv P1, iv P2, iv P3, iv (0 : Int32), iv (2 : Int32), iv q, rv b1, rv b5, rv o, iv (1 : Int32), iv (0 : Int32), iv (1 : Int32), iv (1 : Int32), iv p4, iv (2 : Int32), iv p4, iv (2147483647 : Int32), iv (2147483647 : Int32)]) rfl k) ?_
              refine oI2 X37 hx (hb hby at_346) (pc' := 348) rfl rfl ?_
              refine oN0 X37 hx (hb hby at_348) (pc' := 351) rfl ((if0 _ _).trans (feq (by decide : ¬ ((1 : Int32) = (0 : Int32)))).1) ?_
              refine oI2 X37 hx (hb hby at_351) (pc' := 353) rfl rfl ?_
              refine oI2 X37 hx (hb hby at_353) (pc' := 355) rfl rfl ?_
              refine oN X37 hx (hb hby at_355) (pc' := 358) rfl (teq (rfl : p4 = p4)).2 ?_
              refine oI2 X37 hx (hb hby at_358) (pc' := 360) rfl rfl ?_
              refine oI2 X37 hx (hb hby at_360) (pc' := 362) rfl rfl ?_
              refine oN X37 hx (hb hby at_362) (pc' := 365) rfl (teq (by decide : (2147483647 : Int32) = (2147483647 : Int32))).2 ?_
              refine oC X37 hx (1 : Int32) (hb hby at_365) (pc' := 366) rfl rfl ?_
              refine oG X37 hx (hb hby at_366) (pc' := 370) (by decide) (by decide) ?_
              refine own_pre (T' := T37) (f' := (mkF m 372 #[iv p1, iv p2, iv p3, iv p4, iv p5, iv p6, iv P1, iv P2, iv P3, iv (0 : Int32), iv (2 : Int32), iv q, rv b1, rv b5, rv o, iv (1 : Int32), iv (0 : Int32), iv (1 : Int32), iv (1 : Int32), iv p4, iv (2 : Int32), iv p4, iv (2147483647 : Int32), iv (2147483647 : Int32)] [])) (fun t k => XS.istore X37.here hx rfl (hb hby at_370) rfl (l' := #[iv p1, iv p2, iv p3, iv p4, iv p5, iv p6, iv P1, iv P2, iv P3, iv (0 : Int32), iv (2 : Int32), iv q, rv b1, rv b5, rv o, iv (1 : Int32), iv (0 : Int32), iv (1 : Int32), iv (1 : Int32), iv p4, iv (2 : Int32), iv p4, iv (2147483647 : Int32), iv (2147483647 : Int32)]) rfl k) ?_
              refine oI2 X37 hx (hb hby at_372) (pc' := 374) rfl rfl ?_
              refine oI2 X37 hx (hb hby at_374) (pc' := 376) rfl rfl ?_
              refine oY X37 hx (hb hby at_376) (pc' := 404) (flt (by decide : ¬ ((2 : Int32) < (2 : Int32)))).2.1 (by decide) (by decide) ?_
              refine oI2 X37 hx (hb hby at_404) (pc' := 406) rfl rfl ?_
              exact own_retZ X37 hx hlk hret (hb hby at_406) rfl (⟨rfl, Fr.nil _⟩) (by decide) (by decide)
            · refine oY X30 hx (hb hby at_285) (pc' := 304) (feq hc35).2 (by decide) (by decide) ?_
              refine oC X30 hx (-1 : Int32) (hb hby at_304) (pc' := 305) rfl rfl ?_
              refine own_pre (T' := T30) (f' := (mkF m 307 #[iv p1, iv p2, iv p3, iv p4, iv p5, iv p6, iv P1, iv P2, iv P3, iv (0 : Int32), iv (2 : Int32), iv q, rv b1, rv b5, rv o, iv (1 : Int32), iv (0 : Int32), iv (1 : Int32), iv (1 : Int32), iv (-1 : Int32), .unset, .unset, .unset, .unset] [])) (fun t k => XS.istore X30.here hx rfl (hb hby at_305) rfl (l' := #[iv p1, iv p2, iv p3, iv p4, iv p5, iv p6, iv P1, iv P2, iv P3, iv (0 : Int32), iv (2 : Int32), iv q, rv b1, rv b5, rv o, iv (1 : Int32), iv (0 : Int32), iv (1 : Int32), iv (1 : Int32), iv (-1 : Int32), .unset, .unset, .unset, .unset]) rfl k) ?_
              refine oI2 X30 hx (hb hby at_307) (pc' := 309) rfl rfl ?_
              refine own_pre (T' := T30) (f' := (mkF m 311 #[iv p1, iv p2, iv p3, iv p4, iv p5, iv p6, iv P1, iv P2, iv P3, iv (0 : Int32), iv (2 : Int32), iv q, rv b1, rv b5, rv o, iv (1 : Int32), iv (0 : Int32), iv (1 : Int32), iv (1 : Int32), iv (-1 : Int32), iv (1 : Int32), .unset, .unset, .unset] [])) (fun t k => XS.istore X30.here hx rfl (hb hby at_309) rfl (l' := #[iv p1, iv p2, iv p3, iv p4, iv p5, iv p6, iv P1, iv P2, iv P3, iv (0 : Int32), iv (2 : Int32), iv q, rv b1, rv b5, rv o, iv (1 : Int32), iv (0 : Int32), iv (1 : Int32), iv (1 : Int32), iv (-1 : Int32), iv (1 : Int32), .unset, .unset, .unset]) rfl k) ?_
              refine oA2 X30 hx (hb hby at_311) (pc' := 313) rfl rfl rfl ?_
              refine oI2 X30 hx (hb hby at_313) (pc' := 315) rfl rfl ?_
              obtain ⟨T38, L38, v38, Y38a, ⟨rfl, N38, B38⟩, st38⟩ := own_callV X30 hx hZ e30 (y := (⟨"com/example/orthonorm/orthonorm/sanskrit/Anchors", "takeAt", "(I)I"⟩ : MethodName)) hown (hw _ (List.mem_of_getElem? (i := 17) rfl)) (hw _ (List.mem_of_getElem? (i := 18) rfl)) (hw _ (List.mem_of_getElem? (i := 20) rfl)) (hw _ (List.mem_of_getElem? (i := 19) rfl)) (hw _ (List.mem_of_getElem? (i := 21) rfl)) (hw _ (List.mem_of_getElem? (i := 4) rfl)) (by decide) 0 [(.int q)] [] (own_at_2_0_1_0 l Z a0 hw [] w_NO_ANCHORS k_NO_ANCHORS h30 (own_F_ext F0 EX30_h0) h8 Fb o P O kP kO P1 P2 (0 : Int32) (0 : Int32) (0 : Int32) (0 : Int32) (0 : Int32) (0 : Int32) p3 p4 (0 : Int32) (0 : Int32) (0 : Int32) (0 : Int32) (0 : Int32) (0 : Int32) B30 q hc31 hc32 hc35) (by decide) (by decide) (by decide) (by decide) (own_Ob_E B30.1) (g := (mkF m 315 #[iv p1, iv p2, iv p3, iv p4, iv p5, iv p6, iv P1, iv P2, iv P3, iv (0 : Int32), iv (2 : Int32), iv q, rv b1, rv b5, rv o, iv (1 : Int32), iv (0 : Int32), iv (1 : Int32), iv (1 : Int32), iv (-1 : Int32), iv (1 : Int32), .unset, .unset, .unset] [(.int q), (.ref o)])) rfl (by rw [hml]; rfl) (lenOf pd_3 rfl) rfl (by show 2 * 0 + _ ≤ _; exact Nat.le_of_eq rfl) (hb hby at_315)
              have X38 := Y38a.forget (fun y hy => Nat.le_trans hsz (N38 y hy))
              obtain ⟨h38, e38⟩ : ∃ y, T38.heap = y := ⟨_, rfl⟩
              rw [e38] at B38
              have EX38_h0 : Ext h0 h38 := own_extE EX8_h0 (own_Ob_X B38.1)
              have EX38_h4 : Ext h4 h38 := own_extE EX8_h4 (own_Ob_X B38.1)
              have EX38_h8 : Ext h8 h38 := own_Ob_X B38.1
              refine own_pre (T' := T38) (f' := (mkF m 318 #[iv p1, iv p2, iv p3, iv p4, iv p5, iv p6, iv P1, iv P2, iv P3, iv (0 : Int32), iv (2 : Int32), iv q, rv b1, rv b5, rv o, iv (1 : Int32), iv (0 : Int32), iv (1 : Int32), iv (1 : Int32), iv (-1 : Int32), iv (1 : Int32), .unset, .unset, .unset] [(.int (-1 : Int32))])) (fun t k => st38 t k) ?_
              refine own_pre (T' := T38) (f' := (mkF m 320 #[iv p1, iv p2, iv p3, iv p4, iv p5, iv p6, iv P1, iv P2, iv P3, iv (0 : Int32), iv (2 : Int32), iv q, rv b1, rv b5, rv o, iv (1 : Int32), iv (0 : Int32), iv (1 : Int32), iv (1 : Int32), iv (-1 : Int32), iv (1 : Int32), iv (-1 : Int32), .unset, .unset] [])) (fun t k => XS.istore X38.here hx rfl (hb hby at_318) rfl (l' := #[iv p1, iv p2, iv p3, iv p4, iv p5, iv p6, iv P1, iv P2, iv P3, iv (0 : Int32), iv (2 : Int32), iv q, rv b1, rv b5, rv o, iv (1 : Int32), iv (0 : Int32), iv (1 : Int32), iv (1 : Int32), iv (-1 : Int32), iv (1 : Int32), iv (-1 : Int32), .unset, .unset]) rfl k) ?_
              refine oA2 X38 hx (hb hby at_320) (pc' := 322) rfl rfl rfl ?_
              obtain ⟨T39, X39, e39, st39⟩ := own_pure (f := 0) (n := 0) (v := (some (.int P2))) (own_callV X38 hx hZ e38 (y := (⟨"com/example/orthonorm/orthonorm/sanskrit/Anchors", "nextPlace", "()I"⟩ : MethodName)) hown (hw _ (List.mem_of_getElem? (i := 26) rfl)) (hw _ (List.mem_of_getElem? (i := 27) rfl)) (hw _ (List.mem_of_getElem? (i := 29) rfl)) (hw _ (List.mem_of_getElem? (i := 28) rfl)) (hw _ (List.mem_of_getElem? (i := 30) rfl)) (hw _ (List.mem_of_getElem? (i := 4) rfl)) (by decide) 0 [] [] (own_next_2_1 l Z a0 hw [] w_NO_ANCHORS k_NO_ANCHORS h38 (own_F_ext F0 EX38_h0) h8 Fb o P O kP kO P1 P2 (0 : Int32) (0 : Int32) (0 : Int32) (0 : Int32) (0 : Int32) (0 : Int32) p3 p4 (0 : Int32) (0 : Int32) (0 : Int32) (0 : Int32) (0 : Int32) (0 : Int32) B38) (by decide) (by decide) (by decide) (by decide) (own_Ob_E B38.1) (g := (mkF m 322 #[iv p1, iv p2, iv p3, iv p4, iv p5, iv p6, iv P1, iv P2, iv P3, iv (0 : Int32), iv (2 : Int32), iv q, rv b1, rv b5, rv o, iv (1 : Int32), iv (0 : Int32), iv (1 : Int32), iv (1 : Int32), iv (-1 : Int32), iv (1 : Int32), iv (-1 : Int32), .unset, .unset] [(.ref o)])) rfl (by rw [hml]; rfl) (lenOf pd_4 rfl) rfl (by show 2 * 0 + _ ≤ _; exact Nat.le_of_eq rfl) (hb hby at_322))
              refine own_pre (T' := T39) (f' := (mkF m 325 #[iv p1, iv p2, iv p3, iv p4, iv p5, iv p6, iv P1, iv P2, iv P3, iv (0 : Int32), iv (2 : Int32), iv q, rv b1, rv b5, rv o, iv (1 : Int32), iv (0 : Int32), iv (1 : Int32), iv (1 : Int32), iv (-1 : Int32), iv (1 : Int32), iv (-1 : Int32), .unset, .unset] [(.int P2)])) (fun t k => st39 t k) ?_
              refine own_pre (T' := T39) (f' := (mkF m 327 #[iv p1, iv p2, iv p3, iv p4, iv p5, iv p6, iv P1, iv P2, iv P3, iv (0 : Int32), iv (2 : Int32), iv q, rv b1, rv b5, rv o, iv (1 : Int32), iv (0 : Int32), iv (1 : Int32), iv (1 : Int32), iv (-1 : Int32), iv (1 : Int32), iv (-1 : Int32), iv P2, .unset] [])) (fun t k => XS.istore X39.here hx rfl (hb hby at_325) rfl (l' := #[iv p1, iv p2, iv p3, iv p4, iv p5, iv p6, iv P1, iv P2, iv P3, iv (0 : Int32), iv (2 : Int32), iv q, rv b1, rv b5, rv o, iv (1 : Int32), iv (0 : Int32), iv (1 : Int32), iv (1 : Int32), iv (-1 : Int32), iv (1 : Int32), iv (-1 : Int32), iv P2, .unset]) rfl k) ?_
              refine oI2 X39 hx (hb hby at_327) (pc' := 329) rfl rfl ?_
              refine oI2 X39 hx (hb hby at_329) (pc' := 331) rfl rfl ?_
              refine oN X39 hx (hb hby at_331) (pc' := 334) rfl (tlt (by decide : (1 : Int32) < (2 : Int32))).2.1 ?_
              refine oA2 X39 hx (hb hby at_334) (pc' := 336) rfl rfl rfl ?_
              refine oI2 X39 hx (hb hby at_336) (pc' := 338) rfl rfl ?_
              refine own_pre (T' := T39) (f' := (mkF m 339 #[iv p1, iv p2, iv p3, iv p4, iv p5, iv p6, iv P1, iv P2, iv P3, iv (0 : Int32), iv (2 : Int32), iv q, rv b1, rv b5, rv o, iv (1 : Int32), iv (0 : Int32), iv (1 : Int32), iv (1 : Int32), iv (-1 : Int32), iv (1 : Int32), iv (-1 : Int32), iv P2, .unset] [(.int P2)])) (fun t k => own_ldI X39 hx hZ e39 (V4.ext EX38_h4) (by decide) rfl (g := (mkF m 338 #[iv p1, iv p2, iv p3, iv p4, iv p5, iv p6, iv P1, iv P2, iv P3, iv (0 : Int32), iv (2 : Int32), iv q, rv b1, rv b5, rv o, iv (1 : Int32), iv (0 : Int32), iv (1 : Int32), iv (1 : Int32), iv (-1 : Int32), iv (1 : Int32), iv (-1 : Int32), iv P2, .unset] [(.int (1 : Int32)), (.ref b1)])) rfl rfl (hb hby at_338) t k) ?_
              refine oG X39 hx (hb hby at_339) (pc' := 344) (by decide) (by decide) ?_
              refine own_pre (T' := T39) (f' := (mkF m 346 #[iv p1, iv p2, iv p3, iv p4, iv p5, iv p6, iv P1, iv P2, iv P3, iv (0 : Int32), iv (2 : Int32), iv q, rv b1, rv b5, rv o, iv (1 : Int32), iv (0 : Int32), iv (1 : Int32), iv (1 : Int32), iv (-1 : Int32), iv (1 : Int32), iv (-1 : Int32), iv P2, iv P2] [])) (fun t k => XS.istore X39.here hx rfl (hb hby at_344) rfl (l' := #[iv p1, iv p2, iv p3, iv p4, iv p5, iv p6, iv P1, iv P2, iv P3, iv (0 : Int32), iv (2 : Int32), iv q, rv b1, rv b5, rv o, iv (1 : Int32), iv (0 : Int32), iv (1 : Int32), iv (1 : Int32), iv (-1 : Int32), iv (1 : Int32), iv (-1 : Int32), iv P2, iv P2]) rfl k) ?_
              refine oI2 X39 hx (hb hby at_346) (pc' := 348) rfl rfl ?_
              refine oN0 X39 hx (hb hby at_348) (pc' := 351) rfl ((if0 _ _).trans (feq (by decide : ¬ ((1 : Int32) = (0 : Int32)))).1) ?_
              refine oI2 X39 hx (hb hby at_351) (pc' := 353) rfl rfl ?_
              refine oI2 X39 hx (hb hby at_353) (pc' := 355) rfl rfl ?_
              refine oN X39 hx (hb hby at_355) (pc' := 358) rfl (teq (by decide : (-1 : Int32) = (-1 : Int32))).2 ?_
              refine oI2 X39 hx (hb hby at_358) (pc' := 360) rfl rfl ?_
              refine oI2 X39 hx (hb hby at_360) (pc' := 362) rfl rfl ?_
              refine oN X39 hx (hb hby at_362) (pc' := 365) rfl (teq (rfl : P2 = P2)).2 ?_
              refine oC X39 hx (1 : Int32) (hb hby at_365) (pc' := 366) rfl rfl ?_
              refine oG X39 hx (hb hby at_366) (pc' := 370) (by decide) (by decide) ?_
              refine own_pre (T' := T39) (f' := (mkF m 372 #[iv p1, iv p2, iv p3, iv p4, iv p5, iv p6, iv P1, iv P2, iv P3, iv (0 : Int32), iv (2 : Int32), iv q, rv b1, rv b5, rv o, iv (1 : Int32), iv (0 : Int32), iv (1 : Int32), iv (1 : Int32), iv (-1 : Int32), iv (1 : Int32), iv (-1 : Int32), iv P2, iv P2] [])) (fun t k => XS.istore X39.here hx rfl (hb hby at_370) rfl (l' := #[iv p1, iv p2, iv p3, iv p4, iv p5, iv p6, iv P1, iv P2, iv P3, iv (0 : Int32), iv (2 : Int32), iv q, rv b1, rv b5, rv o, iv (1 : Int32), iv (0 : Int32), iv (1 : Int32), iv (1 : Int32), iv (-1 : Int32), iv (1 : Int32), iv (-1 : Int32), iv P2, iv P2]) rfl k) ?_
              refine oI2 X39 hx (hb hby at_372) (pc' := 374) rfl rfl ?_
              refine oI2 X39 hx (hb hby at_374) (pc' := 376) rfl rfl ?_
              refine oN X39 hx (hb hby at_376) (pc' := 379) rfl (tlt (by decide : (1 : Int32) < (2 : Int32))).2.1 ?_
              refine oI2 X39 hx (hb hby at_379) (pc' := 381) rfl rfl ?_
              refine oN0 X39 hx (hb hby at_381) (pc' := 384) rfl ((if0 _ _).trans (feq (by decide : ¬ ((1 : Int32) = (0 : Int32)))).1) ?_
              refine oA2 X39 hx (hb hby at_384) (pc' := 386) rfl rfl rfl ?_
              obtain ⟨T40, L40, v40, Y40a, ⟨rfl, N40, B40⟩, st40⟩ := own_callV X39 hx hZ e39 (y := (⟨"com/example/orthonorm/orthonorm/sanskrit/Anchors", "take", "()I"⟩ : MethodName)) hown (hw _ (List.mem_of_getElem? (i := 53) rfl)) (hw _ (List.mem_of_getElem? (i := 54) rfl)) (hw _ (List.mem_of_getElem? (i := 56) rfl)) (hw _ (List.mem_of_getElem? (i := 55) rfl)) (hw _ (List.mem_of_getElem? (i := 57) rfl)) (hw _ (List.mem_of_getElem? (i := 4) rfl)) (by decide) 0 [] [] (own_take_1 l Z a0 hw [] w_NO_ANCHORS k_NO_ANCHORS h38 (own_F_ext F0 EX38_h0) h8 Fb o P O kP kO P1 P2 (0 : Int32) (0 : Int32) (0 : Int32) (0 : Int32) (0 : Int32) (0 : Int32) p3 p4 (0 : Int32) (0 : Int32) (0 : Int32) (0 : Int32) (0 : Int32) (0 : Int32) (2 : Int32) B38) (by decide) (by decide) (by decide) (by decide) (own_Ob_E B38.1) (g := (mkF m 386 #[iv p1, iv p2, iv p3, iv p4, iv p5, iv p6, iv P1, iv P2, iv P3, iv (0 : Int32), iv (2 : Int32), iv q, rv b1, rv b5, rv o, iv (1 : Int32), iv (0 : Int32), iv (1 : Int32), iv (1 : Int32), iv (-1 : Int32), iv (1 : Int32), iv (-1 : Int32), iv P2, iv P2] [(.ref o)])) rfl (by rw [hml]; rfl) (lenOf pd_4 rfl) rfl (by show 2 * 0 + _ ≤ _; exact Nat.le_of_eq rfl) (hb hby at_386)
              have X40 := Y40a.forget (fun y hy => Nat.le_trans hsz (N40 y hy))
              obtain ⟨h40, e40⟩ : ∃ y, T40.heap = y := ⟨_, rfl⟩
              rw [e40] at B40
              have EX40_h0 : Ext h0 h40 := own_extE EX8_h0 (own_Ob_X B40.1)
              have EX40_h4 : Ext h4 h40 := own_extE EX8_h4 (own_Ob_X B40.1)
              have EX40_h8 : Ext h8 h40 := own_Ob_X B40.1
              refine own_pre (T' := T40) (f' := (mkF m 389 #[iv p1, iv p2, iv p3, iv p4, iv p5, iv p6, iv P1, iv P2, iv P3, iv (0 : Int32), iv (2 : Int32), iv q, rv b1, rv b5, rv o, iv (1 : Int32), iv (0 : Int32), iv (1 : Int32), iv (1 : Int32), iv (-1 : Int32), iv (1 : Int32), iv (-1 : Int32), iv P2, iv P2] [(.int p4)])) (fun t k => st40 t k) ?_
              refine oA2 X40 hx (hb hby at_389) (pc' := 391) rfl rfl rfl ?_
              refine oI2 X40 hx (hb hby at_391) (pc' := 393) rfl rfl ?_
              refine own_pre (T' := T40) (f' := (mkF m 394 #[iv p1, iv p2, iv p3, iv p4, iv p5, iv p6, iv P1, iv P2, iv P3, iv (0 : Int32), iv (2 : Int32), iv q, rv b1, rv b5, rv o, iv (1 : Int32), iv (0 : Int32), iv (1 : Int32), iv (1 : Int32), iv (-1 : Int32), iv (1 : Int32), iv (-1 : Int32), iv P2, iv P2] [(.int p4), (.int p4)])) (fun t k => own_ldI X40 hx hZ e40 (V8.ext EX40_h8) (by decide) rfl (g := (mkF m 393 #[iv p1, iv p2, iv p3, iv p4, iv p5, iv p6, iv P1, iv P2, iv P3, iv (0 : Int32), iv (2 : Int32), iv q, rv b1, rv b5, rv o, iv (1 : Int32), iv (0 : Int32), iv (1 : Int32), iv (1 : Int32), iv (-1 : Int32), iv (1 : Int32), iv (-1 : Int32), iv P2, iv P2] [(.int (1 : Int32)), (.ref b5), (.int p4)])) rfl rfl (hb hby at_393) t k) ?_
              refine oN X40 hx (hb hby at_394) (pc' := 397) rfl (teq (rfl : p4 = p4)).2 ?_
              refine oC X40 hx (1 : Int32) (hb hby at_397) (pc' := 398) rfl rfl ?_
              refine oG X40 hx (hb hby at_398) (pc' := 402) (by decide) (by decide) ?_
              refine own_pre (T' := T40) (f' := (mkF m 404 #[iv p1, iv p2, iv p3, iv p4, iv p5, iv p6, iv P1, iv P2, iv P3, iv (0 : Int32), iv (2 : Int32), iv q, rv b1, rv b5, rv o, iv (1 : Int32), iv (0 : Int32), iv (1 : Int32), iv (1 : Int32), iv (-1 : Int32), iv (1 : Int32), iv (-1 : Int32), iv P2, iv P2] [])) (fun t k => XS.istore X40.here hx rfl (hb hby at_402) rfl (l' := #[iv p1, iv p2, iv p3, iv p4, iv p5, iv p6, iv P1, iv P2, iv P3, iv (0 : Int32), iv (2 : Int32), iv q, rv b1, rv b5, rv o, iv (1 : Int32), iv (0 : Int32), iv (1 : Int32), iv (1 : Int32), iv (-1 : Int32), iv (1 : Int32), iv (-1 : Int32), iv P2, iv P2]) rfl k) ?_
              refine oI2 X40 hx (hb hby at_404) (pc' := 406) rfl rfl ?_
              exact own_retZ X40 hx hlk hret (hb hby at_406) rfl (⟨rfl, Fr.nil _⟩) (by decide) (by decide)
        · refine oY X30 hx (hb hby at_220) (pc' := 226) (flt hc31).2.1 (by decide) (by decide) ?_
          refine oI2 X30 hx (hb hby at_226) (pc' := 228) rfl rfl ?_
          refine oC X30 hx (1 : Int32) (hb hby at_228) (pc' := 229) rfl rfl ?_
          refine oN X30 hx (hb hby at_229) (pc' := 232) rfl (flt (by decide : ¬ ((1 : Int32) < (0 : Int32)))).2.2.1 ?_
          refine oC X30 hx (1 : Int32) (hb hby at_232) (pc' := 233) rfl rfl ?_
          refine oI2 X30 hx (hb hby at_233) (pc' := 235) rfl rfl ?_
          refine oN X30 hx (hb hby at_235) (pc' := 238) rfl (tlt (by decide : (1 : Int32) < (2 : Int32))).2.1 ?_
          refine oI2 X30 hx (hb hby at_238) (pc' := 240) rfl rfl ?_
          refine oI2 X30 hx (hb hby at_240) (pc' := 242) rfl rfl ?_
          refine oY X30 hx (hb hby at_242) (pc' := 248) (flt (own_nl hP12 hc31)).2.1 (by decide) (by decide) ?_
          refine oC X30 hx (2 : Int32) (hb hby at_248) (pc' := 249) rfl rfl ?_
          refine oI2 X30 hx (hb hby at_249) (pc' := 251) rfl rfl ?_
          refine oY X30 hx (hb hby at_251) (pc' := 264) (flt (by decide : ¬ ((2 : Int32) < (2 : Int32)))).2.1 (by decide) (by decide) ?_
          refine oI2 X30 hx (hb hby at_264) (pc' := 266) rfl rfl ?_
          refine oI2 X30 hx (hb hby at_266) (pc' := 268) rfl rfl ?_
          refine own_pre (T' := T30) (f' := (mkF m 269 #[iv p1, iv p2, iv p3, iv p4, iv p5, iv p6, iv P1, iv P2, iv P3, iv (0 : Int32), iv (2 : Int32), iv q, rv b1, rv b5, rv o, iv (1 : Int32), iv (0 : Int32), iv (0 : Int32), .unset, .unset, .unset, .unset, .unset, .unset] [(.int ((0 : Int32) + (0 : Int32)))])) (fun t k => XS.iadd X30.here hx rfl (hb hby at_268) rfl k) ?_
          rw [show ((0 : Int32) + (0 : Int32)) = (0 : Int32) from by decide]
          refine own_pre (T' := T30) (f' := (mkF m 271 #[iv p1, iv p2, iv p3, iv p4, iv p5, iv p6, iv P1, iv P2, iv P3, iv (0 : Int32), iv (2 : Int32), iv q, rv b1, rv b5, rv o, iv (1 : Int32), iv (0 : Int32), iv (0 : Int32), iv (0 : Int32), .unset, .unset, .unset, .unset, .unset] [])) (fun t k => XS.istore X30.here hx rfl (hb hby at_269) rfl (l' := #[iv p1, iv p2, iv p3, iv p4, iv p5, iv p6, iv P1, iv P2, iv P3, iv (0 : Int32), iv (2 : Int32), iv q, rv b1, rv b5, rv o, iv (1 : Int32), iv (0 : Int32), iv (0 : Int32), iv (0 : Int32), .unset, .unset, .unset, .unset, .unset]) rfl k) ?_
          refine oI2 X30 hx (hb hby at_271) (pc' := 273) rfl rfl ?_
          refine oI2 X30 hx (hb hby at_273) (pc' := 275) rfl rfl ?_
          refine oN X30 hx (hb hby at_275) (pc' := 278) rfl (tlt (by decide : (0 : Int32) < (2 : Int32))).2.1 ?_
          refine oA2 X30 hx (hb hby at_278) (pc' := 280) rfl rfl rfl ?_
          refine oI2 X30 hx (hb hby at_280) (pc' := 282) rfl rfl ?_
          refine own_pre (T' := T30) (f' := (mkF m 283 #[iv p1, iv p2, iv p3, iv p4, iv p5, iv p6, iv P1, iv P2, iv P3, iv (0 : Int32), iv (2 : Int32), iv q, rv b1, rv b5, rv o, iv (1 : Int32), iv (0 : Int32), iv (0 : Int32), iv (0 : Int32), .unset, .unset, .unset, .unset, .unset] [(.int P1)])) (fun t k => own_ldI X30 hx hZ e30 (V4.ext EX30_h4) (by decide) rfl (g := (mkF m 282 #[iv p1, iv p2, iv p3, iv p4, iv p5, iv p6, iv P1, iv P2, iv P3, iv (0 : Int32), iv (2 : Int32), iv q, rv b1, rv b5, rv o, iv (1 : Int32), iv (0 : Int32), iv (0 : Int32), iv (0 : Int32), .unset, .unset, .unset, .unset, .unset] [(.int (0 : Int32)), (.ref b1)])) rfl rfl (hb hby at_282) t k) ?_
          refine oI2 X30 hx (hb hby at_283) (pc' := 285) rfl rfl ?_
          by_cases hc41 : P1 = q
          · refine oN X30 hx (hb hby at_285) (pc' := 288) rfl (teq hc41).2 ?_
            refine oA2 X30 hx (hb hby at_288) (pc' := 290) rfl rfl rfl ?_
            refine oI2 X30 hx (hb hby at_290) (pc' := 292) rfl rfl ?_
            refine own_pre (T' := T30) (f' := (mkF m 293 #[iv p1, iv p2, iv p3, iv p4, iv p5, iv p6, iv P1, iv P2, iv P3, iv (0 : Int32), iv (2 : Int32), iv q, rv b1, rv b5, rv o, iv (1 : Int32), iv (0 : Int32), iv (0 : Int32), iv (0 : Int32), .unset, .unset, .unset, .unset, .unset] [(.int p3)])) (fun t k => own_ldI X30 hx hZ e30 (V8.ext EX30_h8) (by decide) rfl (g := (mkF m 292 #[iv p1, iv p2, iv p3, iv p4, iv p5, iv p6, iv P1, iv P2, iv P3, iv (0 : Int32), iv (2 : Int32), iv q, rv b1, rv b5, rv o, iv (1 : Int32), iv (0 : Int32), iv (0 : Int32), iv (0 : Int32), .unset, .unset, .unset, .unset, .unset] [(.int (0 : Int32)), (.ref b5)])) rfl rfl (hb hby at_292) t k) ?_
            refine own_pre (T' := T30) (f' := (mkF m 295 #[iv p1, iv p2, iv p3, iv p4, iv p5, iv p6, iv P1, iv P2, iv P3, iv (0 : Int32), iv (2 : Int32), iv q, rv b1, rv b5, rv o, iv (1 : Int32), iv (0 : Int32), iv (0 : Int32), iv (0 : Int32), iv p3, .unset, .unset, .unset, .unset] [])) (fun t k => XS.istore X30.here hx rfl (hb hby at_293) rfl (l' := #[iv p1, iv p2, iv p3, iv p4, iv p5, iv p6, iv P1, iv P2, iv P3, iv (0 : Int32), iv (2 : Int32), iv q, rv b1, rv b5, rv o, iv (1 : Int32), iv (0 : Int32), iv (0 : Int32), iv (0 : Int32), iv p3, .unset, .unset, .unset, .unset]) rfl k) ?_
            refine oI2 X30 hx (hb hby at_295) (pc' := 297) rfl rfl ?_
            refine oC X30 hx (1 : Int32) (hb hby at_297) (pc' := 298) rfl rfl ?_
            refine own_pre (T' := T30) (f' := (mkF m 299 #[iv p1, iv p2, iv p3, iv p4, iv p5, iv p6, iv P1, iv P2, iv P3, iv (0 : Int32), iv (2 : Int32), iv q, rv b1, rv b5, rv o, iv (1 : Int32), iv (0 : Int32), iv (0 : Int32), iv (0 : Int32), iv p3, .unset, .unset, .unset, .unset] [(.int ((0 : Int32) + (1 : Int32)))])) (fun t k => XS.iadd X30.here hx rfl (hb hby at_298) rfl k) ?_
            rw [show ((0 : Int32) + (1 : Int32)) = (1 : Int32) from by decide]
            refine own_pre (T' := T30) (f' := (mkF m 301 #[iv p1, iv p2, iv p3, iv p4, iv p5, iv p6, iv P1, iv P2, iv P3, iv (0 : Int32), iv (2 : Int32), iv q, rv b1, rv b5, rv o, iv (1 : Int32), iv (0 : Int32), iv (0 : Int32), iv (0 : Int32), iv p3, iv (1 : Int32), .unset, .unset, .unset] [])) (fun t k => XS.istore X30.here hx rfl (hb hby at_299) rfl (l' := #[iv p1, iv p2, iv p3, iv p4, iv p5, iv p6, iv P1, iv P2, iv P3, iv (0 : Int32), iv (2 : Int32), iv q, rv b1, rv b5, rv o, iv (1 : Int32), iv (0 : Int32), iv (0 : Int32), iv (0 : Int32), iv p3, iv (1 : Int32), .unset, .unset, .unset]) rfl k) ?_
            refine oG X30 hx (hb hby at_301) (pc' := 311) (by decide) (by decide) ?_
            refine oA2 X30 hx (hb hby at_311) (pc' := 313) rfl rfl rfl ?_
            refine oI2 X30 hx (hb hby at_313) (pc' := 315) rfl rfl ?_
            obtain ⟨T42, L42, v42, Y42a, ⟨rfl, N42, B42⟩, st42⟩ := own_callV X30 hx hZ e30 (y := (⟨"com/example/orthonorm/orthonorm/sanskrit/Anchors", "takeAt", "(I)I"⟩ : MethodName)) hown (hw _ (List.mem_of_getElem? (i := 17) rfl)) (hw _ (List.mem_of_getElem? (i := 18) rfl)) (hw _ (List.mem_of_getElem? (i := 20) rfl)) (hw _ (List.mem_of_getElem? (i := 19) rfl)) (hw _ (List.mem_of_getElem? (i := 21) rfl)) (hw _ (List.mem_of_getElem? (i := 4) rfl)) (by decide) 0 [(.int q)] [] (own_at_2_0_0_1 l Z a0 hw [] w_NO_ANCHORS k_NO_ANCHORS h30 (own_F_ext F0 EX30_h0) h8 Fb o P O kP kO P1 P2 (0 : Int32) (0 : Int32) (0 : Int32) (0 : Int32) (0 : Int32) (0 : Int32) p3 p4 (0 : Int32) (0 : Int32) (0 : Int32) (0 : Int32) (0 : Int32) (0 : Int32) B30 q hc31 hc41) (by decide) (by decide) (by decide) (by decide) (own_Ob_E B30.1) (g := (mkF m 315 #[iv p1, iv p2, iv p3, iv p4, iv p5, iv p6, iv P1, iv P2, iv P3, iv (0 : Int32), iv (2 : Int32), iv q, rv b1, rv b5, rv o, iv (1 : Int32), iv (0 : Int32), iv (0 : Int32), iv (0 : Int32), iv p3, iv (1 : Int32), .unset, .unset, .unset] [(.int q), (.ref o)])) rfl (by rw [hml]; rfl) (lenOf pd_3 rfl) rfl (by show 2 * 0 + _ ≤ _; exact Nat.le_of_eq rfl) (hb hby at_315)
            have X42 := Y42a.forget (fun y hy => Nat.le_trans hsz (N42 y hy))
            obtain ⟨h42, e42⟩ : ∃ y, T42.heap = y := ⟨_, rfl⟩
            rw [e42] at B42
            have EX42_h0 : Ext h0 h42 := own_extE EX8_h0 (own_Ob_X B42.1)
            have EX42_h4 : Ext h4 h42 := own_extE EX8_h4 (own_Ob_X B42.1)
            have EX42_h8 : Ext h8 h42 := own_Ob_X B42.1
            refine own_pre (T' := T42) (f' := (mkF m 318 #[iv p1, iv p2, iv p3, iv p4, iv p5, iv p6, iv P1, iv P2, iv P3, iv (0 : Int32), iv (2 : Int32), iv q, rv b1, rv b5, rv o, iv (1 : Int32), iv (0 : Int32), iv (0 : Int32), iv (0 : Int32), iv p3, iv (1 : Int32), .unset, .unset, .unset] [(.int p3)])) (fun t k => st42 t k) ?_
            refine own_pre (T' := T42) (f' := (mkF m 320 #[iv p1, iv p2, iv p3, iv p4, iv p5, iv p6, iv P1, iv P2, iv P3, iv (0 : Int32), iv (2 : Int32), iv q, rv b1, rv b5, rv o, iv (1 : Int32), iv (0 : Int32), iv (0 : Int32), iv (0 : Int32), iv p3, iv (1 : Int32), iv p3, .unset, .unset] [])) (fun t k => XS.istore X42.here hx rfl (hb hby at_318) rfl (l' := #[iv p1, iv p2, iv p3, iv p4, iv p5, iv p6, iv P1, iv P2, iv P3, iv (0 : Int32), iv (2 : Int32), iv q, rv b1, rv b5, rv o, iv (1 : Int32), iv (0 : Int32), iv (0 : Int32), iv (0 : Int32), iv p3, iv (1 : Int32), iv p3, .unset, .unset]) rfl k) ?_
            refine oA2 X42 hx (hb hby at_320) (pc' := 322) rfl rfl rfl ?_
            obtain ⟨T43, X43, e43, st43⟩ := own_pure (f := 0) (n := 0) (v := (some (.int P2))) (own_callV X42 hx hZ e42 (y := (⟨"com/example/orthonorm/orthonorm/sanskrit/Anchors", "nextPlace", "()I"⟩ : MethodName)) hown (hw _ (List.mem_of_getElem? (i := 26) rfl)) (hw _ (List.mem_of_getElem? (i := 27) rfl)) (hw _ (List.mem_of_getElem? (i := 29) rfl)) (hw _ (List.mem_of_getElem? (i := 28) rfl)) (hw _ (List.mem_of_getElem? (i := 30) rfl)) (hw _ (List.mem_of_getElem? (i := 4) rfl)) (by decide) 0 [] [] (own_next_2_1 l Z a0 hw [] w_NO_ANCHORS k_NO_ANCHORS h42 (own_F_ext F0 EX42_h0) h8 Fb o P O kP kO P1 P2 (0 : Int32) (0 : Int32) (0 : Int32) (0 : Int32) (0 : Int32) (0 : Int32) p3 p4 (0 : Int32) (0 : Int32) (0 : Int32) (0 : Int32) (0 : Int32) (0 : Int32) B42) (by decide) (by decide) (by decide) (by decide) (own_Ob_E B42.1) (g := (mkF m 322 #[iv p1, iv p2, iv p3, iv p4, iv p5, iv p6, iv P1, iv P2, iv P3, iv (0 : Int32), iv (2 : Int32), iv q, rv b1, rv b5, rv o, iv (1 : Int32), iv (0 : Int32), iv (0 : Int32), iv (0 : Int32), iv p3, iv (1 : Int32), iv p3, .unset, .unset] [(.ref o)])) rfl (by rw [hml]; rfl) (lenOf pd_4 rfl) rfl (by show 2 * 0 + _ ≤ _; exact Nat.le_of_eq rfl) (hb hby at_322))
            refine own_pre (T' := T43) (f' := (mkF m 325 #[iv p1, iv p2, iv p3, iv p4, iv p5, iv p6, iv P1, iv P2, iv P3, iv (0 : Int32), iv (2 : Int32), iv q, rv b1, rv b5, rv o, iv (1 : Int32), iv (0 : Int32), iv (0 : Int32), iv (0 : Int32), iv p3, iv (1 : Int32), iv p3, .unset, .unset] [(.int P2)])) (fun t k => st43 t k) ?_
            refine own_pre (T' := T43) (f' := (mkF m 327 #[iv p1, iv p2, iv p3, iv p4, iv p5, iv p6, iv P1, iv P2, iv P3, iv (0 : Int32), iv (2 : Int32), iv q, rv b1, rv b5, rv o, iv (1 : Int32), iv (0 : Int32), iv (0 : Int32), iv (0 : Int32), iv p3, iv (1 : Int32), iv p3, iv P2, .unset] [])) (fun t k => XS.istore X43.here hx rfl (hb hby at_325) rfl (l' := #[iv p1, iv p2, iv p3, iv p4, iv p5, iv p6, iv P1, iv P2, iv P3, iv (0 : Int32), iv (2 : Int32), iv q, rv b1, rv b5, rv o, iv (1 : Int32), iv (0 : Int32), iv (0 : Int32), iv (0 : Int32), iv p3, iv (1 : Int32), iv p3, iv P2, .unset]) rfl k) ?_
            refine oI2 X43 hx (hb hby at_327) (pc' := 329) rfl rfl ?_
            refine oI2 X43 hx (hb hby at_329) (pc' := 331) rfl rfl ?_
            refine oN X43 hx (hb hby at_331) (pc' := 334) rfl (tlt (by decide : (1 : Int32) < (2 : Int32))).2.1 ?_
            refine oA2 X43 hx (hb hby at_334) (pc' := 336) rfl rfl rfl ?_
            refine oI2 X43 hx (hb hby at_336) (pc' := 338) rfl rfl ?_
            refine own_pre (T' := T43) (f' := (mkF m 339 #[iv p1, iv p2, iv p3, iv p4, iv p5, iv p6, iv P1, iv P2, iv P3, iv (0 : Int32), iv (2 : Int32), iv q, rv b1, rv b5, rv o, iv (1 : Int32), iv (0 : Int32), iv (0 : Int32), iv (0 : Int32), iv p3, iv (1 : Int32), iv p3, iv P2, .unset] [(.int P2)])) (fun t k => own_ldI X43 hx hZ e43 (V4.ext EX42_h4) (by decide) rfl (g := (mkF m 338 #[iv p1, iv p2, iv p3, iv p4, iv p5, iv p6, iv P1, iv P2, iv P3, iv (0 : Int32), iv (2 : Int32), iv q, rv b1, rv b5, rv o, iv (1 : Int32), iv (0 : Int32), iv (0 : Int32), iv (0 : Int32), iv p3, iv (1 : Int32), iv p3, iv P2, .unset] [(.int (1 : Int32)), (.ref b1)])) rfl rfl (hb hby at_338) t k) ?_
            refine oG X43 hx (hb hby at_339) (pc' := 344) (by decide) (by decide) ?_
            refine own_pre (T' := T43) (f' := (mkF m 346 #[iv p1, iv p2, iv p3, iv p4, iv p5, iv p6, iv P1, iv P2, iv P3, iv (0 : Int32), iv (2 : Int32), iv q, rv b1, rv b5, rv o, iv (1 : Int32), iv (0 : Int32), iv (0 : Int32), iv (0 : Int32), iv p3, iv (1 : Int32), iv p3, iv P2, iv P2] [])) (fun t k => XS.istore X43.here hx rfl (hb hby at_344) rfl (l' := #[iv p1, iv p2, iv p3, iv p4, iv p5, iv p6, iv P1, iv P2, iv P3, iv (0 : Int32), iv (2 : Int32), iv q, rv b1, rv b5, rv o, iv (1 : Int32), iv (0 : Int32), iv (0 : Int32), iv (0 : Int32), iv p3, iv (1 : Int32), iv p3, iv P2, iv P2]) rfl k) ?_
            refine oI2 X43 hx (hb hby at_346) (pc' := 348) rfl rfl ?_
            refine oN0 X43 hx (hb hby at_348) (pc' := 351) rfl ((if0 _ _).trans (feq (by decide : ¬ ((1 : Int32) = (0 : Int32)))).1) ?_
            refine oI2 X43 hx (hb hby at_351) (pc' := 353) rfl rfl ?_
            refine oI2 X43 hx (hb hby at_353) (pc' := 355) rfl rfl ?_
            refine oN X43 hx (hb hby at_355) (pc' := 358) rfl (teq (rfl : p3 = p3)).2 ?_
            refine oI2 X43 hx (hb hby at_358) (pc' := 360) rfl rfl ?_
            refine oI2 X43 hx (hb hby at_360) (pc' := 362) rfl rfl ?_
            refine oN X43 hx (hb hby at_362) (pc' := 365) rfl (teq (rfl : P2 = P2)).2 ?_
            refine oC X43 hx (1 : Int32) (hb hby at_365) (pc' := 366) rfl rfl ?_
            refine oG X43 hx (hb hby at_366) (pc' := 370) (by decide) (by decide) ?_
            refine own_pre (T' := T43) (f' := (mkF m 372 #[iv p1, iv p2, iv p3, iv p4, iv p5, iv p6, iv P1, iv P2, iv P3, iv (0 : Int32), iv (2 : Int32), iv q, rv b1, rv b5, rv o, iv (1 : Int32), iv (0 : Int32), iv (0 : Int32), iv (0 : Int32), iv p3, iv (1 : Int32), iv p3, iv P2, iv P2] [])) (fun t k => XS.istore X43.here hx rfl (hb hby at_370) rfl (l' := #[iv p1, iv p2, iv p3, iv p4, iv p5, iv p6, iv P1, iv P2, iv P3, iv (0 : Int32), iv (2 : Int32), iv q, rv b1, rv b5, rv o, iv (1 : Int32), iv (0 : Int32), iv (0 : Int32), iv (0 : Int32), iv p3, iv (1 : Int32), iv p3, iv P2, iv P2]) rfl k) ?_
            refine oI2 X43 hx (hb hby at_372) (pc' := 374) rfl rfl ?_
            refine oI2 X43 hx (hb hby at_374) (pc' := 376) rfl rfl ?_
            refine oN X43 hx (hb hby at_376) (pc' := 379) rfl (tlt (by decide : (1 : Int32) < (2 : Int32))).2.1 ?_
            refine oI2 X43 hx (hb hby at_379) (pc' := 381) rfl rfl ?_
            refine oN0 X43 hx (hb hby at_381) (pc' := 384) rfl ((if0 _ _).trans (feq (by decide : ¬ ((1 : Int32) = (0 : Int32)))).1) ?_
            refine oA2 X43 hx (hb hby at_384) (pc' := 386) rfl rfl rfl ?_
            obtain ⟨T44, L44, v44, Y44a, ⟨rfl, N44, B44⟩, st44⟩ := own_callV X43 hx hZ e43 (y := (⟨"com/example/orthonorm/orthonorm/sanskrit/Anchors", "take", "()I"⟩ : MethodName)) hown (hw _ (List.mem_of_getElem? (i := 53) rfl)) (hw _ (List.mem_of_getElem? (i := 54) rfl)) (hw _ (List.mem_of_getElem? (i := 56) rfl)) (hw _ (List.mem_of_getElem? (i := 55) rfl)) (hw _ (List.mem_of_getElem? (i := 57) rfl)) (hw _ (List.mem_of_getElem? (i := 4) rfl)) (by decide) 0 [] [] (own_take_1 l Z a0 hw [] w_NO_ANCHORS k_NO_ANCHORS h42 (own_F_ext F0 EX42_h0) h8 Fb o P O kP kO P1 P2 (0 : Int32) (0 : Int32) (0 : Int32) (0 : Int32) (0 : Int32) (0 : Int32) p3 p4 (0 : Int32) (0 : Int32) (0 : Int32) (0 : Int32) (0 : Int32) (0 : Int32) (2 : Int32) B42) (by decide) (by decide) (by decide) (by decide) (own_Ob_E B42.1) (g := (mkF m 386 #[iv p1, iv p2, iv p3, iv p4, iv p5, iv p6, iv P1, iv P2, iv P3, iv (0 : Int32), iv (2 : Int32), iv q, rv b1, rv b5, rv o, iv (1 : Int32), iv (0 : Int32), iv (0 : Int32), iv (0 : Int32), iv p3, iv (1 : Int32), iv p3, iv P2, iv P2] [(.ref o)])) rfl (by rw [hml]; rfl) (lenOf pd_4 rfl) rfl (by show 2 * 0 + _ ≤ _; exact Nat.le_of_eq rfl) (hb hby at_386)
            have X44 := Y44a.forget (fun y hy => Nat.le_trans hsz (N44 y hy))
            obtain ⟨h44, e44⟩ : ∃ y, T44.heap = y := ⟨_, rfl⟩
            rw [e44] at B44
            have EX44_h0 : Ext h0 h44 := own_extE EX8_h0 (own_Ob_X B44.1)
            have EX44_h4 : Ext h4 h44 := own_extE EX8_h4 (own_Ob_X B44.1)
            have EX44_h8 : Ext h8 h44 := own_Ob_X B44.1
            refine own_pre (T' := T44) (f' := (mkF m 389 #[iv p1, iv p2, iv p3, iv p4, iv p5, iv p6, iv P1, iv P2, iv P3, iv (0 : Int32), iv (2 : Int32), iv q, rv b1, rv b5, rv o, iv (1 : Int32), iv (0 : Int32), iv (0 : Int32), iv (0 : Int32), iv p3, iv (1 : Int32), iv p3, iv P2, iv P2] [(.int p4)])) (fun t k => st44 t k) ?_
            refine oA2 X44 hx (hb hby at_389) (pc' := 391) rfl rfl rfl ?_
            refine oI2 X44 hx (hb hby at_391) (pc' := 393) rfl rfl ?_
            refine own_pre (T' := T44) (f' := (mkF m 394 #[iv p1, iv p2, iv p3, iv p4, iv p5, iv p6, iv P1, iv P2, iv P3, iv (0 : Int32), iv (2 : Int32), iv q, rv b1, rv b5, rv o, iv (1 : Int32), iv (0 : Int32), iv (0 : Int32), iv (0 : Int32), iv p3, iv (1 : Int32), iv p3, iv P2, iv P2] [(.int p4), (.int p4)])) (fun t k => own_ldI X44 hx hZ e44 (V8.ext EX44_h8) (by decide) rfl (g := (mkF m 393 #[iv p1, iv p2, iv p3, iv p4, iv p5, iv p6, iv P1, iv P2, iv P3, iv (0 : Int32), iv (2 : Int32), iv q, rv b1, rv b5, rv o, iv (1 : Int32), iv (0 : Int32), iv (0 : Int32), iv (0 : Int32), iv p3, iv (1 : Int32), iv p3, iv P2, iv P2] [(.int (1 : Int32)), (.ref b5), (.int p4)])) rfl rfl (hb hby at_393) t k) ?_
            refine oN X44 hx (hb hby at_394) (pc' := 397) rfl (teq (rfl : p4 = p4)).2 ?_
            refine oC X44 hx (1 : Int32) (hb hby at_397) (pc' := 398) rfl rfl ?_
            refine oG X44 hx (hb hby at_398) (pc' := 402) (by decide) (by decide) ?_
            refine own_pre (T' := T44) (f' := (mkF m 404 #[iv p1, iv p2, iv p3, iv p4, iv p5, iv p6, iv P1, iv P2, iv P3, iv (0 : Int32), iv (2 : Int32), iv q, rv b1, rv b5, rv o, iv (1 : Int32), iv (0 : Int32), iv (0 : Int32), iv (0 : Int32), iv p3, iv (1 : Int32), iv p3, iv P2, iv P2] [])) (fun t k => XS.istore X44.here hx rfl (hb hby at_402) rfl (l' := #[iv p1, iv p2, iv p3, iv p4, iv p5, iv p6, iv P1, iv P2, iv P3, iv (0 : Int32), iv (2 : Int32), iv q, rv b1, rv b5, rv o, iv (1 : Int32), iv (0 : Int32), iv (0 : Int32), iv (0 : Int32), iv p3, iv (1 : Int32), iv p3, iv P2, iv P2]) rfl k) ?_
            refine oI2 X44 hx (hb hby at_404) (pc' := 406) rfl rfl ?_
            exact own_retZ X44 hx hlk hret (hb hby at_406) rfl (⟨rfl, Fr.nil _⟩) (by decide) (by decide)
          · refine oY X30 hx (hb hby at_285) (pc' := 304) (feq hc41).2 (by decide) (by decide) ?_
            refine oC X30 hx (-1 : Int32) (hb hby at_304) (pc' := 305) rfl rfl ?_
            refine own_pre (T' := T30) (f' := (mkF m 307 #[iv p1, iv p2, iv p3, iv p4, iv p5, iv p6, iv P1, iv P2, iv P3, iv (0 : Int32), iv (2 : Int32), iv q, rv b1, rv b5, rv o, iv (1 : Int32), iv (0 : Int32), iv (0 : Int32), iv (0 : Int32), iv (-1 : Int32), .unset, .unset, .unset, .unset] [])) (fun t k => XS.istore X30.here hx rfl (hb hby at_305) rfl (l' := #[iv p1, iv p2, iv p3, iv p4, iv p5, iv p6, iv P1, iv P2, iv P3, iv (0 : Int32), iv (2 : Int32), iv q, rv b1, rv b5, rv o, iv (1 : Int32), iv (0 : Int32), iv (0 : Int32), iv (0 : Int32), iv (-1 : Int32), .unset, .unset, .unset, .unset]) rfl k) ?_
            refine oI2 X30 hx (hb hby at_307) (pc' := 309) rfl rfl ?_
            refine own_pre (T' := T30) (f' := (mkF m 311 #[iv p1, iv p2, iv p3, iv p4, iv p5, iv p6, iv P1, iv P2, iv P3, iv (0 : Int32), iv (2 : Int32), iv q, rv b1, rv b5, rv o, iv (1 : Int32), iv (0 : Int32), iv (0 : Int32), iv (0 : Int32), iv (-1 : Int32), iv (0 : Int32), .unset, .unset, .unset] [])) (fun t k => XS.istore X30.here hx rfl (hb hby at_309) rfl (l' := #[iv p1, iv p2, iv p3, iv p4, iv p5, iv p6, iv P1, iv P2, iv P3, iv (0 : Int32), iv (2 : Int32), iv q, rv b1, rv b5, rv o, iv (1 : Int32), iv (0 : Int32), iv (0 : Int32), iv (0 : Int32), iv (-1 : Int32), iv (0 : Int32), .unset, .unset, .unset]) rfl k) ?_
            refine oA2 X30 hx (hb hby at_311) (pc' := 313) rfl rfl rfl ?_
            refine oI2 X30 hx (hb hby at_313) (pc' := 315) rfl rfl ?_
            obtain ⟨T45, X45, e45, st45⟩ := own_pure (f := 0) (n := 0) (v := (some (.int (-1 : Int32)))) (own_callV X30 hx hZ e30 (y := (⟨"com/example/orthonorm/orthonorm/sanskrit/Anchors", "takeAt", "(I)I"⟩ : MethodName)) hown (hw _ (List.mem_of_getElem? (i := 17) rfl)) (hw _ (List.mem_of_getElem? (i := 18) rfl)) (hw _ (List.mem_of_getElem? (i := 20) rfl)) (hw _ (List.mem_of_getElem? (i := 19) rfl)) (hw _ (List.mem_of_getElem? (i := 21) rfl)) (hw _ (List.mem_of_getElem? (i := 4) rfl)) (by decide) 0 [(.int q)] [] (own_at_2_0_0_0 l Z a0 hw [] w_NO_ANCHORS k_NO_ANCHORS h30 (own_F_ext F0 EX30_h0) h8 Fb o P O kP kO P1 P2 (0 : Int32) (0 : Int32) (0 : Int32) (0 : Int32) (0 : Int32) (0 : Int32) p3 p4 (0 : Int32) (0 : Int32) (0 : Int32) (0 : Int32) (0 : Int32) (0 : Int32) B30 q hc31 hc41) (by decide) (by decide) (by decide) (by decide) (own_Ob_E B30.1) (g := (mkF m 315 #[iv p1, iv p2, iv p3, iv p4, iv p5, iv p6, iv P1, iv P2, iv P3, iv (0 : Int32), iv (2 : Int32), iv q, rv b1, rv b5, rv o, iv (1 : Int32), iv (0 : Int32), iv (0 : Int32), iv (0 : Int32), iv (-1 : Int32), iv (0 : Int32), .unset, .unset, .unset] [(.int q), (.ref o)])) rfl (by rw [hml]; rfl) (lenOf pd_3 rfl) rfl (by show 2 * 0 + _ ≤ _; exact Nat.le_of_eq rfl) (hb hby at_315))
            refine own_pre (T' := T45) (f' := (mkF m 318 #[iv p1, iv p2, iv p3, iv p4, iv p5, iv p6, iv P1, iv P2, iv P3, iv (0 : Int32), iv (2 : Int32), iv q, rv b1, rv b5, rv o, iv (1 : Int32), iv (0 : Int32), iv (0 : Int32), iv (0 : Int32), iv (-1 : Int32), iv (0 : Int32), .unset, .unset, .unset] [(.int (-1 : Int32))])) (fun t k => st45 t k) ?_
            refine own_pre (T' := T45) (f' := (mkF m 320 #[iv p1, iv p2, iv p3, iv p4, iv p5, iv p6, iv P1, iv P2, iv P3, iv (0 : Int32), iv (2 : Int32), iv q, rv b1, rv b5, rv o, iv (1 : Int32), iv (0 : Int32), iv (0 : Int32), iv (0 : Int32), iv (-1 : Int32), iv (0 : Int32), iv (-1 : Int32), .unset, .unset] [])) (fun t k => XS.istore X45.here hx rfl (hb hby at_318) rfl (l' := #[iv p1, iv p2, iv p3, iv p4, iv p5, iv p6, iv P1, iv P2, iv P3, iv (0 : Int32), iv (2 : Int32), iv q, rv b1, rv b5, rv o, iv (1 : Int32), iv (0 : Int32), iv (0 : Int32), iv (0 : Int32), iv (-1 : Int32), iv (0 : Int32), iv (-1 : Int32), .unset, .unset]) rfl k) ?_
            refine oA2 X45 hx (hb hby at_320) (pc' := 322) rfl rfl rfl ?_
            obtain ⟨T46, X46, e46, st46⟩ := own_pure (f := 0) (n := 0) (v := (some (.int P1))) (own_callV X45 hx hZ e45 (y := (⟨"com/example/orthonorm/orthonorm/sanskrit/Anchors", "nextPlace", "()I"⟩ : MethodName)) hown (hw _ (List.mem_of_getElem? (i := 26) rfl)) (hw _ (List.mem_of_getElem? (i := 27) rfl)) (hw _ (List.mem_of_getElem? (i := 29) rfl)) (hw _ (List.mem_of_getElem? (i := 28) rfl)) (hw _ (List.mem_of_getElem? (i := 30) rfl)) (hw _ (List.mem_of_getElem? (i := 4) rfl)) (by decide) 0 [] [] (own_next_2_0 l Z a0 hw [] w_NO_ANCHORS k_NO_ANCHORS h30 (own_F_ext F0 EX30_h0) h8 Fb o P O kP kO P1 P2 (0 : Int32) (0 : Int32) (0 : Int32) (0 : Int32) (0 : Int32) (0 : Int32) p3 p4 (0 : Int32) (0 : Int32) (0 : Int32) (0 : Int32) (0 : Int32) (0 : Int32) B30) (by decide) (by decide) (by decide) (by decide) (own_Ob_E B30.1) (g := (mkF m 322 #[iv p1, iv p2, iv p3, iv p4, iv p5, iv p6, iv P1, iv P2, iv P3, iv (0 : Int32), iv (2 : Int32), iv q, rv b1, rv b5, rv o, iv (1 : Int32), iv (0 : Int32), iv (0 : Int32), iv (0 : Int32), iv (-1 : Int32), iv (0 : Int32), iv (-1 : Int32), .unset, .unset] [(.ref o)])) rfl (by rw [hml]; rfl) (lenOf pd_4 rfl) rfl (by show 2 * 0 + _ ≤ _; exact Nat.le_of_eq rfl) (hb hby at_322))
            refine own_pre (T' := T46) (f' := (mkF m 325 #[iv p1, iv p2, iv p3, iv p4, iv p5, iv p6, iv P1, iv P2, iv P3, iv (0 : Int32), iv (2 : Int32), iv q, rv b1, rv b5, rv o, iv (1 : Int32), iv (0 : Int32), iv (0 : Int32), iv (0 : Int32), iv (-1 : Int32), iv (0 : Int32), iv (-1 : Int32), .unset, .unset] [(.int P1)])) (fun t k => st46 t k) ?_
            refine own_pre (T' := T46) (f' := (mkF m 327 #[iv p1, iv p2, iv p3, iv p4, iv p5, iv p6, iv P1, iv P2, iv P3, iv (0 : Int32), iv (2 : Int32), iv q, rv b1, rv b5, rv o, iv (1 : Int32), iv (0 : Int32), iv (0 : Int32), iv (0 : Int32), iv (-1 : Int32), iv (0 : Int32), iv (-1 : Int32), iv P1, .unset] [])) (fun t k => XS.istore X46.here hx rfl (hb hby at_325) rfl (l' := #[iv p1, iv p2, iv p3, iv p4, iv p5, iv p6, iv P1, iv P2, iv P3, iv (0 : Int32), iv (2 : Int32), iv q, rv b1, rv b5, rv o, iv (1 : Int32), iv (0 : Int32), iv (0 : Int32), iv (0 : Int32), iv (-1 : Int32), iv (0 : Int32), iv (-1 : Int32), iv P1, .unset]) rfl k) ?_
            refine oI2 X46 hx (hb hby at_327) (pc' := 329) rfl rfl ?_
            refine oI2 X46 hx (hb hby at_329) (pc' := 331) rfl rfl ?_
            refine oN X46 hx (hb hby at_331) (pc' := 334) rfl (tlt (by decide : (0 : Int32) < (2 : Int32))).2.1 ?_
            refine oA2 X46 hx (hb hby at_334) (pc' := 336) rfl rfl rfl ?_
            refine oI2 X46 hx (hb hby at_336) (pc' := 338) rfl rfl ?_
            refine own_pre (T' := T46) (f' := (mkF m 339 #[iv p1, iv p2, iv p3, iv p4, iv p5, iv p6, iv P1, iv P2, iv P3, iv (0 : Int32), iv (2 : Int32), iv q, rv b1, rv b5, rv o, iv (1 : Int32), iv (0 : Int32), iv (0 : Int32), iv (0 : Int32), iv (-1 : Int32), iv (0 : Int32), iv (-1 : Int32), iv P1, .unset] [(.int P1)])) (fun t k => own_ldI X46 hx hZ e46 (V4.ext EX30_h4) (by decide) rfl (g := (mkF m 338 #[iv p1, iv p2, iv p3, iv p4, iv p5, iv p6, iv P1, iv P2, iv P3, iv (0 : Int32), iv (2 : Int32), iv q, rv b1, rv b5, rv o, iv (1 : Int32), iv (0 : Int32), iv (0 : Int32), iv (0 : Int32), iv (-1 : Int32), iv (0 : Int32), iv (-1 : Int32), iv P1, .unset] [(.int (0 : Int32)), (.ref b1)])) rfl rfl (hb hby at_338) t k) ?_
            refine oG X46 hx (hb hby at_339) (pc' := 344) (by decide) (by decide) ?_
            refine own_pre (T' := T46) (f' := (mkF m 346 #[iv p1, iv p2, iv p3, iv p4, iv p5, iv p6, iv P1, iv P2, iv P3, iv (0 : Int32), iv (2 : Int32), iv q, rv b1, rv b5, rv o, iv (1 : Int32), iv (0 : Int32), iv (0 : Int32), iv (0 : Int32), iv (-1 : Int32), iv (0 : Int32), iv (-1 : Int32), iv P1, iv P1] [])) (fun t k => XS.istore X46.here hx rfl (hb hby at_344) rfl (l' := #[iv p1, iv p2, iv p3, iv p4, iv p5, iv p6, iv P1, iv P2, iv P3, iv (0 : Int32), iv (2 : Int32), iv q, rv b1, rv b5, rv o, iv (1 : Int32), iv (0 : Int32), iv (0 : Int32), iv (0 : Int32), iv (-1 : Int32), iv (0 : Int32), iv (-1 : Int32), iv P1, iv P1]) rfl k) ?_
            refine oI2 X46 hx (hb hby at_346) (pc' := 348) rfl rfl ?_
            refine oN0 X46 hx (hb hby at_348) (pc' := 351) rfl ((if0 _ _).trans (feq (by decide : ¬ ((1 : Int32) = (0 : Int32)))).1) ?_
            refine oI2 X46 hx (hb hby at_351) (pc' := 353) rfl rfl ?_
            refine oI2 X46 hx (hb hby at_353) (pc' := 355) rfl rfl ?_
            refine oN X46 hx (hb hby at_355) (pc' := 358) rfl (teq (by decide : (-1 : Int32) = (-1 : Int32))).2 ?_
            refine oI2 X46 hx (hb hby at_358) (pc' := 360) rfl rfl ?_
            refine oI2 X46 hx (hb hby at_360) (pc' := 362) rfl rfl ?_
            refine oN X46 hx (hb hby at_362) (pc' := 365) rfl (teq (rfl : P1 = P1)).2 ?_
            refine oC X46 hx (1 : Int32) (hb hby at_365) (pc' := 366) rfl rfl ?_
            refine oG X46 hx (hb hby at_366) (pc' := 370) (by decide) (by decide) ?_
            refine own_pre (T' := T46) (f' := (mkF m 372 #[iv p1, iv p2, iv p3, iv p4, iv p5, iv p6, iv P1, iv P2, iv P3, iv (0 : Int32), iv (2 : Int32), iv q, rv b1, rv b5, rv o, iv (1 : Int32), iv (0 : Int32), iv (0 : Int32), iv (0 : Int32), iv (-1 : Int32), iv (0 : Int32), iv (-1 : Int32), iv P1, iv P1] [])) (fun t k => XS.istore X46.here hx rfl (hb hby at_370) rfl (l' := #[iv p1, iv p2, iv p3, iv p4, iv p5, iv p6, iv P1, iv P2, iv P3, iv (0 : Int32), iv (2 : Int32), iv q, rv b1, rv b5, rv o, iv (1 : Int32), iv (0 : Int32), iv (0 : Int32), iv (0 : Int32), iv (-1 : Int32), iv (0 : Int32), iv (-1 : Int32), iv P1, iv P1]) rfl k) ?_
            refine oI2 X46 hx (hb hby at_372) (pc' := 374) rfl rfl ?_
            refine oI2 X46 hx (hb hby at_374) (pc' := 376) rfl rfl ?_
            refine oN X46 hx (hb hby at_376) (pc' := 379) rfl (tlt (by decide : (0 : Int32) < (2 : Int32))).2.1 ?_
            refine oI2 X46 hx (hb hby at_379) (pc' := 381) rfl rfl ?_
            refine oN0 X46 hx (hb hby at_381) (pc' := 384) rfl ((if0 _ _).trans (feq (by decide : ¬ ((1 : Int32) = (0 : Int32)))).1) ?_
            refine oA2 X46 hx (hb hby at_384) (pc' := 386) rfl rfl rfl ?_
            obtain ⟨T47, L47, v47, Y47a, ⟨rfl, N47, B47⟩, st47⟩ := own_callV X46 hx hZ e46 (y := (⟨"com/example/orthonorm/orthonorm/sanskrit/Anchors", "take", "()I"⟩ : MethodName)) hown (hw _ (List.mem_of_getElem? (i := 53) rfl)) (hw _ (List.mem_of_getElem? (i := 54) rfl)) (hw _ (List.mem_of_getElem? (i := 56) rfl)) (hw _ (List.mem_of_getElem? (i := 55) rfl)) (hw _ (List.mem_of_getElem? (i := 57) rfl)) (hw _ (List.mem_of_getElem? (i := 4) rfl)) (by decide) 0 [] [] (own_take_0 l Z a0 hw [] w_NO_ANCHORS k_NO_ANCHORS h30 (own_F_ext F0 EX30_h0) h8 Fb o P O kP kO P1 P2 (0 : Int32) (0 : Int32) (0 : Int32) (0 : Int32) (0 : Int32) (0 : Int32) p3 p4 (0 : Int32) (0 : Int32) (0 : Int32) (0 : Int32) (0 : Int32) (0 : Int32) (2 : Int32) B30) (by decide) (by decide) (by decide) (by decide) (own_Ob_E B30.1) (g := (mkF m 386 #[iv p1, iv p2, iv p3, iv p4, iv p5, iv p6, iv P1, iv P2, iv P3, iv (0 : Int32), iv (2 : Int32), iv q, rv b1, rv b5, rv o, iv (1 : Int32), iv (0 : Int32), iv (0 : Int32), iv (0 : Int32), iv (-1 : Int32), iv (0 : Int32), iv (-1 : Int32), iv P1, iv P1] [(.ref o)])) rfl (by rw [hml]; rfl) (lenOf pd_4 rfl) rfl (by show 2 * 0 + _ ≤ _; exact Nat.le_of_eq rfl) (hb hby at_386)
            have X47 := Y47a.forget (fun y hy => Nat.le_trans hsz (N47 y hy))
            obtain ⟨h47, e47⟩ : ∃ y, T47.heap = y := ⟨_, rfl⟩
            rw [e47] at B47
            have EX47_h0 : Ext h0 h47 := own_extE EX8_h0 (own_Ob_X B47.1)
            have EX47_h4 : Ext h4 h47 := own_extE EX8_h4 (own_Ob_X B47.1)
            have EX47_h8 : Ext h8 h47 := own_Ob_X B47.1
            refine own_pre (T' := T47) (f' := (mkF m 389 #[iv p1, iv p2, iv p3, iv p4, iv p5, iv p6, iv P1, iv P2, iv P3, iv (0 : Int32), iv (2 : Int32), iv q, rv b1, rv b5, rv o, iv (1 : Int32), iv (0 : Int32), iv (0 : Int32), iv (0 : Int32), iv (-1 : Int32), iv (0 : Int32), iv (-1 : Int32), iv P1, iv P1] [(.int p3)])) (fun t k => st47 t k) ?_
            refine oA2 X47 hx (hb hby at_389) (pc' := 391) rfl rfl rfl ?_
            refine oI2 X47 hx (hb hby at_391) (pc' := 393) rfl rfl ?_
            refine own_pre (T' := T47) (f' := (mkF m 394 #[iv p1, iv p2, iv p3, iv p4, iv p5, iv p6, iv P1, iv P2, iv P3, iv (0 : Int32), iv (2 : Int32), iv q, rv b1, rv b5, rv o, iv (1 : Int32), iv (0 : Int32), iv (0 : Int32), iv (0 : Int32), iv (-1 : Int32), iv (0 : Int32), iv (-1 : Int32), iv P1, iv P1] [(.int p3), (.int p3)])) (fun t k => own_ldI X47 hx hZ e47 (V8.ext EX47_h8) (by decide) rfl (g := (mkF m 393 #[iv p1, iv p2, iv p3, iv p4, iv p5, iv p6, iv P1, iv P2, iv P3, iv (0 : Int32), iv (2 : Int32), iv q, rv b1, rv b5, rv o, iv (1 : Int32), iv (0 : Int32), iv (0 : Int32), iv (0 : Int32), iv (-1 : Int32), iv (0 : Int32), iv (-1 : Int32), iv P1, iv P1] [(.int (0 : Int32)), (.ref b5), (.int p3)])) rfl rfl (hb hby at_393) t k) ?_
            refine oN X47 hx (hb hby at_394) (pc' := 397) rfl (teq (rfl : p3 = p3)).2 ?_
            refine oC X47 hx (1 : Int32) (hb hby at_397) (pc' := 398) rfl rfl ?_
            refine oG X47 hx (hb hby at_398) (pc' := 402) (by decide) (by decide) ?_
            refine own_pre (T' := T47) (f' := (mkF m 404 #[iv p1, iv p2, iv p3, iv p4, iv p5, iv p6, iv P1, iv P2, iv P3, iv (0 : Int32), iv (2 : Int32), iv q, rv b1, rv b5, rv o, iv (1 : Int32), iv (0 : Int32), iv (0 : Int32), iv (0 : Int32), iv (-1 : Int32), iv (0 : Int32), iv (-1 : Int32), iv P1, iv P1] [])) (fun t k => XS.istore X47.here hx rfl (hb hby at_402) rfl (l' := #[iv p1, iv p2, iv p3, iv p4, iv p5, iv p6, iv P1, iv P2, iv P3, iv (0 : Int32), iv (2 : Int32), iv q, rv b1, rv b5, rv o, iv (1 : Int32), iv (0 : Int32), iv (0 : Int32), iv (0 : Int32), iv (-1 : Int32), iv (0 : Int32), iv (-1 : Int32), iv P1, iv P1]) rfl k) ?_
            refine oI2 X47 hx (hb hby at_404) (pc' := 406) rfl rfl ?_
            exact own_retZ X47 hx hlk hret (hb hby at_406) rfl (⟨rfl, Fr.nil _⟩) (by decide) (by decide)
      · refine oI2 X10 hx (hb hby at_123) (pc' := 125) rfl rfl ?_
        refine oC X10 hx (1 : Int32) (hb hby at_125) (pc' := 126) rfl rfl ?_
        refine oN X10 hx (hb hby at_126) (pc' := 129) rfl (flt (by decide : ¬ ((2 : Int32) < (1 : Int32)))).1 ?_
        refine oA2 X10 hx (hb hby at_129) (pc' := 131) rfl rfl rfl ?_
        refine oI2 X10 hx (hb hby at_131) (pc' := 133) rfl rfl ?_
        refine oI1 X10 hx (hb hby at_133) (pc' := 134) rfl rfl ?_
        obtain ⟨T48, L48, v48, Y48a, ⟨rfl, N48, P, O, kP, kO, B48⟩, st48⟩ := own_callV X10 hx hZ e10 (y := (⟨"com/example/orthonorm/orthonorm/sanskrit/Anchors", "add", "(II)V"⟩ : MethodName)) hown (hw _ (List.mem_of_getElem? (i := 33) rfl)) (hw _ (List.mem_of_getElem? (i := 34) rfl)) (hw _ (List.mem_of_getElem? (i := 36) rfl)) (hw _ (List.mem_of_getElem? (i := 35) rfl)) (hw _ (List.mem_of_getElem? (i := 37) rfl)) (hw _ (List.mem_of_getElem? (i := 4) rfl)) (by decide) 0 [(.int P1), (.int p3)] [] (own_add1 l Z a0 hw [] w_NO_ANCHORS k_NO_ANCHORS h10 (own_F_ext F0 EX10_h0) h8 Fb o P1 p3 B10) (by decide) (by decide) (by decide) (by decide) (own_Ob_E B10) (g := (mkF m 134 #[iv p1, iv p2, iv p3, iv p4, iv p5, iv p6, iv P1, iv P2, iv P3, iv (1 : Int32), iv (2 : Int32), iv q, rv b1, rv b5, rv o, .unset, .unset, .unset, .unset, .unset, .unset, .unset, .unset, .unset] [(.int p3), (.int P1), (.ref o)])) rfl (by rw [hml]; rfl) (lenOf pd_5 rfl) rfl (by show 2 * 0 + _ ≤ _; exact Nat.le_of_eq rfl) (hb hby at_134)
        have X48 := Y48a.forget (fun y hy => Nat.le_trans hsz (N48 y hy))
        obtain ⟨h48, e48⟩ : ∃ y, T48.heap = y := ⟨_, rfl⟩
        rw [e48] at B48
        have EX48_h0 : Ext h0 h48 := own_extE EX8_h0 (own_Ob_X B48.1)
        have EX48_h4 : Ext h4 h48 := own_extE EX8_h4 (own_Ob_X B48.1)
        have EX48_h8 : Ext h8 h48 := own_Ob_X B48.1
        refine own_pre (T' := T48) (f' := (mkF m 137 #[iv p1, iv p2, iv p3, iv p4, iv p5, iv p6, iv P1, iv P2, iv P3, iv (1 : Int32), iv (2 : Int32), iv q, rv b1, rv b5, rv o, .unset, .unset, .unset, .unset, .unset, .unset, .unset, .unset, .unset] [])) (fun t k => st48 t k) ?_
        refine oI2 X48 hx (hb hby at_137) (pc' := 139) rfl rfl ?_
        refine oC X48 hx (2 : Int32) (hb hby at_139) (pc' := 140) rfl rfl ?_
        refine oN X48 hx (hb hby at_140) (pc' := 143) rfl (flt (by decide : ¬ ((2 : Int32) < (2 : Int32)))).1 ?_
        refine oA2 X48 hx (hb hby at_143) (pc' := 145) rfl rfl rfl ?_
        refine oI2 X48 hx (hb hby at_145) (pc' := 147) rfl rfl ?_
        refine oI1 X48 hx (hb hby at_147) (pc' := 148) rfl rfl ?_
        obtain ⟨T49, L49, v49, Y49a, ⟨rfl, N49, B49⟩, st49⟩ := own_callV X48 hx hZ e48 (y := (⟨"com/example/orthonorm/orthonorm/sanskrit/Anchors", "add", "(II)V"⟩ : MethodName)) hown (hw _ (List.mem_of_getElem? (i := 33) rfl)) (hw _ (List.mem_of_getElem? (i := 34) rfl)) (hw _ (List.mem_of_getElem? (i := 36) rfl)) (hw _ (List.mem_of_getElem? (i := 35) rfl)) (hw _ (List.mem_of_getElem? (i := 37) rfl)) (hw _ (List.mem_of_getElem? (i := 4) rfl)) (by decide) 0 [(.int P2), (.int p4)] [] (own_add_1 l Z a0 hw [] w_NO_ANCHORS k_NO_ANCHORS h48 (own_F_ext F0 EX48_h0) h8 Fb o P O kP kO P1 (0 : Int32) (0 : Int32) (0 : Int32) (0 : Int32) (0 : Int32) (0 : Int32) (0 : Int32) p3 (0 : Int32) (0 : Int32) (0 : Int32) (0 : Int32) (0 : Int32) (0 : Int32) (0 : Int32) B48 P2 p4 (own_lne hP12)) (by decide) (by decide) (by decide) (by decide) (own_Ob_E B48.1) (g := (mkF m 148 #[iv p1, iv p2, iv p3, iv p4, iv p5, iv p6, iv P1, iv P2, iv P3, iv (1 : Int32), iv (2 : Int32), iv q, rv b1, rv b5, rv o, .unset, .unset, .unset, .unset, .unset, .unset, .unset, .unset, .unset] [(.int p4), (.int P2), (.ref o)])) rfl (by rw [hml]; rfl) (lenOf pd_5 rfl) rfl (by show 2 * 0 + _ ≤ _; exact Nat.le_of_eq rfl) (hb hby at_148)
        have X49 := Y49a.forget (fun y hy => Nat.le_trans hsz (N49 y hy))
        obtain ⟨h49, e49⟩ : ∃ y, T49.heap = y := ⟨_, rfl⟩
        rw [e49] at B49
        have EX49_h0 : Ext h0 h49 := own_extE EX8_h0 (own_Ob_X B49.1)
        have EX49_h4 : Ext h4 h49 := own_extE EX8_h4 (own_Ob_X B49.1)
        have EX49_h8 : Ext h8 h49 := own_Ob_X B49.1
        refine own_pre (T' := T49) (f' := (mkF m 151 #[iv p1, iv p2, iv p3, iv p4, iv p5, iv p6, iv P1, iv P2, iv P3, iv (1 : Int32), iv (2 : Int32), iv q, rv b1, rv b5, rv o, .unset, .unset, .unset, .unset, .unset, .unset, .unset, .unset, .unset] [])) (fun t k => st49 t k) ?_
        refine oI2 X49 hx (hb hby at_151) (pc' := 153) rfl rfl ?_
        refine oC X49 hx (3 : Int32) (hb hby at_153) (pc' := 154) rfl rfl ?_
        refine oY X49 hx (hb hby at_154) (pc' := 166) (tlt (by decide : (2 : Int32) < (3 : Int32))).1 (by decide) (by decide) ?_
        refine oC X49 hx (1 : Int32) (hb hby at_166) (pc' := 167) rfl rfl ?_
        refine own_pre (T' := T49) (f' := (mkF m 169 #[iv p1, iv p2, iv p3, iv p4, iv p5, iv p6, iv P1, iv P2, iv P3, iv (1 : Int32), iv (2 : Int32), iv q, rv b1, rv b5, rv o, iv (1 : Int32), .unset, .unset, .unset, .unset, .unset, .unset, .unset, .unset] [])) (fun t k => XS.istore X49.here hx rfl (hb hby at_167) rfl (l' := #[iv p1, iv p2, iv p3, iv p4, iv p5, iv p6, iv P1, iv P2, iv P3, iv (1 : Int32), iv (2 : Int32), iv q, rv b1, rv b5, rv o, iv (1 : Int32), .unset, .unset, .unset, .unset, .unset, .unset, .unset, .unset]) rfl k) ?_
        refine oC X49 hx (0 : Int32) (hb hby at_169) (pc' := 170) rfl rfl ?_
        refine own_pre (T' := T49) (f' := (mkF m 172 #[iv p1, iv p2, iv p3, iv p4, iv p5, iv p6, iv P1, iv P2, iv P3, iv (1 : Int32), iv (2 : Int32), iv q, rv b1, rv b5, rv o, iv (1 : Int32), iv (0 : Int32), .unset, .unset, .unset, .unset, .unset, .unset, .unset] [])) (fun t k => XS.istore X49.here hx rfl (hb hby at_170) rfl (l' := #[iv p1, iv p2, iv p3, iv p4, iv p5, iv p6, iv P1, iv P2, iv P3, iv (1 : Int32), iv (2 : Int32), iv q, rv b1, rv b5, rv o, iv (1 : Int32), iv (0 : Int32), .unset, .unset, .unset, .unset, .unset, .unset, .unset]) rfl k) ?_
        refine oI2 X49 hx (hb hby at_172) (pc' := 174) rfl rfl ?_
        refine oN0 X49 hx (hb hby at_174) (pc' := 177) rfl ((if0 _ _).trans (feq (by decide : ¬ ((1 : Int32) = (0 : Int32)))).1) ?_
        refine oI2 X49 hx (hb hby at_177) (pc' := 179) rfl rfl ?_
        refine oC X49 hx (1 : Int32) (hb hby at_179) (pc' := 180) rfl rfl ?_
        refine oN X49 hx (hb hby at_180) (pc' := 183) rfl (flt (by decide : ¬ ((2 : Int32) < (1 : Int32)))).1 ?_
        refine oA2 X49 hx (hb hby at_183) (pc' := 185) rfl rfl rfl ?_
        obtain ⟨T50, L50, v50, Y50a, ⟨rfl, N50, B50⟩, st50⟩ := own_callV X49 hx hZ e49 (y := (⟨"com/example/orthonorm/orthonorm/sanskrit/Anchors", "take", "()I"⟩ : MethodName)) hown (hw _ (List.mem_of_getElem? (i := 53) rfl)) (hw _ (List.mem_of_getElem? (i := 54) rfl)) (hw _ (List.mem_of_getElem? (i := 56) rfl)) (hw _ (List.mem_of_getElem? (i := 55) rfl)) (hw _ (List.mem_of_getElem? (i := 57) rfl)) (hw _ (List.mem_of_getElem? (i := 4) rfl)) (by decide) 0 [] [] (own_take_0 l Z a0 hw [] w_NO_ANCHORS k_NO_ANCHORS h49 (own_F_ext F0 EX49_h0) h8 Fb o P O kP kO P1 P2 (0 : Int32) (0 : Int32) (0 : Int32) (0 : Int32) (0 : Int32) (0 : Int32) p3 p4 (0 : Int32) (0 : Int32) (0 : Int32) (0 : Int32) (0 : Int32) (0 : Int32) (2 : Int32) B49) (by decide) (by decide) (by decide) (by decide) (own_Ob_E B49.1) (g := (mkF m 185 #[iv p1, iv p2, iv p3, iv p4, iv p5, iv p6, iv P1, iv P2, iv P3, iv (1 : Int32), iv (2 : Int32), iv q, rv b1, rv b5, rv o, iv (1 : Int32), iv (0 : Int32), .unset, .unset, .unset, .unset, .unset, .unset, .unset] [(.ref o)])) rfl (by rw [hml]; rfl) (lenOf pd_4 rfl) rfl (by show 2 * 0 + _ ≤ _; exact Nat.le_of_eq rfl) (hb hby at_185)
        have X50 := Y50a.forget (fun y hy => Nat.le_trans hsz (N50 y hy))
        obtain ⟨h50, e50⟩ : ∃ y, T50.heap = y := ⟨_, rfl⟩
        rw [e50] at B50
        have EX50_h0 : Ext h0 h50 := own_extE EX8_h0 (own_Ob_X B50.1)
        have EX50_h4 : Ext h4 h50 := own_extE EX8_h4 (own_Ob_X B50.1)
        have EX50_h8 : Ext h8 h50 := own_Ob_X B50.1
        refine own_pre (T' := T50) (f' := (mkF m 188 #[iv p1, iv p2, iv p3, iv p4, iv p5, iv p6, iv P1, iv P2, iv P3, iv (1 : Int32), iv (2 : Int32), iv q, rv b1, rv b5, rv o, iv (1 : Int32), iv (0 : Int32), .unset, .unset, .unset, .unset, .unset, .unset, .unset] [(.int p3)])) (fun t k => st50 t k) ?_
        refine oI1 X50 hx (hb hby at_188) (pc' := 189) rfl rfl ?_
        refine oN X50 hx (hb hby at_189) (pc' := 192) rfl (teq (rfl : p3 = p3)).2 ?_
        refine oC X50 hx (1 : Int32) (hb hby at_192) (pc' := 193) rfl rfl ?_
        refine oG X50 hx (hb hby at_193) (pc' := 197) (by decide) (by decide) ?_
        refine own_pre (T' := T50) (f' := (mkF m 199 #[iv p1, iv p2, iv p3, iv p4, iv p5, iv p6, iv P1, iv P2, iv P3, iv (1 : Int32), iv (2 : Int32), iv q, rv b1, rv b5, rv o, iv (1 : Int32), iv (0 : Int32), .unset, .unset, .unset, .unset, .unset, .unset, .unset] [])) (fun t k => XS.istore X50.here hx rfl (hb hby at_197) rfl (l' := #[iv p1, iv p2, iv p3, iv p4, iv p5, iv p6, iv P1, iv P2, iv P3, iv (1 : Int32), iv (2 : Int32), iv q, rv b1, rv b5, rv o, iv (1 : Int32), iv (0 : Int32), .unset, .unset, .unset, .unset, .unset, .unset, .unset]) rfl k) ?_
        refine oC X50 hx (1 : Int32) (hb hby at_199) (pc' := 200) rfl rfl ?_
        refine own_pre (T' := T50) (f' := (mkF m 202 #[iv p1, iv p2, iv p3, iv p4, iv p5, iv p6, iv P1, iv P2, iv P3, iv (1 : Int32), iv (2 : Int32), iv q, rv b1, rv b5, rv o, iv (1 : Int32), iv (1 : Int32), .unset, .unset, .unset, .unset, .unset, .unset, .unset] [])) (fun t k => XS.istore X50.here hx rfl (hb hby at_200) rfl (l' := #[iv p1, iv p2, iv p3, iv p4, iv p5, iv p6, iv P1, iv P2, iv P3, iv (1 : Int32), iv (2 : Int32), iv q, rv b1, rv b5, rv o, iv (1 : Int32), iv (1 : Int32), .unset, .unset, .unset, .unset, .unset, .unset, .unset]) rfl k) ?_
        refine oC X50 hx (0 : Int32) (hb hby at_202) (pc' := 203) rfl rfl ?_
        refine own_pre (T' := T50) (f' := (mkF m 205 #[iv p1, iv p2, iv p3, iv p4, iv p5, iv p6, iv P1, iv P2, iv P3, iv (1 : Int32), iv (2 : Int32), iv q, rv b1, rv b5, rv o, iv (1 : Int32), iv (1 : Int32), iv (0 : Int32), .unset, .unset, .unset, .unset, .unset, .unset] [])) (fun t k => XS.istore X50.here hx rfl (hb hby at_203) rfl (l' := #[iv p1, iv p2, iv p3, iv p4, iv p5, iv p6, iv P1, iv P2, iv P3, iv (1 : Int32), iv (2 : Int32), iv q, rv b1, rv b5, rv o, iv (1 : Int32), iv (1 : Int32), iv (0 : Int32), .unset, .unset, .unset, .unset, .unset, .unset]) rfl k) ?_
        refine oI2 X50 hx (hb hby at_205) (pc' := 207) rfl rfl ?_
        refine oY0 X50 hx (hb hby at_207) (pc' := 226) ((if0 _ _).trans (tlt (by decide : (0 : Int32) < (1 : Int32))).2.2.1) (by decide) (by decide) ?_
        refine oI2 X50 hx (hb hby at_226) (pc' := 228) rfl rfl ?_
        refine oC X50 hx (1 : Int32) (hb hby at_228) (pc' := 229) rfl rfl ?_
        refine oN X50 hx (hb hby at_229) (pc' := 232) rfl (flt (by decide : ¬ ((1 : Int32) < (1 : Int32)))).2.2.1 ?_
        refine oC X50 hx (1 : Int32) (hb hby at_232) (pc' := 233) rfl rfl ?_
        refine oI2 X50 hx (hb hby at_233) (pc' := 235) rfl rfl ?_
        refine oN X50 hx (hb hby at_235) (pc' := 238) rfl (tlt (by decide : (1 : Int32) < (2 : Int32))).2.1 ?_
        refine oI2 X50 hx (hb hby at_238) (pc' := 240) rfl rfl ?_
        refine oI2 X50 hx (hb hby at_240) (pc' := 242) rfl rfl ?_
        by_cases hc51 : P2 < q
        · refine oN X50 hx (hb hby at_242) (pc' := 245) rfl (tlt hc51).2.1 ?_
          refine own_pre (T' := T50) (f' := (mkF m 248 #[iv p1, iv p2, iv p3, iv p4, iv p5, iv p6, iv P1, iv P2, iv P3, iv (1 : Int32), iv (2 : Int32), iv q, rv b1, rv b5, rv o, iv (1 : Int32), iv (1 : Int32), iv ((0 : Int32) + (1 : Int32)), .unset, .unset, .unset, .unset, .unset, .unset] [])) (fun t k => XS.iinc X50.here hx rfl (hb hby at_245) rfl (l' := #[iv p1, iv p2, iv p3, iv p4, iv p5, iv p6, iv P1, iv P2, iv P3, iv (1 : Int32), iv (2 : Int32), iv q, rv b1, rv b5, rv o, iv (1 : Int32), iv (1 : Int32), iv ((0 : Int32) + (1 : Int32)), .unset, .unset, .unset, .unset, .unset, .unset]) rfl k) ?_
          rw [show ((0 : Int32) + (1 : Int32)) = (1 : Int32) from by decide]
          refine oC X50 hx (2 : Int32) (hb hby at_248) (pc' := 249) rfl rfl ?_
          refine oI2 X50 hx (hb hby at_249) (pc' := 251) rfl rfl ?_
          refine oY X50 hx (hb hby at_251) (pc' := 264) (flt (by decide : ¬ ((2 : Int32) < (2 : Int32)))).2.1 (by decide) (by decide) ?_
          refine oI2 X50 hx (hb hby at_264) (pc' := 266) rfl rfl ?_
          refine oI2 X50 hx (hb hby at_266) (pc' := 268) rfl rfl ?_
          refine own_pre (T' := T50) (f' := (mkF m 269 #[iv p1, iv p2, iv p3, iv p4, iv p5, iv p6, iv P1, iv P2, iv P3, iv (1 : Int32), iv (2 : Int32), iv q, rv b1, rv b5, rv o, iv (1 : Int32), iv (1 : Int32), iv (1 : Int32), .unset, .unset, .unset, .unset, .unset, .unset] [(.int ((1 : Int32) + (1 : Int32)))])) (fun t k => XS.iadd X50.here hx rfl (hb hby at_268) rfl k) ?_
          rw [show ((1 : Int32) + (1 : Int32)) = (2 : Int32) from by decide]
          refine own_pre (T' := T50) (f' := (mkF m 271 #[iv p1, iv p2, iv p3, iv p4, iv p5, iv p6, iv P1, iv P2, iv P3, iv (1 : Int32), iv (2 : Int32), iv q, rv b1, rv b5, rv o, iv (1 : Int32), iv (1 : Int32), iv (1 : Int32), iv (2 : Int32), .unset, .unset, .unset, .unset, .unset] [])) (fun t k => XS.istore X50.here hx rfl (hb hby at_269) rfl (l' := #[iv p1, iv p2, iv p3, iv p4, iv p5, iv p6, iv P1, iv P2, iv P3, iv (1 : Int32), iv (2 : Int32), iv q, rv b1, rv b5, rv o, iv (1 : Int32), iv (1 : Int32), iv (1 : Int32), iv (2 : Int32), .unset, .unset, .unset, .unset, .unset]) rfl k) ?_
          refine oI2 X50 hx (hb hby at_271) (pc' := 273) rfl rfl ?_
          refine oI2 X50 hx (hb hby at_273) (pc' := 275) rfl rfl ?_
          refine oY X50 hx (hb hby at_275) (pc' := 304) (flt (by decide : ¬ ((2 : Int32) < (2 : Int32)))).2.1 (by decide) (by decide) ?_
          refine oC X50 hx (-1 : Int32) (hb hby at_304) (pc' := 305) rfl rfl ?_
          refine own_pre (T' := T50) (f' := (mkF m 307 #[iv p1, iv p2, iv p3, iv p4, iv p5, iv p6, iv P1, iv P2, iv P3, iv (1 : Int32), iv (2 : Int32), iv q, rv b1, rv b5, rv o, iv (1 : Int32), iv (1 : Int32), iv (1 : Int32), iv (2 : Int32), iv (-1 : Int32), .unset, .unset, .unset, .unset] [])) (fun t k => XS.istore X50.here hx rfl (hb hby at_305) rfl (l' := #[iv p1, iv p2, iv p3, iv p4, iv p5, iv p6, iv P1, iv P2, iv P3, iv (1 : Int32), iv (2 : Int32), iv q, rv b1, rv b5, rv o, iv (1 : Int32), iv (1 : Int32), iv (1 : Int32), iv (2 : Int32), iv (-1 : Int32), .unset, .unset, .unset, .unset]) rfl k) ?_
          refine oI2 X50 hx (hb hby at_307) (pc' := 309) rfl rfl ?_
          refine own_pre (T' := T50) (f' := (mkF m 311 #[iv p1, iv p2, iv p3, iv p4, iv p5, iv p6, iv P1, iv P2, iv P3, iv (1 : Int32), iv (2 : Int32), iv q, rv b1, rv b5, rv o, iv (1 : Int32), iv (1 : Int32), iv (1 : Int32), iv (2 : Int32), iv (-1 : Int32), iv (2 : Int32), .unset, .unset, .unset] [])) (fun t k => XS.istore X50.here hx rfl (hb hby at_309) rfl (l' := #[iv p1, iv p2, iv p3, iv p4, iv p5, iv p6, iv P1, iv P2, iv P3, iv (1 : Int32), iv (2 : Int32), iv q, rv b1, rv b5, rv o, iv (1 : Int32), iv (1 : Int32), iv (1 : Int32), iv (2 : Int32), iv (-1 : Int32), iv (2 : Int32), .unset, .unset, .unset]) rfl k) ?_
          refine oA2 X50 hx (hb hby at_311) (pc' := 313) rfl rfl rfl ?_
          refine oI2 X50 hx (hb hby at_313) (pc' := 315) rfl rfl ?_
          obtain ⟨T52, L52, v52, Y52a, ⟨rfl, N52, B52⟩, st52⟩ := own_callV X50 hx hZ e50 (y := (⟨"com/example/orthonorm/orthonorm/sanskrit/Anchors", "takeAt", "(I)I"⟩ : MethodName)) hown (hw _ (List.mem_of_getElem? (i := 17) rfl)) (hw _ (List.mem_of_getElem? (i := 18) rfl)) (hw _ (List.mem_of_getElem? (i := 20) rfl)) (hw _ (List.mem_of_getElem? (i := 19) rfl)) (hw _ (List.mem_of_getElem? (i := 21) rfl)) (hw _ (List.mem_of_getElem? (i := 4) rfl)) (by decide) 0 [(.int q)] [] (own_at_2_1_2_0 l Z a0 hw [] w_NO_ANCHORS k_NO_ANCHORS h50 (own_F_ext F0 EX50_h0) h8 Fb o P O kP kO P1 P2 (0 : Int32) (0 : Int32) (0 : Int32) (0 : Int32) (0 : Int32) (0 : Int32) p3 p4 (0 : Int32) (0 : Int32) (0 : Int32) (0 : Int32) (0 : Int32) (0 : Int32) B50 q hc51) (by decide) (by decide) (by decide) (by decide) (own_Ob_E B50.1) (g := (mkF m 315 #[iv p1, iv p2, iv p3, iv p4, iv p5, iv p6, iv P1, iv P2, iv P3, iv (1 : Int32), iv (2 : Int32), iv q, rv b1, rv b5, rv o, iv (1 : Int32), iv (1 : Int32), iv (1 : Int32), iv (2 : Int32), iv (-1 : Int32), iv (2 : Int32), .unset, .unset, .unset] [(.int q), (.ref o)])) rfl (by rw [hml]; rfl) (lenOf pd_3 rfl) rfl (by show 2 * 0 + _ ≤ _; exact Nat.le_of_eq rfl) (hb hby at_315)
          have X52 := Y52a.forget (fun y hy => Nat.le_trans hsz (N52 y hy))
          obtain ⟨h52, e52⟩ : ∃ y, T52.heap = y := ⟨_, rfl⟩
          rw [e52] at B52
          have EX52_h0 : Ext h0 h52 := own_extE EX8_h0 (own_Ob_X B52.1)
          have EX52_h4 : Ext h4 h52 := own_extE EX8_h4 (own_Ob_X B52.1)
          have EX52_h8 : Ext h8 h52 := own_Ob_X B52.1
          refine own_pre (T' := T52) (f' := (mkF m 318 #[iv p1, iv p2, iv p3, iv p4, iv p5, iv p6, iv P1, iv P2, iv P3, iv (1 : Int32), iv (2 : Int32), iv q, rv b1, rv b5, rv o, iv (1 : Int32), iv (1 : Int32), iv (1 : Int32), iv (2 : Int32), iv (-1 : Int32), iv (2 : Int32), .unset, .unset, .unset] [(.int (-1 : Int32))])) (fun t k => st52 t k) ?_
          refine own_pre (T' := T52) (f' := (mkF m 320 #[iv p1, iv p2, iv p3, iv p4, iv p5, iv p6, iv P1, iv P2, iv P3, iv (1 : Int32), iv (2 : Int32), iv q, rv b1, rv b5, rv o, iv (1 : Int32), iv (1 : Int32), iv (1 : Int32), iv (2 : Int32), iv (-1 : Int32), iv (2 : Int32), iv (-1 : Int32), .unset, .unset] [])) (fun t k => XS.istore X52.here hx rfl (hb hby at_318) rfl (l' := #[iv p1, iv p2, iv p3, iv p4, iv p5, iv p6, iv P1, iv P2, iv P3, iv (1 : Int32), iv (2 : Int32), iv q, rv b1, rv b5, rv o, iv (1 : Int32), iv (1 : Int32), iv (1 : Int32), iv (2 : Int32), iv (-1 : Int32), iv (2 : Int32), iv (-1 : Int32), .unset, .unset]) rfl k) ?_
          refine oA2 X52 hx (hb hby at_320) (pc' := 322) rfl rfl rfl ?_
          obtain ⟨T53, X53, e53, st53⟩ := own_pure (f := 0) (n := 0) (v := (some (.int (2147483647 : Int32)))) (own_callV X52 hx hZ e52 (y := (⟨"com/example/orthonorm/orthonorm/sanskrit/Anchors", "nextPlace", "()I"⟩ : MethodName)) hown (hw _ (List.mem_of_getElem? (i := 26) rfl)) (hw _ (List.mem_of_getElem? (i := 27) rfl)) (hw _ (List.mem_of_getElem? (i := 29) rfl)) (hw _ (List.mem_of_getElem? (i := 28) rfl)) (hw _ (List.mem_of_getElem? (i := 30) rfl)) (hw _ (List.mem_of_getElem? (i := 4) rfl)) (by decide) 0 [] [] (own_next_2_2 l Z a0 hw [] w_NO_ANCHORS k_NO_ANCHORS h52 (own_F_ext F0 EX52_h0) h8 Fb o P O kP kO P1 P2 (0 : Int32) (0 : Int32) (0 : Int32) (0 : Int32) (0 : Int32) (0 : Int32) p3 p4 (0 : Int32) (0 : Int32) (0 : Int32) (0 : Int32) (0 : Int32) (0 : Int32) B52) (by decide) (by decide) (by decide) (by decide) (own_Ob_E B52.1) (g := (mkF m 322 #[iv p1, iv p2, iv p3, iv p4, iv p5, iv p6, iv P1, iv P2, iv P3, iv (1 : Int32), iv (2 : Int32), iv q, rv b1, rv b5, rv o, iv (1 : Int32), iv (1 : Int32), iv (1 : Int32), iv (2 : Int32), iv (-1 : Int32), iv (2 : Int32), iv (-1 : Int32), .unset, .unset] [(.ref o)])) rfl (by rw [hml]; rfl) (lenOf pd_4 rfl) rfl (by show 2 * 0 + _ ≤ _; exact Nat.le_of_eq rfl) (hb hby at_322))
          refine own_pre (T' := T53) (f' := (mkF m 325 #[iv p1, iv p2, iv p3, iv p4, iv p5, iv p6, iv P1, iv P2, iv P3, iv (1 : Int32), iv (2 : Int32), iv q, rv b1, rv b5, rv o, iv (1 : Int32), iv (1 : Int32), iv (1 : Int32), iv (2 : Int32), iv (-1 : Int32), iv (2 : Int32), iv (-1 : Int32), .unset, .unset] [(.int (2147483647 : Int32))])) (fun t k => st53 t k) ?_
          refine own_pre (T' := T53) (f' := (mkF m 327 #[iv p1, iv p2, iv p3, iv p4, iv p5, iv p6, iv P1, iv P2, iv P3, iv (1 : Int32), iv (2 : Int32), iv q, rv b1, rv b5, rv o, iv (1 : Int32), iv (1 : Int32), iv (1 : Int32), iv (2 : Int32), iv (-1 : Int32), iv (2 : Int32), iv (-1 : Int32), iv (2147483647 : Int32), .unset] [])) (fun t k => XS.istore X53.here hx rfl (hb hby at_325) rfl (l' := #[iv p1, iv p2, iv p3, iv p4, iv p5, iv p6, iv P1, iv P2, iv P3, iv (1 : Int32), iv (2 : Int32), iv q, rv b1, rv b5, rv o, iv (1 : Int32), iv (1 : Int32), iv (1 : Int32), iv (2 : Int32), iv (-1 : Int32), iv (2 : Int32), iv (-1 : Int32), iv (2147483647 : Int32), .unset]) rfl k) ?_
          refine oI2 X53 hx (hb hby at_327) (pc' := 329) rfl rfl ?_
          refine oI2 X53 hx (hb hby at_329) (pc' := 331) rfl rfl ?_
          refine oY X53 hx (hb hby at_331) (pc' := 342) (flt (by decide : ¬ ((2 : Int32) < (2 : Int32)))).2.1 (by decide) (by decide) ?_
          refine own_pre (T' := T53) (f' := (mkF m 344 #[iv p1, iv p2, iv p3, iv p4, iv p5, iv p6, iv P1, iv P2, iv P3, iv (1 : Int32), iv (2 : Int32), iv q, rv b1, rv b5, rv o, iv (1 : Int32), iv (1 : Int32), iv (1 : Int32), iv (2 : Int32), iv (-1 : Int32), iv (2 : Int32), iv (-1 : Int32), iv (2147483647 : Int32), .unset] [(.int (2147483647 : Int32))])) (fun t k => X53.ldcInt hx hown (mvT hZ (hw _ (List.mem_of_getElem? (i := 32) rfl))) (g := (mkF m 342 #[iv p1, iv p2, iv p3, iv p4, iv p5, iv p6, iv P1, iv P2, iv P3, iv (1 : Int32), iv (2 : Int32), iv q, rv b1, rv b5, rv o, iv (1 : Int32), iv (1 : Int32), iv (1 : Int32), iv (2 : Int32), iv (-1 : Int32), iv (2 : Int32), iv (-1 : Int32), iv (2147483647 : Int32), .unset] [])) rfl (hb hby at_342) t k) ?_
          refine own_pre (T' := T53) (f' := (mkF m 346 #[iv p1, iv p2, iv p3, iv p4, iv p5, iv p6, iv P1, iv P2, iv P3, iv (1 : Int32), iv (2 : Int32), iv q, rv b1, rv b5, rv o, iv (1 : Int32), iv (1 : Int32), iv (1 : Int32), iv (2 : Int32), iv (-1 : Int32), iv (2 : Int32), iv (-1 : Int32), iv (2147483647 : Int32), iv (2147483647 : Int32)] [])) (fun t k => XS.istore X53.here hx rfl (hb hby at_344) rfl (l' := #[iv p1, iv p2, iv p3, iv p4, iv p5, iv p6, iv P1, iv P2, iv P3, iv (1 : Int32), iv (2 : Int32), iv q, rv b1, rv b5, rv o, iv (1 : Int32), iv (1 : Int32), iv (1 : Int32), iv (2 : Int32), iv (-1 : Int32), iv (2 : Int32), iv (-1 : Int32), iv (2147483647 : Int32), iv (2147483647 : Int32)]) rfl k) ?_
          refine oI2 X53 hx (hb hby at_346) (pc' := 348) rfl rfl ?_
          refine oN0 X53 hx (hb hby at_348) (pc' := 351) rfl ((if0 _ _).trans (feq (by decide : ¬ ((1 : Int32) = (0 : Int32)))).1) ?_
          refine oI2 X53 hx (hb hby at_351) (pc' := 353) rfl rfl ?_
          refine oI2 X53 hx (hb hby at_353) (pc' := 355) rfl rfl ?_
          refine oN X53 hx (hb hby at_355) (pc' := 358) rfl (teq (by decide : (-1 : Int32) = (-1 : Int32))).2 ?_
          refine oI2 X53 hx (hb hby at_358) (pc' := 360) rfl rfl ?_
          refine oI2 X53 hx (hb hby at_360) (pc' := 362) rfl rfl ?_
          refine oN X53 hx (hb hby at_362) (pc' := 365) rfl (teq (by decide : (2147483647 : Int32) = (2147483647 : Int32))).2 ?_
          refine oC X53 hx (1 : Int32) (hb hby at_365) (pc' := 366) rfl rfl ?_
          refine oG X53 hx (hb hby at_366) (pc' := 370) (by decide) (by decide) ?_
          refine own_pre (T' := T53) (f' := (mkF m 372 #[iv p1, iv p2, iv p3, iv p4, iv p5, iv p6, iv P1, iv P2, iv P3, iv (1 : Int32), iv (2 : Int32), iv q, rv b1, rv b5, rv o, iv (1 : Int32), iv (1 : Int32), iv (1 : Int32), iv (2 : Int32), iv (-1 : Int32), iv (2 : Int32), iv (-1 : Int32), iv (2147483647 : Int32), iv (2147483647 : Int32)] [])) (fun t k => XS.istore X53.here hx rfl (hb hby at_370) rfl (l' := #[iv p1, iv p2, iv p3, iv p4, iv p5, iv p6, iv P1, iv P2, iv P3, iv (1 : Int32), iv (2 : Int32), iv q, rv b1, rv b5, rv o, iv (1 : Int32), iv (1 : Int32), iv (1 : Int32), iv (2 : Int32), iv (-1 : Int32), iv (2 : Int32), iv (-1 : Int32), iv (2147483647 : Int32), iv (2147483647 : Int32)]) rfl k) ?_
          refine oI2 X53 hx (hb hby at_372) (pc' := 374) rfl rfl ?_
          refine oI2 X53 hx (hb hby at_374) (pc' := 376) rfl rfl ?_
          refine oY X53 hx (hb hby at_376) (pc' := 404) (flt (by decide : ¬ ((2 : Int32) < (2 : Int32)))).2.1 (by decide) (by decide) ?_
          refine oI2 X53 hx (hb hby at_404) (pc' := 406) rfl rfl ?_
          exact own_retZ X53 hx hlk hret (hb hby at_406) rfl (⟨rfl, Fr.nil _⟩) (by decide) (by decide)
        · refine oY X50 hx (hb hby at_242) (pc' := 248) (flt hc51).2.1 (by decide) (by decide) ?_
          refine oC X50 hx (2 : Int32) (hb hby at_248) (pc' := 249) rfl rfl ?_
          refine oI2 X50 hx (hb hby at_249) (pc' := 251) rfl rfl ?_
          refine oY X50 hx (hb hby at_251) (pc' := 264) (flt (by decide : ¬ ((2 : Int32) < (2 : Int32)))).2.1 (by decide) (by decide) ?_
          refine oI2 X50 hx (hb hby at_264) (pc' := 266) rfl rfl ?_
          refine oI2 X50 hx (hb hby at_266) (pc' := 268) rfl rfl ?_
          refine own_pre (T' := T50) (f' := (mkF m 269 #[iv p1, iv p2, iv p3, iv p4, iv p5, iv p6, iv P1, iv P2, iv P3, iv (1 : Int32), iv (2 : Int32), iv q, rv b1, rv b5, rv o, iv (1 : Int32), iv (1 : Int32), iv (0 : Int32), .unset, .unset, .unset, .unset, .unset, .unset] [(.int ((1 : Int32) + (0 : Int32)))])) (fun t k => XS.iadd X50.here hx rfl (hb hby at_268) rfl k) ?_
          rw [show ((1 : Int32) + (0 : Int32)) = (1 : Int32) from by decide]
          refine own_pre (T' := T50) (f' := (mkF m 271 #[iv p1, iv p2, iv p3, iv p4, iv p5, iv p6, iv P1, iv P2, iv P3, iv (1 : Int32), iv (2 : Int32), iv q, rv b1, rv b5, rv o, iv (1 : Int32), iv (1 : Int32), iv (0 : Int32), iv (1 : Int32), .unset, .unset, .unset, .unset, .unset] [])) (fun t k => XS.istore X50.here hx rfl (hb hby at_269) rfl (l' := #[iv p1, iv p2, iv p3, iv p4, iv p5, iv p6, iv P1, iv P2, iv P3, iv (1 : Int32), iv (2 : Int32), iv q, rv b1, rv b5, rv o, iv (1 : Int32), iv (1 : Int32), iv (0 : Int32), iv (1 : Int32), .unset, .unset, .unset, .unset, .unset]) rfl k) ?_
          refine oI2 X50 hx (hb hby at_271) (pc' := 273) rfl rfl ?_
          refine oI2 X50 hx (hb hby at_273) (pc' := 275) rfl rfl ?_
          refine oN X50 hx (hb hby at_275) (pc' := 278) rfl (tlt (by decide : (1 : Int32) < (2 : Int32))).2.1 ?_
          refine oA2 X50 hx (hb hby at_278) (pc' := 280) rfl rfl rfl ?_
          refine oI2 X50 hx (hb hby at_280) (pc' := 282) rfl rfl ?_
          refine own_pre (T' := T50) (f' := (mkF m 283 #[iv p1, iv p2, iv p3, iv p4, iv p5, iv p6, iv P1, iv P2, iv P3, iv (1 : Int32), iv (2 : Int32), iv q, rv b1, rv b5, rv o, iv (1 : Int32), iv (1 : Int32), iv (0 : Int32), iv (1 : Int32), .unset, .unset, .unset, .unset, .unset] [(.int P2)])) (fun t k => own_ldI X50 hx hZ e50 (V4.ext EX50_h4) (by decide) rfl (g := (mkF m 282 #[iv p1, iv p2, iv p3, iv p4, iv p5, iv p6, iv P1, iv P2, iv P3, iv (1 : Int32), iv (2 : Int32), iv q, rv b1, rv b5, rv o, iv (1 : Int32), iv (1 : Int32), iv (0 : Int32), iv (1 : Int32), .unset, .unset, .unset, .unset, .unset] [(.int (1 : Int32)), (.ref b1)])) rfl rfl (hb hby at_282) t k) ?_
          refine oI2 X50 hx (hb hby at_283) (pc' := 285) rfl rfl ?_
          by_cases hc54 : P2 = q
          · refine oN X50 hx (hb hby at_285) (pc' := 288) rfl (teq hc54).2 ?_
            refine oA2 X50 hx (hb hby at_288) (pc' := 290) rfl rfl rfl ?_
            refine oI2 X50 hx (hb hby at_290) (pc' := 292) rfl rfl ?_
            refine own_pre (T' := T50) (f' := (mkF m 293 #[iv p1, iv p2, iv p3, iv p4, iv p5, iv p6, iv P1, iv P2, iv P3, iv (1 : Int32), iv (2 : Int32), iv q, rv b1, rv b5, rv o, iv (1 : Int32), iv (1 : Int32), iv (0 : Int32), iv (1 : Int32), .unset, .unset, .unset, .unset, .unset] [(.int p4)])) (fun t k => own_ldI X50 hx hZ e50 (V8.ext EX50_h8) (by decide) rfl (g := (mkF m 292 #[iv p1, iv p2, iv p3, iv p4, iv p5, iv p6, iv P1, iv P2, iv P3, iv (1 : Int32), iv (2 : Int32), iv q, rv b1, rv b5, rv o, iv (1 : Int32), iv (1 : Int32), iv (0 : Int32), iv (1 : Int32), .unset, .unset, .unset, .unset, .unset] [(.int (1 : Int32)), (.ref b5)])) rfl rfl (hb hby at_292) t k) ?_
            refine own_pre (T' := T50) (f' := (mkF m 295 #[iv p1, iv p2, iv p3, iv p4, iv p5, iv p6, iv P1, iv P2, iv P3, iv (1 : Int32), iv (2 : Int32), iv q, rv b1, rv b5, rv o, iv (1 : Int32), iv (1 : Int32), iv (0 : Int32), iv (1 : Int32), iv p4, .unset, .unset, .unset, .unset] [])) (fun t k => XS.istore X50.here hx rfl (hb hby at_293) rfl (l' := #[iv p1, iv p2, iv p3, iv p4, iv p5, iv p6, iv P1, iv P2, iv P3, iv (1 : Int32), iv (2 : Int32), iv q, rv b1, rv b5, rv o, iv (1 : Int32), iv (1 : Int32), iv (0 : Int32), iv (1 : Int32), iv p4, .unset, .unset, .unset, .unset]) rfl k) ?_
            refine oI2 X50 hx (hb hby at_295) (pc' := 297) rfl rfl ?_
            refine oC X50 hx (1 : Int32) (hb hby at_297) (pc' := 298) rfl rfl ?_
            refine own_pre (T' := T50) (f' := (mkF m 299 #[iv p1, iv p2, iv p3, iv p4, iv p5, iv p6, iv P1, iv P2, iv P3, iv (1 : Int32), iv (2 : Int32), iv q, rv b1, rv b5, rv o, iv (1 : Int32), iv (1 : Int32), iv (0 : Int32), iv (1 : Int32), iv p4, .unset, .unset, .unset, .unset] [(.int ((1 : Int32) + (1 : Int32)))])) (fun t k => XS.iadd X50.here hx rfl (hb hby at_298) rfl k) ?_
            rw [show ((1 : Int32) + (1 : Int32)) = (2 : Int32) from by decide]
            refine own_pre (T' := T50) (f' := (mkF m 301 #[iv p1, iv p2, iv p3, iv p4, iv p5, iv p6, iv P1, iv P2, iv P3, iv (1 : Int32), iv (2 : Int32), iv q, rv b1, rv b5, rv o, iv (1 : Int32), iv (1 : Int32), iv (0 : Int32), iv (1 : Int32), iv p4, iv (2 : Int32), .unset, .unset, .unset] [])) (fun t k => XS.istore X50.here hx rfl (hb hby at_299) rfl (l' := #[iv p1, iv p2, iv p3, iv p4, iv p5, iv p6, iv P1, iv P2, iv P3, iv (1 : Int32), iv (2 : Int32), iv q, rv b1, rv b5, rv o, iv (1 : Int32), iv (1 : Int32), iv (0 : Int32), iv (1 : Int32), iv p4, iv (2 : Int32), .unset, .unset, .unset]) rfl k) ?_
            refine oG X50 hx (hb hby at_301) (pc' := 311) (by decide) (by decide) ?_
            refine oA2 X50 hx (hb hby at_311) (pc' := 313) rfl rfl rfl ?_
            refine oI2 X50 hx (hb hby at_313) (pc' := 315) rfl rfl ?_
            obtain ⟨T55, L55, v55, Y55a, ⟨rfl, N55, B55⟩, st55⟩ := own_callV X50 hx hZ e50 (y := (⟨"com/example/orthonorm/orthonorm/sanskrit/Anchors", "takeAt", "(I)I"⟩ : MethodName)) hown (hw _ (List.mem_of_getElem? (i := 17) rfl)) (hw _ (List.mem_of_getElem? (i := 18) rfl)) (hw _ (List.mem_of_getElem? (i := 20) rfl)) (hw _ (List.mem_of_getElem? (i := 19) rfl)) (hw _ (List.mem_of_getElem? (i := 21) rfl)) (hw _ (List.mem_of_getElem? (i := 4) rfl)) (by decide) 0 [(.int q)] [] (own_at_2_1_1_1 l Z a0 hw [] w_NO_ANCHORS k_NO_ANCHORS h50 (own_F_ext F0 EX50_h0) h8 Fb o P O kP kO P1 P2 (0 : Int32) (0 : Int32) (0 : Int32) (0 : Int32) (0 : Int32) (0 : Int32) p3 p4 (0 : Int32) (0 : Int32) (0 : Int32) (0 : Int32) (0 : Int32) (0 : Int32) B50 q hc51 hc54) (by decide) (by decide) (by decide) (by decide) (own_Ob_E B50.1) (g := (mkF m 315 #[iv p1, iv p2, iv p3, iv p4, iv p5, iv p6, iv P1, iv P2, iv P3, iv (1 : Int32), iv (2 : Int32), iv q, rv b1, rv b5, rv o, iv (1 : Int32), iv (1 : Int32), iv (0 : Int32), iv (1 : Int32), iv p4, iv (2 : Int32), .unset, .unset, .unset] [(.int q), (.ref o)])) rfl (by rw [hml]; rfl) (lenOf pd_3 rfl) rfl (by show 2 * 0 + _ ≤ _; exact Nat.le_of_eq rfl) (hb hby at_315)
            have X55 := Y55a.forget (fun y hy => Nat.le_trans hsz (N55 y hy))
            obtain ⟨h55, e55⟩ : ∃ y, T55.heap = y := ⟨_, rfl⟩
            rw [e55] at B55
            have EX55_h0 : Ext h0 h55 := own_extE EX8_h0 (own_Ob_X B55.1)
            have EX55_h4 : Ext h4 h55 := own_extE EX8_h4 (own_Ob_X B55.1)
            have EX55_h8 : Ext h8 h55 := own_Ob_X B55.1
            refine own_pre (T' := T55) (f' := (mkF m 318 #[iv p1, iv p2, iv p3, iv p4, iv p5, iv p6, iv P1, iv P2, iv P3, iv (1 : Int32), iv (2 : Int32), iv q, rv b1, rv b5, rv o, iv (1 : Int32), iv (1 : Int32), iv (0 : Int32), iv (1 : Int32), iv p4, iv (2 : Int32), .unset, .unset, .unset] [(.int p4)])) (fun t k => st55 t k) ?_
            refine own_pre (T' := T55) (f' := (mkF m 320 #[iv p1, iv p2, iv p3, iv p4, iv p5, iv p6, iv P1, iv P2, iv P3, iv (1 : Int32), iv (2 : Int32), iv q, rv b1, rv b5, rv o, iv (1 : Int32), iv (1 : Int32), iv (0 : Int32), iv (1 : Int32), iv p4, iv (2 : Int32), iv p4, .unset, .unset] [])) (fun t k => XS.istore X55.here hx rfl (hb hby at_318) rfl (l' := #[iv p1, iv p2, iv p3, iv p4, iv p5, iv p6, iv P1, iv P2, iv P3, iv (1 : Int32), iv (2 : Int32), iv q, rv b1, rv b5, rv o, iv (1 : Int32), iv (1 : Int32), iv (0 : Int32), iv (1 : Int32), iv p4, iv (2 : Int32), iv p4, .unset, .unset]) rfl k) ?_
            refine oA2 X55 hx (hb hby at_320) (pc' := 322) rfl rfl rfl ?_
            obtain ⟨T56, X56, e56, st56⟩ := own_pure (f := 0) (n := 0) (v := (some (.int (2147483647 : Int32)))) (own_callV X55 hx hZ e55 (y := (⟨"com/example/orthonorm/orthonorm/sanskrit/Anchors", "nextPlace", "()I"⟩ : MethodName)) hown (hw _ (List.mem_of_getElem? (i := 26) rfl)) (hw _ (List.mem_of_getElem? (i := 27) rfl)) (hw _ (List.mem_of_getElem? (i := 29) rfl)) (hw _ (List.mem_of_getElem? (i := 28) rfl)) (hw _ (List.mem_of_getElem? (i := 30) rfl)) (hw _ (List.mem_of_getElem? (i := 4) rfl)) (by decide) 0 [] [] (own_next_2_2 l Z a0 hw [] w_NO_ANCHORS k_NO_ANCHORS h55 (own_F_ext F0 EX55_h0) h8 Fb o P O kP kO P1 P2 (0 : Int32) (0 : Int32) (0 : Int32) (0 : Int32) (0 : Int32) (0 : Int32) p3 p4 (0 : Int32) (0 : Int32) (0 : Int32) (0 : Int32) (0 : Int32) (0 : Int32) B55) (by decide) (by decide) (by decide) (by decide) (own_Ob_E B55.1) (g := (mkF m 322 #[iv p1, iv p2, iv p3, iv p4, iv p5, iv p6, iv P1, iv P2, iv P3, iv (1 : Int32), iv (2 : Int32), iv q, rv b1, rv b5, rv o, iv (1 : Int32), iv (1 : Int32), iv (0 : Int32), iv (1 : Int32), iv p4, iv (2 : Int32), iv p4, .unset, .unset] [(.ref o)])) rfl (by rw [hml]; rfl) (lenOf pd_4 rfl) rfl (by show 2 * 0 + _ ≤ _; exact Nat.le_of_eq rfl) (hb hby at_322))
            refine own_pre (T' := T56) (f' := (mkF m 325 #[iv p1, iv p2, iv p3, iv p4, iv p5, iv p6, iv P1, iv P2, iv P3, iv (1 : Int32), iv (2 : Int32), iv q, rv b1, rv b5, rv o, iv (1 : Int32), iv (1 : Int32), iv (0 : Int32), iv (1 : Int32), iv p4, iv (2 : Int32), iv p4, .unset, .unset] [(.int (2147483647 : Int32))])) (fun t k => st56 t k) ?_
            refine own_pre (T' := T56) (f' := (mkF m 327 #[iv p1, iv p2, iv p3, iv p4, iv p5, iv p6, iv P1, iv P2, iv P3, iv (1 : Int32), iv (2 : Int32), iv q, rv b1, rv b5, rv o, iv (1 : Int32), iv (1 : Int32), iv (0 : Int32), iv (1 : Int32), iv p4, iv (2 : Int32), iv p4, iv (2147483647 : Int32), .unset] [])) (fun t k => XS.istore X56.here hx rfl (hb hby at_325) rfl (l' := #[iv p1, iv p2, iv p3, iv p4, iv p5, iv p6, iv P1, iv P2, iv P3, iv (1 : Int32), iv (2 : Int32), iv q, rv b1, rv b5, rv o, iv (1 : Int32), iv (1 : Int32), iv (0 : Int32), iv (1 : Int32), iv p4, iv (2 : Int32), iv p4, iv (2147483647 : Int32), .unset]) rfl k) ?_
            refine oI2 X56 hx (hb hby at_327) (pc' := 329) rfl rfl ?_
            refine oI2 X56 hx (hb hby at_329) (pc' := 331) rfl rfl ?_
            refine oY X56 hx (hb hby at_331) (pc' := 342) (flt (by decide : ¬ ((2 : Int32) < (2 : Int32)))).2.1 (by decide) (by decide) ?_
            refine own_pre (T' := T56) (f' := (mkF m 344 #[iv p1, iv p2, iv p3, iv p4, iv p5, iv p6, iv P1, iv P2, iv P3, iv (1 : Int32), iv (2 : Int32), iv q, rv b1, rv b5, rv o, iv (1 : Int32), iv (1 : Int32), iv (0 : Int32), iv (1 : Int32), iv p4, iv (2 : Int32), iv p4, iv (2147483647 : Int32), .unset] [(.int (2147483647 : Int32))])) (fun t k => X56.ldcInt hx hown (mvT hZ (hw _ (List.mem_of_getElem? (i := 32) rfl))) (g := (mkF m 342 #[iv p1, iv p2, iv p3, iv p4, iv p5, iv p6, iv P1, iv P2, iv P3, iv (1 : Int32), iv (2 : Int32), iv q, rv b1, rv b5, rv o, iv (1 : Int32), iv (1 : Int32), iv (0 : Int32), iv (1 : Int32), iv p4, iv (2 : Int32), iv p4, iv (2147483647 : Int32), .unset] [])) rfl (hb hby at_342) t k) ?_
            refine own_pre (T' := T56) (f' := (mkF m 346 #[iv p1, iv p2, iv p3, iv p4, iv p5, iv p6, iv P1, iv P2, iv P3, iv (1 : Int32), iv (2 : Int32), iv q, rv b1, rv b5, rv o, iv (1 : Int32), iv (1 : Int32), iv (0 : Int32), iv (1 : Int32), iv p4, iv (2 : Int32), iv p4, iv (2147483647 : Int32), iv (2147483647 : Int32)] [])) (fun t k => XS.istore X56.here hx rfl (hb hby at_344) rfl (l' := #[iv p1, iv p2, iv p3, iv p4, iv p5, iv p6, iv P1, iv P2, iv P3, iv (1 : Int32), iv (2 : Int32), iv q, rv b1, rv b5, rv o, iv (1 : Int32), iv (1 : Int32), iv (0 : Int32), iv (1 : Int32), iv p4, iv (2 : Int32), iv p4, iv (2147483647 : Int32), iv (2147483647 : Int32)]) rfl k) ?_
            refine oI2 X56 hx (hb hby at_346) (pc' := 348) rfl rfl ?_
            refine oN0 X56 hx (hb hby at_348) (pc' := 351) rfl ((if0 _ _).trans (feq (by decide : ¬ ((1 : Int32) = (0 : Int32)))).1) ?_
            refine oI2 X56 hx (hb hby at_351) (pc' := 353) rfl rfl ?_
            refine oI2 X56 hx (hb hby at_353) (pc' := 355) rfl rfl ?_
            refine oN X56 hx (hb hby at_355) (pc' := 358) rfl (teq (rfl : p4 = p4)).2 ?_
            refine oI2 X56 hx (hb hby at_358) (pc' := 360) rfl rfl ?_
            refine oI2 X56 hx (hb hby at_360) (pc' := 362) rfl rfl ?_
            refine oN X56 hx (hb hby at_362) (pc' := 365) rfl (teq (by decide : (2147483647 : Int32) = (2147483647 : Int32))).2 ?_
            refine oC X56 hx (1 : Int32) (hb hby at_365) (pc' := 366) rfl rfl ?_
            refine oG X56 hx (hb hby at_366) (pc' := 370) (by decide) (by decide) ?_
            refine own_pre (T' := T56) (f' := (mkF m 372 #[iv p1, iv p2, iv p3, iv p4, iv p5, iv p6, iv P1, iv P2, iv P3, iv (1 : Int32), iv (2 : Int32), iv q, rv b1, rv b5, rv o, iv (1 : Int32), iv (1 : Int32), iv (0 : Int32), iv (1 : Int32), iv p4, iv (2 : Int32), iv p4, iv (2147483647 : Int32), iv (2147483647 : Int32)] [])) (fun t k => XS.istore X56.here hx rfl (hb hby at_370) rfl (l' := #[iv p1, iv p2, iv p3, iv p4, iv p5, iv p6, iv P1, iv P2, iv P3, iv (1 : Int32), iv (2 : Int32), iv q, rv b1, rv b5, rv o, iv (1 : Int32), iv (1 : Int32), iv (0 : Int32), iv (1 : Int32), iv p4, iv (2 : Int32), iv p4, iv (2147483647 : Int32), iv (2147483647 : Int32)]) rfl k) ?_
            refine oI2 X56 hx (hb hby at_372) (pc' := 374) rfl rfl ?_
            refine oI2 X56 hx (hb hby at_374) (pc' := 376) rfl rfl ?_
            refine oY X56 hx (hb hby at_376) (pc' := 404) (flt (by decide : ¬ ((2 : Int32) < (2 : Int32)))).2.1 (by decide) (by decide) ?_
            refine oI2 X56 hx (hb hby at_404) (pc' := 406) rfl rfl ?_
            exact own_retZ X56 hx hlk hret (hb hby at_406) rfl (⟨rfl, Fr.nil _⟩) (by decide) (by decide)
          · refine oY X50 hx (hb hby at_285) (pc' := 304) (feq hc54).2 (by decide) (by decide) ?_
            refine oC X50 hx (-1 : Int32) (hb hby at_304) (pc' := 305) rfl rfl ?_
            refine own_pre (T' := T50) (f' := (mkF m 307 #[iv p1, iv p2, iv p3, iv p4, iv p5, iv p6, iv P1, iv P2, iv P3, iv (1 : Int32), iv (2 : Int32), iv q, rv b1, rv b5, rv o, iv (1 : Int32), iv (1 : Int32), iv (0 : Int32), iv (1 : Int32), iv (-1 : Int32), .unset, .unset, .unset, .unset] [])) (fun t k => XS.istore X50.here hx rfl (hb hby at_305) rfl (l' := #[iv p1, iv p2, iv p3, iv p4, iv p5, iv p6, iv P1, iv P2, iv P3, iv (1 : Int32), iv (2 : Int32), iv q, rv b1, rv b5, rv o, iv (1 : Int32), iv (1 : Int32), iv (0 : Int32), iv (1 : Int32), iv (-1 : Int32), .unset, .unset, .unset, .unset]) rfl k) ?_
            refine oI2 X50 hx (hb hby at_307) (pc' := 309) rfl rfl ?_
            refine own_pre (T' := T50) (f' := (mkF m 311 #[iv p1, iv p2, iv p3, iv p4, iv p5, iv p6, iv P1, iv P2, iv P3, iv (1 : Int32), iv (2 : Int32), iv q, rv b1, rv b5, rv o, iv (1 : Int32), iv (1 : Int32), iv (0 : Int32), iv (1 : Int32), iv (-1 : Int32), iv (1 : Int32), .unset, .unset, .unset] [])) (fun t k => XS.istore X50.here hx rfl (hb hby at_309) rfl (l' := #[iv p1, iv p2, iv p3, iv p4, iv p5, iv p6, iv P1, iv P2, iv P3, iv (1 : Int32), iv (2 : Int32), iv q, rv b1, rv b5, rv o, iv (1 : Int32), iv (1 : Int32), iv (0 : Int32), iv (1 : Int32), iv (-1 : Int32), iv (1 : Int32), .unset, .unset, .unset]) rfl k) ?_
            refine oA2 X50 hx (hb hby at_311) (pc' := 313) rfl rfl rfl ?_
            refine oI2 X50 hx (hb hby at_313) (pc' := 315) rfl rfl ?_
            obtain ⟨T57, X57, e57, st57⟩ := own_pure (f := 0) (n := 0) (v := (some (.int (-1 : Int32)))) (own_callV X50 hx hZ e50 (y := (⟨"com/example/orthonorm/orthonorm/sanskrit/Anchors", "takeAt", "(I)I"⟩ : MethodName)) hown (hw _ (List.mem_of_getElem? (i := 17) rfl)) (hw _ (List.mem_of_getElem? (i := 18) rfl)) (hw _ (List.mem_of_getElem? (i := 20) rfl)) (hw _ (List.mem_of_getElem? (i := 19) rfl)) (hw _ (List.mem_of_getElem? (i := 21) rfl)) (hw _ (List.mem_of_getElem? (i := 4) rfl)) (by decide) 0 [(.int q)] [] (own_at_2_1_1_0 l Z a0 hw [] w_NO_ANCHORS k_NO_ANCHORS h50 (own_F_ext F0 EX50_h0) h8 Fb o P O kP kO P1 P2 (0 : Int32) (0 : Int32) (0 : Int32) (0 : Int32) (0 : Int32) (0 : Int32) p3 p4 (0 : Int32) (0 : Int32) (0 : Int32) (0 : Int32) (0 : Int32) (0 : Int32) B50 q hc51 hc54) (by decide) (by decide) (by decide) (by decide) (own_Ob_E B50.1) (g := (mkF m 315 #[iv p1, iv p2, iv p3, iv p4, iv p5, iv p6, iv P1, iv P2, iv P3, iv (1 : Int32), iv (2 : Int32), iv q, rv b1, rv b5, rv o, iv (1 : Int32), iv (1 : Int32), iv (0 : Int32), iv (1 : Int32), iv (-1 : Int32), iv (1 : Int32), .unset, .unset, .unset] [(.int q), (.ref o)])) rfl (by rw [hml]; rfl) (lenOf pd_3 rfl) rfl (by show 2 * 0 + _ ≤ _; exact Nat.le_of_eq rfl) (hb hby at_315))
            refine own_pre (T' := T57) (f' := (mkF m 318 #[iv p1, iv p2, iv p3, iv p4, iv p5, iv p6, iv P1, iv P2, iv P3, iv (1 : Int32), iv (2 : Int32), iv q, rv b1, rv b5, rv o, iv (1 : Int32), iv (1 : Int32), iv (0 : Int32), iv (1 : Int32), iv (-1 : Int32), iv (1 : Int32), .unset, .unset, .unset] [(.int (-1 : Int32))])) (fun t k => st57 t k) ?_
            refine own_pre (T' := T57) (f' := (mkF m 320 #[iv p1, iv p2, iv p3, iv p4, iv p5, iv p6, iv P1, iv P2, iv P3, iv (1 : Int32), iv (2 : Int32), iv q, rv b1, rv b5, rv o, iv (1 : Int32), iv (1 : Int32), iv (0 : Int32), iv (1 : Int32), iv (-1 : Int32), iv (1 : Int32), iv (-1 : Int32), .unset, .unset] [])) (fun t k => XS.istore X57.here hx rfl (hb hby at_318) rfl (l' := #[iv p1, iv p2, iv p3, iv p4, iv p5, iv p6, iv P1, iv P2, iv P3, iv (1 : Int32), iv (2 : Int32), iv q, rv b1, rv b5, rv o, iv (1 : Int32), iv (1 : Int32), iv (0 : Int32), iv (1 : Int32), iv (-1 : Int32), iv (1 : Int32), iv (-1 : Int32), .unset, .unset]) rfl k) ?_
            refine oA2 X57 hx (hb hby at_320) (pc' := 322) rfl rfl rfl ?_
            obtain ⟨T58, X58, e58, st58⟩ := own_pure (f := 0) (n := 0) (v := (some (.int P2))) (own_callV X57 hx hZ e57 (y := (⟨"com/example/orthonorm/orthonorm/sanskrit/Anchors", "nextPlace", "()I"⟩ : MethodName)) hown (hw _ (List.mem_of_getElem? (i := 26) rfl)) (hw _ (List.mem_of_getElem? (i := 27) rfl)) (hw _ (List.mem_of_getElem? (i := 29) rfl)) (hw _ (List.mem_of_getElem? (i := 28) rfl)) (hw _ (List.mem_of_getElem? (i := 30) rfl)) (hw _ (List.mem_of_getElem? (i := 4) rfl)) (by decide) 0 [] [] (own_next_2_1 l Z a0 hw [] w_NO_ANCHORS k_NO_ANCHORS h50 (own_F_ext F0 EX50_h0) h8 Fb o P O kP kO P1 P2 (0 : Int32) (0 : Int32) (0 : Int32) (0 : Int32) (0 : Int32) (0 : Int32) p3 p4 (0 : Int32) (0 : Int32) (0 : Int32) (0 : Int32) (0 : Int32) (0 : Int32) B50) (by decide) (by decide) (by decide) (by decide) (own_Ob_E B50.1) (g := (mkF m 322 #[iv p1, iv p2, iv p3, iv p4, iv p5, iv p6, iv P1, iv P2, iv P3, iv (1 : Int32), iv (2 : Int32), iv q, rv b1, rv b5, rv o, iv (1 : Int32), iv (1 : Int32), iv (0 : Int32), iv (1 : Int32), iv (-1 : Int32), iv (1 : Int32), iv (-1 : Int32), .unset, .unset] [(.ref o)])) rfl (by rw [hml]; rfl) (lenOf pd_4 rfl) rfl (by show 2 * 0 + _ ≤ _; exact Nat.le_of_eq rfl) (hb hby at_322))
            refine own_pre (T' := T58) (f' := (mkF m 325 #[iv p1, iv p2, iv p3, iv p4, iv p5, iv p6, iv P1, iv P2, iv P3, iv (1 : Int32), iv (2 : Int32), iv q, rv b1, rv b5, rv o, iv (1 : Int32), iv (1 : Int32), iv (0 : Int32), iv (1 : Int32), iv (-1 : Int32), iv (1 : Int32), iv (-1 : Int32), .unset, .unset] [(.int P2)])) (fun t k => st58 t k) ?_
            refine own_pre (T' := T58) (f' := (mkF m 327 #[iv p1, iv p2, iv p3, iv p4, iv p5, iv p6, iv P1, iv P2, iv P3, iv (1 : Int32), iv (2 : Int32), iv q, rv b1, rv b5, rv o, iv (1 : Int32), iv (1 : Int32), iv (0 : Int32), iv (1 : Int32), iv (-1 : Int32), iv (1 : Int32), iv (-1 : Int32), iv P2, .unset] [])) (fun t k => XS.istore X58.here hx rfl (hb hby at_325) rfl (l' := #[iv p1, iv p2, iv p3, iv p4, iv p5, iv p6, iv P1, iv P2, iv P3, iv (1 : Int32), iv (2 : Int32), iv q, rv b1, rv b5, rv o, iv (1 : Int32), iv (1 : Int32), iv (0 : Int32), iv (1 : Int32), iv (-1 : Int32), iv (1 : Int32), iv (-1 : Int32), iv P2, .unset]) rfl k) ?_
            refine oI2 X58 hx (hb hby at_327) (pc' := 329) rfl rfl ?_
            refine oI2 X58 hx (hb hby at_329) (pc' := 331) rfl rfl ?_
            refine oN X58 hx (hb hby at_331) (pc' := 334) rfl (tlt (by decide : (1 : Int32) < (2 : Int32))).2.1 ?_
            refine oA2 X58 hx (hb hby at_334) (pc' := 336) rfl rfl rfl ?_
            refine oI2 X58 hx (hb hby at_336) (pc' := 338) rfl rfl ?_
            refine own_pre (T' := T58) (f' := (mkF m 339 #[iv p1, iv p2, iv p3, iv p4, iv p5, iv p6, iv P1, iv P2, iv P3, iv (1 : Int32), iv (2 : Int32), iv q, rv b1, rv b5, rv o, iv (1 : Int32), iv (1 : Int32), iv (0 : Int32), iv (1 : Int32), iv (-1 : Int32), iv (1 : Int32), iv (-1 : Int32), iv P2, .unset] [(.int P2)])) (fun t k => own_ldI X58 hx hZ e58 (V4.ext EX50_h4) (by decide) rfl (g := (mkF m 338 #[iv p1, iv p2, iv p3, iv p4, iv p5, iv p6, iv P1, iv P2, iv P3, iv (1 : Int32), iv (2 : Int32), iv q, rv b1, rv b5, rv o, iv (1 : Int32), iv (1 : Int32), iv (0 : Int32), iv (1 : Int32), iv (-1 : Int32), iv (1 : Int32), iv (-1 : Int32), iv P2, .unset] [(.int (1 : Int32)), (.ref b1)])) rfl rfl (hb hby at_338) t k) ?_
            refine oG X58 hx (hb hby at_339) (pc' := 344) (by decide) (by decide) ?_
            refine own_pre (T' := T58) (f' := (mkF m 346 #[iv p1, iv p2, iv p3, iv p4, iv p5, iv p6, iv P1, iv P2, iv P3, iv (1 : Int32), iv (2 : Int32), iv q, rv b1, rv b5, rv o, iv (1 : Int32), iv (1 : Int32), iv (0 : Int32), iv (1 : Int32), iv (-1 : Int32), iv (1 : Int32), iv (-1 : Int32), iv P2, iv P2] [])) (fun t k => XS.istore X58.here hx rfl (hb hby at_344) rfl (l' := #[iv p1, iv p2, iv p3, iv p4, iv p5, iv p6, iv P1, iv P2, iv P3, iv (1 : Int32), iv (2 : Int32), iv q, rv b1, rv b5, rv o, iv (1 : Int32), iv (1 : Int32), iv (0 : Int32), iv (1 : Int32), iv (-1 : Int32), iv (1 : Int32), iv (-1 : Int32), iv P2, iv P2]) rfl k) ?_
            refine oI2 X58 hx (hb hby at_346) (pc' := 348) rfl rfl ?_
            refine oN0 X58 hx (hb hby at_348) (pc' := 351) rfl ((if0 _ _).trans (feq (by decide : ¬ ((1 : Int32) = (0 : Int32)))).1) ?_
            refine oI2 X58 hx (hb hby at_351) (pc' := 353) rfl rfl ?_
            refine oI2 X58 hx (hb hby at_353) (pc' := 355) rfl rfl ?_
            refine oN X58 hx (hb hby at_355) (pc' := 358) rfl (teq (by decide : (-1 : Int32) = (-1 : Int32))).2 ?_
            refine oI2 X58 hx (hb hby at_358) (pc' := 360) rfl rfl ?_
            refine oI2 X58 hx (hb hby at_360) (pc' := 362) rfl rfl ?_
            refine oN X58 hx (hb hby at_362) (pc' := 365) rfl (teq (rfl : P2 = P2)).2 ?_
            refine oC X58 hx (1 : Int32) (hb hby at_365) (pc' := 366) rfl rfl ?_
            refine oG X58 hx (hb hby at_366) (pc' := 370) (by decide) (by decide) ?_
            refine own_pre (T' := T58) (f' := (mkF m 372 #[iv p1, iv p2, iv p3, iv p4, iv p5, iv p6, iv P1, iv P2, iv P3, iv (1 : Int32), iv (2 : Int32), iv q, rv b1, rv b5, rv o, iv (1 : Int32), iv (1 : Int32), iv (0 : Int32), iv (1 : Int32), iv (-1 : Int32), iv (1 : Int32), iv (-1 : Int32), iv P2, iv P2] [])) (fun t k => XS.istore X58.here hx rfl (hb hby at_370) rfl (l' := #[iv p1, iv p2, iv p3, iv p4, iv p5, iv p6, iv P1, iv P2, iv P3, iv (1 : Int32), iv (2 : Int32), iv q, rv b1, rv b5, rv o, iv (1 : Int32), iv (1 : Int32), iv (0 : Int32), iv (1 : Int32), iv (-1 : Int32), iv (1 : Int32), iv (-1 : Int32), iv P2, iv P2]) rfl k) ?_
            refine oI2 X58 hx (hb hby at_372) (pc' := 374) rfl rfl ?_
            refine oI2 X58 hx (hb hby at_374) (pc' := 376) rfl rfl ?_
            refine oN X58 hx (hb hby at_376) (pc' := 379) rfl (tlt (by decide : (1 : Int32) < (2 : Int32))).2.1 ?_
            refine oI2 X58 hx (hb hby at_379) (pc' := 381) rfl rfl ?_
            refine oN0 X58 hx (hb hby at_381) (pc' := 384) rfl ((if0 _ _).trans (feq (by decide : ¬ ((1 : Int32) = (0 : Int32)))).1) ?_
            refine oA2 X58 hx (hb hby at_384) (pc' := 386) rfl rfl rfl ?_
            obtain ⟨T59, L59, v59, Y59a, ⟨rfl, N59, B59⟩, st59⟩ := own_callV X58 hx hZ e58 (y := (⟨"com/example/orthonorm/orthonorm/sanskrit/Anchors", "take", "()I"⟩ : MethodName)) hown (hw _ (List.mem_of_getElem? (i := 53) rfl)) (hw _ (List.mem_of_getElem? (i := 54) rfl)) (hw _ (List.mem_of_getElem? (i := 56) rfl)) (hw _ (List.mem_of_getElem? (i := 55) rfl)) (hw _ (List.mem_of_getElem? (i := 57) rfl)) (hw _ (List.mem_of_getElem? (i := 4) rfl)) (by decide) 0 [] [] (own_take_1 l Z a0 hw [] w_NO_ANCHORS k_NO_ANCHORS h50 (own_F_ext F0 EX50_h0) h8 Fb o P O kP kO P1 P2 (0 : Int32) (0 : Int32) (0 : Int32) (0 : Int32) (0 : Int32) (0 : Int32) p3 p4 (0 : Int32) (0 : Int32) (0 : Int32) (0 : Int32) (0 : Int32) (0 : Int32) (2 : Int32) B50) (by decide) (by decide) (by decide) (by decide) (own_Ob_E B50.1) (g := (mkF m 386 #[iv p1, iv p2, iv p3, iv p4, iv p5, iv p6, iv P1, iv P2, iv P3, iv (1 : Int32), iv (2 : Int32), iv q, rv b1, rv b5, rv o, iv (1 : Int32), iv (1 : Int32), iv (0 : Int32), iv (1 : Int32), iv (-1 : Int32), iv (1 : Int32), iv (-1 : Int32), iv P2, iv P2] [(.ref o)])) rfl (by rw [hml]; rfl) (lenOf pd_4 rfl) rfl (by show 2 * 0 + _ ≤ _; exact Nat.le_of_eq rfl) (hb hby at_386)
            have X59 := Y59a.forget (fun y hy => Nat.le_trans hsz (N59 y hy))
            obtain ⟨h59, e59⟩ : ∃ y, T59.heap = y := ⟨_, rfl⟩
            rw [e59] at B59
            have EX59_h0 : Ext h0 h59 := own_extE EX8_h0 (own_Ob_X B59.1)
            have EX59_h4 : Ext h4 h59 := own_extE EX8_h4 (own_Ob_X B59.1)
            have EX59_h8 : Ext h8 h59 := own_Ob_X B59.1
            refine own_pre (T' := T59) (f' := (mkF m 389 #[iv p1, iv p2, iv p3, iv p4, iv p5, iv p6, iv P1, iv P2, iv P3, iv (1 : Int32), iv (2 : Int32), iv q, rv b1, rv b5, rv o, iv (1 : Int32), iv (1 : Int32), iv (0 : Int32), iv (1 : Int32), iv (-1 : Int32), iv (1 : Int32), iv (-1 : Int32), iv P2, iv P2] [(.int p4)])) (fun t k => st59 t k) ?_
            refine oA2 X59 hx (hb hby at_389) (pc' := 391) rfl rfl rfl ?_
            refine oI2 X59 hx (hb hby at_391) (pc' := 393) rfl rfl ?_
            refine own_pre (T' := T59) (f' := (mkF m 394 #[iv p1, iv p2, iv p3, iv p4, iv p5, iv p6, iv P1, iv P2, iv P3, iv (1 : Int32), iv (2 : Int32), iv q, rv b1, rv b5, rv o, iv (1 : Int32), iv (1 : Int32), iv (0 : Int32), iv (1 : Int32), iv (-1 : Int32), iv (1 : Int32), iv (-1 : Int32), iv P2, iv P2] [(.int p4), (.int p4)])) (fun t k => own_ldI X59 hx hZ e59 (V8.ext EX59_h8) (by decide) rfl (g := (mkF m 393 #[iv p1, iv p2, iv p3, iv p4, iv p5, iv p6, iv P1, iv P2, iv P3, iv (1 : Int32), iv (2 : Int32), iv q, rv b1, rv b5, rv o, iv (1 : Int32), iv (1 : Int32), iv (0 : Int32), iv (1 : Int32), iv (-1 : Int32), iv (1 : Int32), iv (-1 : Int32), iv P2, iv P2] [(.int (1 : Int32)), (.ref b5), (.int p4)])) rfl rfl (hb hby at_393) t k) ?_
            refine oN X59 hx (hb hby at_394) (pc' := 397) rfl (teq (rfl : p4 = p4)).2 ?_
            refine oC X59 hx (1 : Int32) (hb hby at_397) (pc' := 398) rfl rfl ?_
            refine oG X59 hx (hb hby at_398) (pc' := 402) (by decide) (by decide) ?_
            refine own_pre (T' := T59) (f' := (mkF m 404 #[iv p1, iv p2, iv p3, iv p4, iv p5, iv p6, iv P1, iv P2, iv P3, iv (1 : Int32), iv (2 : Int32), iv q, rv b1, rv b5, rv o, iv (1 : Int32), iv (1 : Int32), iv (0 : Int32), iv (1 : Int32), iv (-1 : Int32), iv (1 : Int32), iv (-1 : Int32), iv P2, iv P2] [])) (fun t k => XS.istore X59.here hx rfl (hb hby at_402) rfl (l' := #[iv p1, iv p2, iv p3, iv p4, iv p5, iv p6, iv P1, iv P2, iv P3, iv (1 : Int32), iv (2 : Int32), iv q, rv b1, rv b5, rv o, iv (1 : Int32), iv (1 : Int32), iv (0 : Int32), iv (1 : Int32), iv (-1 : Int32), iv (1 : Int32), iv (-1 : Int32), iv P2, iv P2]) rfl k) ?_
            refine oI2 X59 hx (hb hby at_404) (pc' := 406) rfl rfl ?_
            exact own_retZ X59 hx hlk hret (hb hby at_406) rfl (⟨rfl, Fr.nil _⟩) (by decide) (by decide)
    · rcases hpr with rfl | rfl
      · refine oI2 X10 hx (hb hby at_123) (pc' := 125) rfl rfl ?_
        refine oC X10 hx (1 : Int32) (hb hby at_125) (pc' := 126) rfl rfl ?_
        refine oN X10 hx (hb hby at_126) (pc' := 129) rfl (flt (by decide : ¬ ((3 : Int32) < (1 : Int32)))).1 ?_
        refine oA2 X10 hx (hb hby at_129) (pc' := 131) rfl rfl rfl ?_
        refine oI2 X10 hx (hb hby at_131) (pc' := 133) rfl rfl ?_
        refine oI1 X10 hx (hb hby at_133) (pc' := 134) rfl rfl ?_
        obtain ⟨T60, L60, v60, Y60a, ⟨rfl, N60, P, O, kP, kO, B60⟩, st60⟩ := own_callV X10 hx hZ e10 (y := (⟨"com/example/orthonorm/orthonorm/sanskrit/Anchors", "add", "(II)V"⟩ : MethodName)) hown (hw _ (List.mem_of_getElem? (i := 33) rfl)) (hw _ (List.mem_of_getElem? (i := 34) rfl)) (hw _ (List.mem_of_getElem? (i := 36) rfl)) (hw _ (List.mem_of_getElem? (i := 35) rfl)) (hw _ (List.mem_of_getElem? (i := 37) rfl)) (hw _ (List.mem_of_getElem? (i := 4) rfl)) (by decide) 0 [(.int P1), (.int p3)] [] (own_add1 l Z a0 hw [] w_NO_ANCHORS k_NO_ANCHORS h10 (own_F_ext F0 EX10_h0) h8 Fb o P1 p3 B10) (by decide) (by decide) (by decide) (by decide) (own_Ob_E B10) (g := (mkF m 134 #[iv p1, iv p2, iv p3, iv p4, iv p5, iv p6, iv P1, iv P2, iv P3, iv (0 : Int32), iv (3 : Int32), iv q, rv b1, rv b5, rv o, .unset, .unset, .unset, .unset, .unset, .unset, .unset, .unset, .unset] [(.int p3), (.int P1), (.ref o)])) rfl (by rw [hml]; rfl) (lenOf pd_5 rfl) rfl (by show 2 * 0 + _ ≤ _; exact Nat.le_of_eq rfl) (hb hby at_134)
        have X60 := Y60a.forget (fun y hy => Nat.le_trans hsz (N60 y hy))
        obtain ⟨h60, e60⟩ : ∃ y, T60.heap = y := ⟨_, rfl⟩
        rw [e60] at B60
        have EX60_h0 : Ext h0 h60 := own_extE EX8_h0 (own_Ob_X B60.1)
        have EX60_h4 : Ext h4 h60 := own_extE EX8_h4 (own_Ob_X B60.1)
        have EX60_h8 : Ext h8 h60 := own_Ob_X B60.1
        refine own_pre (T' := T60) (f' := (mkF m 137 #[iv p1, iv p2, iv p3, iv p4, iv p5, iv p6, iv P1, iv P2, iv P3, iv (0 : Int32), iv (3 : Int32), iv q, rv b1, rv b5, rv o, .unset, .unset, .unset, .unset, .unset, .unset, .unset, .unset, .unset] [])) (fun t k => st60 t k) ?_
        refine oI2 X60 hx (hb hby at_137) (pc' := 139) rfl rfl ?_
        refine oC X60 hx (2 : Int32) (hb hby at_139) (pc' := 140) rfl rfl ?_
        refine oN X60 hx (hb hby at_140) (pc' := 143) rfl (flt (by decide : ¬ ((3 : Int32) < (2 : Int32)))).1 ?_
        refine oA2 X60 hx (hb hby at_143) (pc' := 145) rfl rfl rfl ?_
        refine oI2 X60 hx (hb hby at_145) (pc' := 147) rfl rfl ?_
        refine oI1 X60 hx (hb hby at_147) (pc' := 148) rfl rfl ?_
        obtain ⟨T61, L61, v61, Y61a, ⟨rfl, N61, B61⟩, st61⟩ := own_callV X60 hx hZ e60 (y := (⟨"com/example/orthonorm/orthonorm/sanskrit/Anchors", "add", "(II)V"⟩ : MethodName)) hown (hw _ (List.mem_of_getElem? (i := 33) rfl)) (hw _ (List.mem_of_getElem? (i := 34) rfl)) (hw _ (List.mem_of_getElem? (i := 36) rfl)) (hw _ (List.mem_of_getElem? (i := 35) rfl)) (hw _ (List.mem_of_getElem? (i := 37) rfl)) (hw _ (List.mem_of_getElem? (i := 4) rfl)) (by decide) 0 [(.int P2), (.int p4)] [] (own_add_1 l Z a0 hw [] w_NO_ANCHORS k_NO_ANCHORS h60 (own_F_ext F0 EX60_h0) h8 Fb o P O kP kO P1 (0 : Int32) (0 : Int32) (0 : Int32) (0 : Int32) (0 : Int32) (0 : Int32) (0 : Int32) p3 (0 : Int32) (0 : Int32) (0 : Int32) (0 : Int32) (0 : Int32) (0 : Int32) (0 : Int32) B60 P2 p4 (own_lne hP12)) (by decide) (by decide) (by decide) (by decide) (own_Ob_E B60.1) (g := (mkF m 148 #[iv p1, iv p2, iv p3, iv p4, iv p5, iv p6, iv P1, iv P2, iv P3, iv (0 : Int32), iv (3 : Int32), iv q, rv b1, rv b5, rv o, .unset, .unset, .unset, .unset, .unset, .unset, .unset, .unset, .unset] [(.int p4), (.int P2), (.ref o)])) rfl (by rw [hml]; rfl) (lenOf pd_5 rfl) rfl (by show 2 * 0 + _ ≤ _; exact Nat.le_of_eq rfl) (hb hby at_148)
        have X61 := Y61a.forget (fun y hy => Nat.le_trans hsz (N61 y hy))
        obtain ⟨h61, e61⟩ : ∃ y, T61.heap = y := ⟨_, rfl⟩
        rw [e61] at B61
        have EX61_h0 : Ext h0 h61 := own_extE EX8_h0 (own_Ob_X B61.1)
        have EX61_h4 : Ext h4 h61 := own_extE EX8_h4 (own_Ob_X B61.1)
        have EX61_h8 : Ext h8 h61 := own_Ob_X B61.1
        refine own_pre (T' := T61) (f' := (mkF m 151 #[iv p1, iv p2, iv p3, iv p4, iv p5, iv p6, iv P1, iv P2, iv P3, iv (0 : Int32), iv (3 : Int32), iv q, rv b1, rv b5, rv o, .unset, .unset, .unset, .unset, .unset, .unset, .unset, .unset, .unset] [])) (fun t k => st61 t k) ?_
        refine oI2 X61 hx (hb hby at_151) (pc' := 153) rfl rfl ?_
        refine oC X61 hx (3 : Int32) (hb hby at_153) (pc' := 154) rfl rfl ?_
        refine oN X61 hx (hb hby at_154) (pc' := 157) rfl (flt (by decide : ¬ ((3 : Int32) < (3 : Int32)))).1 ?_
        refine oA2 X61 hx (hb hby at_157) (pc' := 159) rfl rfl rfl ?_
        refine oI2 X61 hx (hb hby at_159) (pc' := 161) rfl rfl ?_
        refine oI2 X61 hx (hb hby at_161) (pc' := 163) rfl rfl ?_
        obtain ⟨T62, L62, v62, Y62a, ⟨rfl, N62, B62⟩, st62⟩ := own_callV X61 hx hZ e61 (y := (⟨"com/example/orthonorm/orthonorm/sanskrit/Anchors", "add", "(II)V"⟩ : MethodName)) hown (hw _ (List.mem_of_getElem? (i := 33) rfl)) (hw _ (List.mem_of_getElem? (i := 34) rfl)) (hw _ (List.mem_of_getElem? (i := 36) rfl)) (hw _ (List.mem_of_getElem? (i := 35) rfl)) (hw _ (List.mem_of_getElem? (i := 37) rfl)) (hw _ (List.mem_of_getElem? (i := 4) rfl)) (by decide) 0 [(.int P3), (.int p5)] [] (own_add_2 l Z a0 hw [] w_NO_ANCHORS k_NO_ANCHORS h61 (own_F_ext F0 EX61_h0) h8 Fb o P O kP kO P1 P2 (0 : Int32) (0 : Int32) (0 : Int32) (0 : Int32) (0 : Int32) (0 : Int32) p3 p4 (0 : Int32) (0 : Int32) (0 : Int32) (0 : Int32) (0 : Int32) (0 : Int32) B61 P3 p5 (own_lne hP23)) (by decide) (by decide) (by decide) (by decide) (own_Ob_E B61.1) (g := (mkF m 163 #[iv p1, iv p2, iv p3, iv p4, iv p5, iv p6, iv P1, iv P2, iv P3, iv (0 : Int32), iv (3 : Int32), iv q, rv b1, rv b5, rv o, .unset, .unset, .unset, .unset, .unset, .unset, .unset, .unset, .unset] [(.int p5), (.int P3), (.ref o)])) rfl (by rw [hml]; rfl) (lenOf pd_5 rfl) rfl (by show 2 * 0 + _ ≤ _; exact Nat.le_of_eq rfl) (hb hby at_163)
        have X62 := Y62a.forget (fun y hy => Nat.le_trans hsz (N62 y hy))
        obtain ⟨h62, e62⟩ : ∃ y, T62.heap = y := ⟨_, rfl⟩
        rw [e62] at B62
        have EX62_h0 : Ext h0 h62 := own_extE EX8_h0 (own_Ob_X B62.1)
        have EX62_h4 : Ext h4 h62 := own_extE EX8_h4 (own_Ob_X B62.1)
        have EX62_h8 : Ext h8 h62 := own_Ob_X B62.1
        refine own_pre (T' := T62) (f' := (mkF m 166 #[iv p1, iv p2, iv p3, iv p4, iv p5, iv p6, iv P1, iv P2, iv P3, iv (0 : Int32), iv (3 : Int32), iv q, rv b1, rv b5, rv o, .unset, .unset, .unset, .unset, .unset, .unset, .unset, .unset, .unset] [])) (fun t k => st62 t k) ?_
        refine oC X62 hx (1 : Int32) (hb hby at_166) (pc' := 167) rfl rfl ?_
        refine own_pre (T' := T62) (f' := (mkF m 169 #[iv p1, iv p2, iv p3, iv p4, iv p5, iv p6, iv P1, iv P2, iv P3, iv (0 : Int32), iv (3 : Int32), iv q, rv b1, rv b5, rv o, iv (1 : Int32), .unset, .unset, .unset, .unset, .unset, .unset, .unset, .unset] [])) (fun t k => XS.istore X62.here hx rfl (hb hby at_167) rfl (l' := #[iv p1, iv p2, iv p3, iv p4, iv p5, iv p6, iv P1, iv P2, iv P3, iv (0 : Int32), iv (3 : Int32), iv q, rv b1, rv b5, rv o, iv (1 : Int32), .unset, .unset, .unset, .unset, .unset, .unset, .unset, .unset]) rfl k) ?_
        refine oC X62 hx (0 : Int32) (hb hby at_169) (pc' := 170) rfl rfl ?_
        refine own_pre (T' := T62) (f' := (mkF m 172 #[iv p1, iv p2, iv p3, iv p4, iv p5, iv p6, iv P1, iv P2, iv P3, iv (0 : Int32), iv (3 : Int32), iv q, rv b1, rv b5, rv o, iv (1 : Int32), iv (0 : Int32), .unset, .unset, .unset, .unset, .unset, .unset, .unset] [])) (fun t k => XS.istore X62.here hx rfl (hb hby at_170) rfl (l' := #[iv p1, iv p2, iv p3, iv p4, iv p5, iv p6, iv P1, iv P2, iv P3, iv (0 : Int32), iv (3 : Int32), iv q, rv b1, rv b5, rv o, iv (1 : Int32), iv (0 : Int32), .unset, .unset, .unset, .unset, .unset, .unset, .unset]) rfl k) ?_
        refine oI2 X62 hx (hb hby at_172) (pc' := 174) rfl rfl ?_
        refine oY0 X62 hx (hb hby at_174) (pc' := 202) ((if0 _ _).trans (teq (by decide : (0 : Int32) = (0 : Int32))).1) (by decide) (by decide) ?_
        refine oC X62 hx (0 : Int32) (hb hby at_202) (pc' := 203) rfl rfl ?_
        refine own_pre (T' := T62) (f' := (mkF m 205 #[iv p1, iv p2, iv p3, iv p4, iv p5, iv p6, iv P1, iv P2, iv P3, iv (0 : Int32), iv (3 : Int32), iv q, rv b1, rv b5, rv o, iv (1 : Int32), iv (0 : Int32), iv (0 : Int32), .unset, .unset, .unset, .unset, .unset, .unset] [])) (fun t k => XS.istore X62.here hx rfl (hb hby at_203) rfl (l' := #[iv p1, iv p2, iv p3, iv p4, iv p5, iv p6, iv P1, iv P2, iv P3, iv (0 : Int32), iv (3 : Int32), iv q, rv b1, rv b5, rv o, iv (1 : Int32), iv (0 : Int32), iv (0 : Int32), .unset, .unset, .unset, .unset, .unset, .unset]) rfl k) ?_
        refine oI2 X62 hx (hb hby at_205) (pc' := 207) rfl rfl ?_
        refine oN0 X62 hx (hb hby at_207) (pc' := 210) rfl ((if0 _ _).trans (flt (by decide : ¬ ((0 : Int32) < (0 : Int32)))).2.2.1) ?_
        refine oC X62 hx (0 : Int32) (hb hby at_210) (pc' := 211) rfl rfl ?_
        refine oI2 X62 hx (hb hby at_211) (pc' := 213) rfl rfl ?_
        refine oN X62 hx (hb hby at_213) (pc' := 216) rfl (tlt (by decide : (0 : Int32) < (3 : Int32))).2.1 ?_
        refine oI2 X62 hx (hb hby at_216) (pc' := 218) rfl rfl ?_
        refine oI2 X62 hx (hb hby at_218) (pc' := 220) rfl rfl ?_
        by_cases hc63 : P1 < q
        · refine oN X62 hx (hb hby at_220) (pc' := 223) rfl (tlt hc63).2.1 ?_
          refine own_pre (T' := T62) (f' := (mkF m 226 #[iv p1, iv p2, iv p3, iv p4, iv p5, iv p6, iv P1, iv P2, iv P3, iv (0 : Int32), iv (3 : Int32), iv q, rv b1, rv b5, rv o, iv (1 : Int32), iv (0 : Int32), iv ((0 : Int32) + (1 : Int32)), .unset, .unset, .unset, .unset, .unset, .unset] [])) (fun t k => XS.iinc X62.here hx rfl (hb hby at_223) rfl (l' := #[iv p1, iv p2, iv p3, iv p4, iv p5, iv p6, iv P1, iv P2, iv P3, iv (0 : Int32), iv (3 : Int32), iv q, rv b1, rv b5, rv o, iv (1 : Int32), iv (0 : Int32), iv ((0 : Int32) + (1 : Int32)), .unset, .unset, .unset, .unset, .unset, .unset]) rfl k) ?_
          rw [show ((0 : Int32) + (1 : Int32)) = (1 : Int32) from by decide]
          refine oI2 X62 hx (hb hby at_226) (pc' := 228) rfl rfl ?_
          refine oC X62 hx (1 : Int32) (hb hby at_228) (pc' := 229) rfl rfl ?_
          refine oN X62 hx (hb hby at_229) (pc' := 232) rfl (flt (by decide : ¬ ((1 : Int32) < (0 : Int32)))).2.2.1 ?_
          refine oC X62 hx (1 : Int32) (hb hby at_232) (pc' := 233) rfl rfl ?_
          refine oI2 X62 hx (hb hby at_233) (pc' := 235) rfl rfl ?_
          refine oN X62 hx (hb hby at_235) (pc' := 238) rfl (tlt (by decide : (1 : Int32) < (3 : Int32))).2.1 ?_
          refine oI2 X62 hx (hb hby at_238) (pc' := 240) rfl rfl ?_
          refine oI2 X62 hx (hb hby at_240) (pc' := 242) rfl rfl ?_
          by_cases hc64 : P2 < q
          · refine oN X62 hx (hb hby at_242) (pc' := 245) rfl (tlt hc64).2.1 ?_
            refine own_pre (T' := T62) (f' := (mkF m 248 #[iv p1, iv p2, iv p3, iv p4, iv p5, iv p6, iv P1, iv P2, iv P3, iv (0 : Int32), iv (3 : Int32), iv q, rv b1, rv b5, rv o, iv (1 : Int32), iv (0 : Int32), iv ((1 : Int32) + (1 : Int32)), .unset, .unset, .unset, .unset, .unset, .unset] [])) (fun t k => XS.iinc X62.here hx rfl (hb hby at_245) rfl (l' := #[iv p1, iv p2, iv p3, iv p4, iv p5, iv p6, iv P1, iv P2, iv P3, iv (0 : Int32), iv (3 : Int32), iv q, rv b1, rv b5, rv o, iv (1 : Int32), iv (0 : Int32), iv ((1 : Int32) + (1 : Int32)), .unset, .unset, .unset, .unset, .unset, .unset]) rfl k) ?_
            rw [show ((1 : Int32) + (1 : Int32)) = (2 : Int32) from by decide]
            refine oC X62 hx (2 : Int32) (hb hby at_248) (pc' := 249) rfl rfl ?_
            refine oI2 X62 hx (hb hby at_249) (pc' := 251) rfl rfl ?_
            refine oN X62 hx (hb hby at_251) (pc' := 254) rfl (tlt (by decide : (2 : Int32) < (3 : Int32))).2.1 ?_
            refine oI2 X62 hx (hb hby at_254) (pc' := 256) rfl rfl ?_
            refine oI2 X62 hx (hb hby at_256) (pc' := 258) rfl rfl ?_
            by_cases hc65 : P3 < q
            · refine oN X62 hx (hb hby at_258) (pc' := 261) rfl (tlt hc65).2.1 ?_
              refine own_pre (T' := T62) (f' := (mkF m 264 #[iv p1, iv p2, iv p3, iv p4, iv p5, iv p6, iv P1, iv P2, iv P3, iv (0 : Int32), iv (3 : Int32), iv q, rv b1, rv b5, rv o, iv (1 : Int32), iv (0 : Int32), iv ((2 : Int32) + (1 : Int32)), .unset, .unset, .unset, .unset, .unset, .unset] [])) (fun t k => XS.iinc X62.here hx rfl (hb hby at_261) rfl (l' := #[iv p1, iv p2, iv p3, iv p4, iv p5, iv p6, iv P1, iv P2, iv P3, iv (0 : Int32), iv (3 : Int32), iv q, rv b1, rv b5, rv o, iv (1 : Int32), iv (0 : Int32), iv ((2 : Int32) + (1 : Int32)), .unset, .unset, .unset, .unset, .unset, .unset]) rfl k) ?_
              rw [show ((2 : Int32) + (1 : Int32)) = (3 : Int32) from by decide]
              refine oI2 X62 hx (hb hby at_264) (pc' := 266) rfl rfl ?_
              refine oI2 X62 hx (hb hby at_266) (pc' := 268) rfl rfl ?_
              refine own_pre (T' := T62) (f' := (mkF m 269 #[iv p1, iv p2, iv p3, iv p4, iv p5, iv p6, iv P1, iv P2, iv P3, iv (0 : Int32), iv (3 : Int32), iv q, rv b1, rv b5, rv o, iv (1 : Int32), iv (0 : Int32), iv (3 : Int32), .unset, .unset, .unset, .unset, .unset, .unset] [(.int ((0 : Int32) + (3 : Int32)))])) (fun t k => XS.iadd X62.here hx rfl (hb hby at_268) rfl k) ?_
              rw [show ((0 : Int32) + (3 : Int32)) = (3 : Int32) from by decide]
              refine own_pre (T' := T62) (f' := (mkF m 271 #[iv p1, iv p2, iv p3, iv p4, iv p5, iv p6, iv P1, iv P2, iv P3, iv (0 : Int32), iv (3 : Int32), iv q, rv b1, rv b5, rv o, iv (1 : Int32), iv (0 : Int32), iv (3 : Int32), iv (3 : Int32), .unset, .unset, .unset, .unset, .unset] [])) (fun t k => XS.istore X62.here hx rfl (hb hby at_269) rfl (l' := #[iv p1, iv p2, iv p3, iv p4, iv p5, iv p6, iv P1, iv P2, iv P3, iv (0 : Int32), iv (3 : Int32), iv q, rv b1, rv b5, rv o, iv (1 : Int32), iv (0 : Int32), iv (3 : Int32), iv (3 : Int32), .unset, .unset, .unset, .unset, .unset]) rfl k) ?_
              refine oI2 X62 hx (hb hby at_271) (pc' := 273) rfl rfl ?_
              refine oI2 X62 hx (hb hby at_273) (pc' := 275) rfl rfl ?_
              refine oY X62 hx (hb hby at_275) (pc' := 304) (flt (by decide : ¬ ((3 : Int32) < (3 : Int32)))).2.1 (by decide) (by decide) ?_
              refine oC X62 hx (-1 : Int32) (hb hby at_304) (pc' := 305) rfl rfl ?_
              refine own_pre (T' := T62) (f' := (mkF m 307 #[iv p1, iv p2, iv p3, iv p4, iv p5, iv p6, iv P1, iv P2, iv P3, iv (0 : Int32), iv (3 : Int32), iv q, rv b1, rv b5, rv o, iv (1 : Int32), iv (0 : Int32), iv (3 : Int32), iv (3 : Int32), iv (-1 : Int32), .unset, .unset, .unset, .unset] [])) (fun t k => XS.istore X62.here hx rfl (hb hby at_305) rfl (l' := #[iv p1, iv p2, iv p3, iv p4, iv p5, iv p6, iv P1, iv P2, iv P3, iv (0 : Int32), iv (3 : Int32), iv q, rv b1, rv b5, rv o, iv (1 : Int32), iv (0 : Int32), iv (3 : Int32), iv (3 : Int32), iv (-1 : Int32), .unset, .unset, .unset, .unset]) rfl k) ?_
              refine oI2 X62 hx (hb hby at_307) (pc' := 309) rfl rfl ?_
              refine own_pre (T' := T62) (f' := (mkF m 311 #[iv p1, iv p2, iv p3, iv p4, iv p5, iv p6, iv P1, iv P2, iv P3, iv (0 : Int32), iv (3 : Int32), iv q, rv b1, rv b5, rv o, iv (1 : Int32), iv (0 : Int32), iv (3 : Int32), iv (3 : Int32), iv (-1 : Int32), iv (3 : Int32), .unset, .unset, .unset] [])) (fun t k => XS.istore X62.here hx rfl (hb hby at_309) rfl (l' := #[iv p1, iv p2, iv p3, iv p4, iv p5, iv p6, iv P1, iv P2, iv P3, iv (0 : Int32), iv (3 : Int32), iv q, rv b1, rv b5, rv o, iv (1 : Int32), iv (0 : Int32), iv (3 : Int32), iv (3 : Int32), iv (-1 : Int32), iv (3 : Int32), .unset, .unset, .unset]) rfl k) ?_
              refine oA2 X62 hx (hb hby at_311) (pc' := 313) rfl rfl rfl ?_
              refine oI2 X62 hx (hb hby at_313) (pc' := 315) rfl rfl ?_
              obtain ⟨T66, L66, v66, Y66a, ⟨rfl, N66, B66⟩, st66⟩ := own_callV X62 hx hZ e62 (y := (⟨"com/example/orthonorm/orthonorm/sanskrit/Anchors", "takeAt", "(I)I"⟩ : MethodName)) hown (hw _ (List.mem_of_getElem? (i := 17) rfl)) (hw _ (List.mem_of_getElem? (i := 18) rfl)) (hw _ (List.mem_of_getElem? (i := 20) rfl)) (hw _ (List.mem_of_getElem? (i := 19) rfl)) (hw _ (List.mem_of_getElem? (i := 21) rfl)) (hw _ (List.mem_of_getElem? (i := 4) rfl)) (by decide) 0 [(.int q)] [] (own_at_3_0_3_0 l Z a0 hw [] w_NO_ANCHORS k_NO_ANCHORS h62 (own_F_ext F0 EX62_h0) h8 Fb o P O kP kO P1 P2 P3 (0 : Int32) (0 : Int32) (0 : Int32) (0 : Int32) (0 : Int32) p3 p4 p5 (0 : Int32) (0 : Int32) (0 : Int32) (0 : Int32) (0 : Int32) B62 q hc63 hc64 hc65) (by decide) (by decide) (by decide) (by decide) (own_Ob_E B62.1) (g := (mkF m 315 #[iv p1, iv p2, iv p3, iv p4, iv p5, iv p6, iv P1, iv P2, iv P3, iv (0 : Int32), iv (3 : Int32), iv q, rv b1, rv b5, rv o, iv (1 : Int32), iv (0 : Int32), iv (3 : Int32), iv (3 : Int32), iv (-1 : Int32), iv (3 : Int32), .unset, .unset, .unset] [(.int q), (.ref o)])) rfl (by rw [hml]; rfl) (lenOf pd_3 rfl) rfl (by show 2 * 0 + _ ≤ _; exact Nat.le_of_eq rfl) (hb hby at_315)
              have X66 := Y66a.forget (fun y hy => Nat.le_trans hsz (N66 y hy))
              obtain ⟨h66, e66⟩ : ∃ y, T66.heap = y := ⟨_, rfl⟩
              rw [e66] at B66
              have EX66_h0 : Ext h0 h66 := own_extE EX8_h0 (own_Ob_X B66.1)
              have EX66_h4 : Ext h4 h66 := own_extE EX8_h4 (own_Ob_X B66.1)
              have EX66_h8 : Ext h8 h66 := own_Ob_X B66.1
              refine own_pre (T' := T66) (f' := (mkF m 318 #[iv p1, iv p2, iv p3, iv p4, iv p5, iv p6, iv P1, iv P2, iv P3, iv (0 : Int32), iv (3 : Int32), iv q, rv b1, rv b5, rv o, iv (1 : Int32), iv (0 : Int32), iv (3 : Int32), iv (3 : Int32), iv (-1 : Int32), iv (3 : Int32), .unset, .unset, .unset] [(.int (-1 : Int32))])) (fun t k => st66 t k) ?_
              refine own_pre (T' := T66) (f' := (mkF m 320 #[iv p1, iv p2, iv p3, iv p4, iv p5, iv p6, iv P1, iv P2, iv P3, iv (0 : Int32), iv (3 : Int32), iv q, rv b1, rv b5, rv o, iv (1 : Int32), iv (0 : Int32), iv (3 : Int32), iv (3 : Int32), iv (-1 : Int32), iv (3 : Int32), iv (-1 : Int32), .unset, .unset] [])) (fun t k => XS.istore X66.here hx rfl (hb hby at_318) rfl (l' := #[iv p1, iv p2, iv p3, iv p4, iv p5, iv p6, iv P1, iv P2, iv P3, iv (0 : Int32), iv (3 : Int32), iv q, rv b1, rv b5, rv o, iv (1 : Int32), iv (0 : Int32), iv (3 : Int32), iv (3 : Int32), iv (-1 : Int32), iv (3 : Int32), iv (-1 : Int32), .unset, .unset]) rfl k) ?_
              refine oA2 X66 hx (hb hby at_320) (pc' := 322) rfl rfl rfl ?_
              obtain ⟨T67, X67, e67, st67⟩ := own_pure (f := 0) (n := 0) (v := (some (.int (2147483647 : Int32)))) (own_callV X66 hx hZ e66 (y := (⟨"com/example/orthonorm/orthonorm/sanskrit/Anchors", "nextPlace", "()I"⟩ : MethodName)) hown (hw _ (List.mem_of_getElem? (i := 26) rfl)) (hw _ (List.mem_of_getElem? (i := 27) rfl)) (hw _ (List.mem_of_getElem? (i := 29) rfl)) (hw _ (List.mem_of_getElem? (i := 28) rfl)) (hw _ (List.mem_of_getElem? (i := 30) rfl)) (hw _ (List.mem_of_getElem? (i := 4) rfl)) (by decide) 0 [] [] (own_next_3_3 l Z a0 hw [] w_NO_ANCHORS k_NO_ANCHORS h66 (own_F_ext F0 EX66_h0) h8 Fb o P O kP kO P1 P2 P3 (0 : Int32) (0 : Int32) (0 : Int32) (0 : Int32) (0 : Int32) p3 p4 p5 (0 : Int32) (0 : Int32) (0 : Int32) (0 : Int32) (0 : Int32) B66) (by decide) (by decide) (by decide) (by decide) (own_Ob_E B66.1) (g := (mkF m 322 #[iv p1, iv p2, iv p3, iv p4, iv p5, iv p6, iv P1, iv P2, iv P3, iv (0 : Int32), iv (3 : Int32), iv q, rv b1, rv b5, rv o, iv (1 : Int32), iv (0 : Int32), iv (3 : Int32), iv (3 : Int32), iv (-1 : Int32), iv (3 : Int32), iv (-1 : Int32), .unset, .unset] [(.ref o)])) rfl (by rw [hml]; rfl) (lenOf pd_4 rfl) rfl (by show 2 * 0 + _ ≤ _; exact Nat.le_of_eq rfl) (hb hby at_322))
              refine own_pre (T' := T67) (f' := (mkF m 325 #[iv p1, iv p2, iv p3, iv p4, iv p5, iv p6, iv P1, iv P2, iv P3, iv (0 : Int32), iv (3 : Int32), iv q, rv b1, rv b5, rv o, iv (1 : Int32), iv (0 : Int32), iv (3 : Int32), iv (3 : Int32), iv (-1 : Int32), iv (3 : Int32), iv (-1 : Int32), .unset, .unset] [(.int (2147483647 : Int32))])) (fun t k => st67 t k) ?_
              refine own_pre (T' := T67) (f' := (mkF m 327 #[iv p1, iv p2, iv p3, iv p4, iv p5, iv p6, iv P1, iv P2, iv P3, iv (0 : Int32), iv (3 : Int32), iv q, rv b1, rv b5, rv o, iv (1 : Int32), iv (0 : Int32), iv (3 : Int32), iv (3 : Int32), iv (-1 : Int32), iv (3 : Int32), iv (-1 : Int32), iv (2147483647 : Int32), .unset] [])) (fun t k => XS.istore X67.here hx rfl (hb hby at_325) rfl (l' := #[iv p1, iv p2, iv p3, iv p4, iv p5, iv p6, iv P1, iv P2, iv P3, iv (0 : Int32), iv (3 : Int32), iv q, rv b1, rv b5, rv o, iv (1 : Int32), iv (0 : Int32), iv (3 : Int32), iv (3 : Int32), iv (-1 : Int32), iv (3 : Int32), iv (-1 : Int32), iv (2147483647 : Int32), .unset]) rfl k) ?_
              refine oI2 X67 hx (hb hby at_327) (pc' := 329) rfl rfl ?_
              refine oI2 X67 hx (hb hby at_329) (pc' := 331) rfl rfl ?_
              refine oY X67 hx (hb hby at_331) (pc' := 342) (flt (by decide : ¬ ((3 : Int32) < (3 : Int32)))).2.1 (by decide) (by decide) ?_
              refine own_pre (T' := T67) (f' := (mkF m 344 #[iv p1, iv p2, iv p3, iv p4, iv p5, iv p6, iv P1, iv P2, iv P3, iv (0 : Int32), iv (3 : Int32), iv q, rv b1, rv b5, rv o, iv (1 : Int32), iv (0 : Int32), iv (3 : Int32), iv (3 : Int32), iv (-1 : Int32), iv (3 : Int32), iv (-1 : Int32), iv (2147483647 : Int32), .unset] [(.int (2147483647 : Int32))])) (fun t k => X67.ldcInt hx hown (mvT hZ (hw _ (List.mem_of_getElem? (i := 32) rfl))) (g := (mkF m 342 #[iv p1, iv p2, iv p3, iv p4, iv p5, iv p6, iv P1, iv P2, iv P3, iv (0 : Int32), iv (3 : Int32), iv q, rv b1, rv b5, rv o, iv (1 : Int32), iv (0 : Int32), iv (3 : Int32), iv (3 : Int32), iv (-1 : Int32), iv (3 : Int32), iv (-1 : Int32), iv (2147483647 : Int32), .unset] [])) rfl (hb hby at_342) t k) ?_
              refine own_pre (T' := T67) (f' := (mkF m 346 #[iv p1, iv p2, iv p3, iv p4, iv p5, iv p6, iv P1, iv P2, iv P3, iv (0 : Int32), iv (3 : Int32), iv q, rv b1, rv b5, rv o, iv (1 : Int32), iv (0 : Int32), iv (3 : Int32), iv (3 : Int32), iv (-1 : Int32), iv (3 : Int32), iv (-1 : Int32), iv (2147483647 : Int32), iv (2147483647 : Int32)] [])) (fun t k => XS.istore X67.here hx rfl (hb hby at_344) rfl (l' := #[iv p1, iv p2, iv p3, iv p4, iv p5, iv p6, iv P1, iv P2, iv P3, iv (0 : Int32), iv (3 : Int32), iv q, rv b1, rv b5, rv o, iv (1 : Int32), iv (0 : Int32), iv (3 : Int32), iv (3 : Int32), iv (-1 : Int32), iv (3 : Int32), iv (-1 : Int32), iv (2147483647 : Int32), iv (2147483647 : Int32)]) rfl k) ?_
              refine oI2 X67 hx (hb hby at_346) (pc' := 348) rfl rfl ?_
              refine oN0 X67 hx (hb hby at_348) (pc' := 351) rfl ((if0 _ _).trans (feq (by decide : ¬ ((1 : Int32) = (0 : Int32)))).1) ?_
              refine oI2 X67 hx (hb hby at_351) (pc' := 353) rfl rfl ?_
              refine oI2 X67 hx (hb hby at_353) (pc' := 355) rfl rfl ?_
              refine oN X67 hx (hb hby at_355) (pc' := 358) rfl (teq (by decide : (-1 : Int32) = (-1 : Int32))).2 ?_
              refine oI2 X67 hx (hb hby at_358) (pc' := 360) rfl rfl ?_
              refine oI2 X67 hx (hb hby at_360) (pc' := 362) rfl rfl ?_
              refine oN X67 hx (hb hby at_362) (pc' := 365) rfl (teq (by decide : (2147483647 : Int32) = (2147483647 : Int32))).2 ?_
              refine oC X67 hx (1 : Int32) (hb hby at_365) (pc' := 366) rfl rfl ?_
              refine oG X67 hx (hb hby at_366) (pc' := 370) (by decide) (by decide) ?_
              refine own_pre (T' := T67) (f' := (mkF m 372 #[iv p1, iv p2, iv p3, iv p4, iv p5, iv p6, iv P1, iv P2, iv P3, iv (0 : Int32), iv (3 : Int32), iv q, rv b1, rv b5, rv o, iv (1 : Int32), iv (0 : Int32), iv (3 : Int32), iv (3 : Int32), iv (-1 : Int32), iv (3 : Int32), iv (-1 : Int32), iv (2147483647 : Int32), iv (2147483647 : Int32)] [])) (fun t k => XS.istore X67.here hx rfl (hb hby at_370) rfl (l' := #[iv p1, iv p2, iv p3, iv p4, iv p5, iv p6, iv P1, iv P2, iv P3, iv (0 : Int32), iv (3 : Int32), iv q, rv b1, rv b5, rv o, iv (1 : Int32), iv (0 : Int32), iv (3 : Int32), iv (3 : Int32), iv (-1 : Int32), iv (3 : Int32), iv (-1 : Int32), iv (2147483647 : Int32), iv (2147483647 : Int32)]) rfl k) ?_
              refine oI2 X67 hx (hb hby at_372) (pc' := 374) rfl rfl ?_
              refine oI2 X67 hx (hb hby at_374) (pc' := 376) rfl rfl ?_
              refine oY X67 hx (hb hby at_376) (pc' := 404) (flt (by decide : ¬ ((3 : Int32) < (3 : Int32)))).2.1 (by decide) (by decide) ?_
              refine oI2 X67 hx (hb hby at_404) (pc' := 406) rfl rfl ?_
              exact own_retZ X67 hx hlk hret (hb hby at_406) rfl (⟨rfl, Fr.nil _⟩) (by decide) (by decide)
            · refine oY X62 hx (hb hby at_258) (pc' := 264) (flt hc65).2.1 (by decide) (by decide) ?_
              refine oI2 X62 hx (hb hby at_264) (pc' := 266) rfl rfl ?_
              refine oI2 X62 hx (hb hby at_266) (pc' := 268) rfl rfl ?_
              refine own_pre (T' := T62) (f' := (mkF m 269 #[iv p1, iv p2, iv p3, iv p4, iv p5, iv p6, iv P1, iv P2, iv P3, iv (0 : Int32), iv (3 : Int32), iv q, rv b1, rv b5, rv o, iv (1 : Int32), iv (0 : Int32), iv (2 : Int32), .unset, .unset, .unset, .unset, .unset, .unset] [(.int ((0 : Int32) + (2 : Int32)))])) (fun t k => XS.iadd X62.here hx rfl (hb hby at_268) rfl k) ?_
              rw [show ((0 : Int32) + (2 : Int32)) = (2 : Int32) from by decide]
              refine own_pre (T' := T62) (f' := (mkF m 271 #[iv p1, iv p2, iv p3, iv p4, iv p5, iv p6, iv P1, iv P2, iv P3, iv (0 : Int32), iv (3 : Int32), iv q, rv b1, rv b5, rv o, iv (1 : Int32), iv (0 : Int32), iv (2 : Int32), iv (2 : Int32), .unset, .unset, .unset, .unset, .unset] [])) (fun t k => XS.istore X62.here hx rfl (hb hby at_269) rfl (l' := #[iv p1, iv p2, iv p3, iv p4, iv p5, iv p6, iv P1, iv P2, iv P3, iv (0 : Int32), iv (3 : Int32), iv q, rv b1, rv b5, rv o, iv (1 : Int32), iv (0 : Int32), iv (2 : Int32), iv (2 : Int32), .unset, .unset, .unset, .unset, .unset]) rfl k) ?_
              refine oI2 X62 hx (hb hby at_271) (pc' := 273) rfl rfl ?_
              refine oI2 X62 hx (hb hby at_273) (pc' := 275) rfl rfl ?_
              refine oN X62 hx (hb hby at_275) (pc' := 278) rfl (tlt (by decide : (2 : Int32) < (3 : Int32))).2.1 ?_
              refine oA2 X62 hx (hb hby at_278) (pc' := 280) rfl rfl rfl ?_
              refine oI2 X62 hx (hb hby at_280) (pc' := 282) rfl rfl ?_
              refine own_pre (T' := T62) (f' := (mkF m 283 #[iv p1, iv p2, iv p3, iv p4, iv p5, iv p6, iv P1, iv P2, iv P3, iv (0 : Int32), iv (3 : Int32), iv q, rv b1, rv b5, rv o, iv (1 : Int32), iv (0 : Int32), iv (2 : Int32), iv (2 : Int32), .unset, .unset, .unset, .unset, .unset] [(.int P3)])) (fun t k => own_ldI X62 hx hZ e62 (V4.ext EX62_h4) (by decide) rfl (g := (mkF m 282 #[iv p1, iv p2, iv p3, iv p4, iv p5, iv p6, iv P1, iv P2, iv P3, iv (0 : Int32), iv (3 : Int32), iv q, rv b1, rv b5, rv o, iv (1 : Int32), iv (0 : Int32), iv (2 : Int32), iv (2 : Int32), .unset, .unset, .unset, .unset, .unset] [(.int (2 : Int32)), (.ref b1)])) rfl rfl (hb hby at_282) t k) ?_
              refine oI2 X62 hx (hb hby at_283) (pc' := 285) rfl rfl ?_
              by_cases hc68 : P3 = q
              · refine oN X62 hx (hb hby at_285) (pc' := 288) rfl (teq hc68).2 ?_
                refine oA2 X62 hx (hb hby at_288) (pc' := 290) rfl rfl rfl ?_
                refine oI2 X62 hx (hb hby at_290) (pc' := 292) rfl rfl ?_
                refine own_pre (T' := T62) (f' := (mkF m 293 #[iv p1, iv p2, iv p3, iv p4, iv p5, iv p6, iv P1, iv P2, iv P3, iv (0 : Int32), iv (3 : Int32), iv q, rv b1, rv b5, rv o, iv (1 : Int32), iv (0 : Int32), iv (2 : Int32), iv (2 : Int32), .unset, .unset, .unset, .unset, .unset] [(.int p5)])) (fun t k => own_ldI X62 hx hZ e62 (V8.ext EX62_h8) (by decide) rfl (g := (mkF m 292 #[iv p1, iv p2, iv p3, iv p4, iv p5, iv p6, iv P1, iv P2, iv P3, iv (0 : Int32), iv (3 : Int32), iv q, rv b1, rv b5, rv o, iv (1 : Int32), iv (0 : Int32), iv (2 : Int32), iv (2 : Int32), .unset, .unset, .unset, .unset, .unset] [(.int (2 : Int32)), (.ref b5)])) rfl rfl (hb hby at_292) t k) ?_
                refine own_pre (T' := T62) (f' := (mkF m 295 #[iv p1, iv p2, iv p3, iv p4, iv p5, iv p6, iv P1, iv P2, iv P3, iv (0 : Int32), iv (3 : Int32), iv q, rv b1, rv b5, rv o, iv (1 : Int32), iv (0 : Int32), iv (2 : Int32), iv (2 : Int32), iv p5, .unset, .unset, .unset, .unset] [])) (fun t k => XS.istore X62.here hx rfl (hb hby at_293) rfl (l' := #[iv p1, iv p2, iv p3, iv p4, iv p5, iv p6, iv P1, iv P2, iv P3, iv (0 : Int32), iv (3 : Int32), iv q, rv b1, rv b5, rv o, iv (1 : Int32), iv (0 : Int32), iv (2 : Int32), iv (2 : Int32), iv p5, .unset, .unset, .unset, .unset]) rfl k) ?_
                refine oI2 X62 hx (hb hby at_295) (pc' := 297) rfl rfl ?_
                refine oC X62 hx (1 : Int32) (hb hby at_297) (pc' := 298) rfl rfl ?_
                refine own_pre (T' := T62) (f' := (mkF m 299 #[iv p1, iv p2, iv p3, iv p4, iv p5, iv p6, iv P1, iv P2, iv P3, iv (0 : Int32), iv (3 : Int32), iv q, rv b1, rv b5, rv o, iv (1 : Int32), iv (0 : Int32), iv (2 : Int32), iv (2 : Int32), iv p5, .unset, .unset, .unset, .unset] [(.int ((2 : Int32) + (1 : Int32)))])) (fun t k => XS.iadd X62.here hx rfl (hb hby at_298) rfl k) ?_
                rw [show ((2 : Int32) + (1 : Int32)) = (3 : Int32) from by decide]
                refine own_pre (T' := T62) (f' := (mkF m 301 #[iv p1, iv p2, iv p3, iv p4, iv p5, iv p6, iv P1, iv P2, iv P3, iv (0 : Int32), iv (3 : Int32), iv q, rv b1, rv b5, rv o, iv (1 : Int32), iv (0 : Int32), iv (2 : Int32), iv (2 : Int32), iv p5, iv (3 : Int32), .unset, .unset, .unset] [])) (fun t k => XS.istore X62.here hx rfl (hb hby at_299) rfl (l' := #[iv p1, iv p2, iv p3, iv p4, iv p5, iv p6, iv P1, iv P2, iv P3, iv (0 : Int32), iv (3 : Int32), iv q, rv b1, rv b5, rv o, iv (1 : Int32), iv (0 : Int32), iv (2 : Int32), iv (2 : Int32), iv p5, iv (3 : Int32), .unset, .unset, .unset]) rfl k) ?_
                refine oG X62 hx (hb hby at_301) (pc' := 311) (by decide) (by decide) ?_
                refine oA2 X62 hx (hb hby at_311) (pc' := 313) rfl rfl rfl ?_
                refine oI2 X62 hx (hb hby at_313) (pc' := 315) rfl rfl ?_
                obtain ⟨T69, L69, v69, Y69a, ⟨rfl, N69, B69⟩, st69⟩ := own_callV X62 hx hZ e62 (y := (⟨"com/example/orthonorm/orthonorm/sanskrit/Anchors", "takeAt", "(I)I"⟩ : MethodName)) hown (hw _ (List.mem_of_getElem? (i := 17) rfl)) (hw _ (List.mem_of_getElem? (i := 18) rfl)) (hw _ (List.mem_of_getElem? (i := 20) rfl)) (hw _ (List.mem_of_getElem? (i := 19) rfl)) (hw _ (List.mem_of_getElem? (i := 21) rfl)) (hw _ (List.mem_of_getElem? (i := 4) rfl)) (by decide) 0 [(.int q)] [] (own_at_3_0_2_1 l Z a0 hw [] w_NO_ANCHORS k_NO_ANCHORS h62 (own_F_ext F0 EX62_h0) h8 Fb o P O kP kO P1 P2 P3 (0 : Int32) (0 : Int32) (0 : Int32) (0 : Int32) (0 : Int32) p3 p4 p5 (0 : Int32) (0 : Int32) (0 : Int32) (0 : Int32) (0 : Int32) B62 q hc63 hc64 hc65 hc68) (by decide) (by decide) (by decide) (by decide) (own_Ob_E B62.1) (g := (mkF m 315 #[iv p1, iv p2, iv p3, iv p4, iv p5, iv p6, iv P1, iv P2, iv P3, iv (0 : Int32), iv (3 : Int32), iv q, rv b1, rv b5, rv o, iv (1 : Int32), iv (0 : Int32), iv (2 : Int32), iv (2 : Int32), iv p5, iv (3 : Int32), .unset, .unset, .unset] [(.int q), (.ref o)])) rfl (by rw [hml]; rfl) (lenOf pd_3 rfl) rfl (by show 2 * 0 + _ ≤ _; exact Nat.le_of_eq rfl) (hb hby at_315)
                have X69 := Y69a.forget (fun y hy => Nat.le_trans hsz (N69 y hy))
                obtain ⟨h69, e69⟩ : ∃ y, T69.heap = y := ⟨_, rfl⟩
                rw [e69] at B69
                have EX69_h0 : Ext h0 h69 := own_extE EX8_h0 (own_Ob_X B69.1)
                have EX69_h4 : Ext h4 h69 := own_extE EX8_h4 (own_Ob_X B69.1)
                have EX69_h8 : Ext h8 h69 := own_Ob_X B69.1
                refine own_pre (T' := T69) (f' := (mkF m 318 #[iv p1, iv p2, iv p3, iv p4, iv p5, iv p6, iv P1, iv P2, iv P3, iv (0 : Int32), iv (3 : Int32), iv q, rv b1, rv b5, rv o, iv (1 : Int32), iv (0 : Int32), iv (2 : Int32), iv (2 : Int32), iv p5, iv (3 : Int32), .unset, .unset, .unset] [(.int p5)])) (fun t k => st69 t k) ?_
                refine own_pre (T' := T69) (f' := (mkF m 320 #[iv p1, iv p2, iv p3, iv p4, iv p5, iv p6, iv P1, iv P2, iv P3, iv (0 : Int32), iv (3 : Int32), iv q, rv b1, rv b5, rv o, iv (1 : Int32), iv (0 : Int32), iv (2 : Int32), iv (2 : Int32), iv p5, iv (3 : Int32), iv p5, .unset, .unset] [])) (fun t k => XS.istore X69.here hx rfl (hb hby at_318) rfl (l' := #[iv p1, iv p2, iv p3, iv p4, iv p5, iv p6, iv P1, iv P2, iv P3, iv (0 : Int32), iv (3 : Int32), iv q, rv b1, rv b5, rv o, iv (1 : Int32), iv (0 : Int32), iv (2 : Int32), iv (2 : Int32), iv p5, iv (3 : Int32), iv p5, .unset, .unset]) rfl k) ?_
                refine oA2 X69 hx (hb hby at_320) (pc' := 322) rfl rfl rfl ?_
                obtain ⟨T70, X70, e70, st70⟩ := own_pure (f := 0) (n := 0) (v := (some (.int (2147483647 : Int32)))) (own_callV X69 hx hZ e69 (y := (⟨"com/example/orthonorm/orthonorm/sanskrit/Anchors", "nextPlace", "()I"⟩ : MethodName)) hown (hw _ (List.mem_of_getElem? (i := 26) rfl)) (hw _ (List.mem_of_getElem? (i := 27) rfl)) (hw _ (List.mem_of_getElem? (i := 29) rfl)) (hw _ (List.mem_of_getElem? (i := 28) rfl)) (hw _ (List.mem_of_getElem? (i := 30) rfl)) (hw _ (List.mem_of_getElem? (i := 4) rfl)) (by decide) 0 [] [] (own_next_3_3 l Z a0 hw [] w_NO_ANCHORS k_NO_ANCHORS h69 (own_F_ext F0 EX69_h0) h8 Fb o P O kP kO P1 P2 P3 (0 : Int32) (0 : Int32) (0 : Int32) (0 : Int32) (0 : Int32) p3 p4 p5 (0 : Int32) (0 : Int32) (0 : Int32) (0 : Int32) (0 : Int32) B69) (by decide) (by decide) (by decide) (by decide) (own_Ob_E B69.1) (g := (mkF m 322 #[iv p1, iv p2, iv p3, iv p4, iv p5, iv p6, iv P1, iv P2, iv P3, iv (0 : Int32), iv (3 : Int32), iv q, rv b1, rv b5, rv o, iv (1 : Int32), iv (0 : Int32), iv (2 : Int32), iv (2 : Int32), iv p5, iv (3 : Int32), iv p5, .unset, .unset] [(.ref o)])) rfl (by rw [hml]; rfl) (lenOf pd_4 rfl) rfl (by show 2 * 0 + _ ≤ _; exact Nat.le_of_eq rfl) (hb hby at_322))
                refine own_pre (T' := T70) (f' := (mkF m 325 #[iv p1, iv p2, iv p3, iv p4, iv p5, iv p6, iv P1, iv P2, iv P3, iv (0 : Int32), iv (3 : Int32), iv q, rv b1, rv b5, rv o, iv (1 : Int32), iv (0 : Int32), iv (2 : Int32), iv (2 : Int32), iv p5, iv (3 : Int32), iv p5, .unset, .unset] [(.int (2147483647 : Int32))])) (fun t k => st70 t k) ?_
                refine own_pre (T' := T70) (f' := (mkF m 327 #[iv p1, iv p2, iv p3, iv p4, iv p5, iv p6, iv P1, iv P2, iv P3, iv (0 : Int32), iv (3 : Int32), iv q, rv b1, rv b5, rv o, iv (1 : Int32), iv (0 : Int32), iv (2 : Int32), iv (2 : Int32), iv p5, iv (3 : Int32), iv p5, iv (2147483647 : Int32), .unset] [])) (fun t k => XS.istore X70.here hx rfl (hb hby at_325) rfl (l' := #[iv p1, iv p2, iv p3, iv p4, iv p5, iv p6, iv P1, iv P2, iv P3, iv (0 : Int32), iv (3 : Int32), iv q, rv b1, rv b5, rv o, iv (1 : Int32), iv (0 : Int32), iv (2 : Int32), iv (2 : Int32), iv p5, iv (3 : Int32), iv p5, iv (2147483647 : Int32), .unset]) rfl k) ?_
                refine oI2 X70 hx (hb hby at_327) (pc' := 329) rfl rfl ?_
                refine oI2 X70 hx (hb hby at_329) (pc' := 331) rfl rfl ?_
                refine oY X70 hx (hb hby at_331) (pc' := 342) (flt (by decide : ¬ ((3 : Int32) < (3 : Int32)))).2.1 (by decide) (by decide) ?_
                refine own_pre (T' := T70) (f' := (mkF m 344 #[iv p1, iv p2, iv p3, iv p4, iv p5, iv p6, iv P1, iv P2, iv P3, iv (0 : Int32), iv (3 : Int32), iv q, rv b1, rv b5, rv o, iv (1 : Int32), iv (0 : Int32), iv (2 : Int32), iv (2 : Int32), iv p5, iv (3 : Int32), iv p5, iv (2147483647 : Int32), .unset] [(.int (2147483647 : Int32))])) (fun t k => X70.ldcInt hx hown (mvT hZ (hw _ (List.mem_of_getElem? (i := 32) rfl))) (g := (mkF m 342 #[iv p1, iv p2, iv p3, iv p4, iv p5, iv p6, iv P1, iv P2, iv P3, iv (0 : Int32), iv (3 : Int32), iv q, rv b1, rv b5, rv o, iv (1 : Int32), iv (0 : Int32), iv (2 : Int32), iv (2 : Int32), iv p5, iv (3 : Int32), iv p5, iv (2147483647 : Int32), .unset] [])) rfl (hb hby at_342) t k) ?_
                refine own_pre (T' := T70) (f' := (mkF m 346 #[iv p1, iv p2, iv p3, iv p4, iv p5, iv p6, iv P1, iv P2, iv P3, iv (0 : Int32), iv (3 : Int32), iv q, rv b1, rv b5, rv o, iv (1 : Int32), iv (0 : Int32), iv (2 : Int32), iv (2 : Int32), iv p5, iv (3 : Int32), iv p5, iv (2147483647 : Int32), iv (2147483647 : Int32)] [])) (fun t k => XS.istore X70.here hx rfl (hb hby at_344) rfl (l' := #[iv p1, iv p2, iv p3, iv p4, iv p5, iv p6, iv P1, iv P2, iv P3, iv (0 : Int32), iv (3 : Int32), iv q, rv b1, rv b5, rv o, iv (1 : Int32), iv (0 : Int32), iv (2 : Int32), iv (2 : Int32), iv p5, iv (3 : Int32), iv p5, iv (2147483647 : Int32), iv (2147483647 : Int32)]) rfl k) ?_
                refine oI2 X70 hx (hb hby at_346) (pc' := 348) rfl rfl ?_
                refine oN0 X70 hx (hb hby at_348) (pc' := 351) rfl ((if0 _ _).trans (feq (by decide : ¬ ((1 : Int32) = (0 : Int32)))).1) ?_
                refine oI2 X70 hx (hb hby at_351) (pc' := 353) rfl rfl ?_
                refine oI2 X70 hx (hb hby at_353) (pc' := 355) rfl rfl ?_
                refine oN X70 hx (hb hby at_355) (pc' := 358) rfl (teq (rfl : p5 = p5)).2 ?_
                refine oI2 X70 hx (hb hby at_358) (pc' := 360) rfl rfl ?_
                refine oI2 X70 hx (hb hby at_360) (pc' := 362) rfl rfl ?_
                refine oN X70 hx (hb hby at_362) (pc' := 365) rfl (teq (by decide : (2147483647 : Int32) = (2147483647 : Int32))).2 ?_
                refine oC X70 hx (1 : Int32) (hb hby at_365) (pc' := 366) rfl rfl ?_
                refine oG X70 hx (hb hby at_366) (pc' := 370) (by decide) (by decide) ?_
                refine own_pre (T' := T70) (f' := (mkF m 372 #[iv p1, iv p2, iv p3, iv p4, iv p5, iv p6, iv P1, iv P2, iv P3, iv (0 : Int32), iv (3 : Int32), iv q, rv b1, rv b5, rv o, iv (1 : Int32), iv (0 : Int32), iv (2 : Int32), iv (2 : Int32), iv p5, iv (3 : Int32), iv p5, iv (2147483647 : Int32), iv (2147483647 : Int32)] [])) (fun t k => XS.istore X70.here hx rfl (hb hby at_370) rfl (l' := #[iv p1, iv p2, iv p3, iv p4, iv p5, iv p6, iv P1, iv P2, iv P3, iv (0 : Int32), iv (3 : Int32), iv q, rv b1, rv b5, rv o, iv (1 : Int32), iv (0 : Int32), iv (2 : Int32), iv (2 : Int32), iv p5, iv (3 : Int32), iv p5, iv (2147483647 : Int32), iv (2147483647 : Int32)]) rfl k) ?_
                refine oI2 X70 hx (hb hby at_372) (pc' := 374) rfl rfl ?_
                refine oI2 X70 hx (hb hby at_374) (pc' := 376) rfl rfl ?_
                refine oY X70 hx (hb hby at_376) (pc' := 404) (flt (by decide : ¬ ((3 : Int32) < (3 : Int32)))).2.1 (by decide) (by decide) ?_
                refine oI2 X70 hx (hb hby at_404) (pc' := 406) rfl rfl ?_
                exact own_retZ X70 hx hlk hret (hb hby at_406) rfl (⟨rfl, Fr.nil _⟩) (by decide) (by decide)
              · refine oY X62 hx (hb hby at_285) (pc' := 304) (feq hc68).2 (by decide) (by decide) ?_
                refine oC X62 hx (-1 : Int32) (hb hby at_304) (pc' := 305) rfl rfl ?_
                refine own_pre (T' := T62) (f' := (mkF m 307 #[iv p1, iv p2, iv p3, iv p4, iv p5, iv p6, iv P1, iv P2, iv P3, iv (0 : Int32), iv (3 : Int32), iv q, rv b1, rv b5, rv o, iv (1 : Int32), iv (0 : Int32), iv (2 : Int32), iv (2 : Int32), iv (-1 : Int32), .unset, .unset, .unset, .unset] [])) (fun t k => XS.istore X62.here hx rfl (hb hby at_305) rfl (l' := #[iv p1, iv p2, iv p3, iv p4, iv p5, iv p6, iv P1, iv P2, iv P3, iv (0 : Int32), iv (3 : Int32), iv q, rv b1, rv b5, rv o, iv (1 : Int32), iv (0 : Int32), iv (2 : Int32), iv (2 : Int32), iv (-1 : Int32), .unset, .unset, .unset, .unset]) rfl k) ?_
                refine oI2 X62 hx (hb hby at_307) (pc' := 309) rfl rfl ?_
                refine own_pre (T' := T62) (f' := (mkF m 311 #[iv p1, iv p2, iv p3, iv p4, iv p5, iv p6, iv P1, iv P2, iv P3, iv (0 : Int32), iv (3 : Int32), iv q, rv b1, rv b5, rv o, iv (1 : Int32), iv (0 : Int32), iv (2 : Int32), iv (2 : Int32), iv (-1 : Int32), iv (2 : Int32), .unset, .unset, .unset] [])) (fun t k => XS.istore X62.here hx rfl (hb hby at_309) rfl (l' := #[iv p1, iv p2, iv p3, iv p4, iv p5, iv p6, iv P1, iv P2, iv P3, iv (0 : Int32), iv (3 : Int32), iv q, rv b1, rv b5, rv o, iv (1 : Int32), iv (0 : Int32), iv (2 : Int32), iv (2 : Int32), iv (-1 : Int32), iv (2 : Int32), .unset, .unset, .unset]) rfl k) ?_
                refine oA2 X62 hx (hb hby at_311) (pc' := 313) rfl rfl rfl ?_
                refine oI2 X62 hx (hb hby at_313) (pc' := 315) rfl rfl ?_
                obtain ⟨T71, L71, v71, Y71a, ⟨rfl, N71, B71⟩, st71⟩ := own_callV X62 hx hZ e62 (y := (⟨"com/example/orthonorm/orthonorm/sanskrit/Anchors", "takeAt", "(I)I"⟩ : MethodName)) hown (hw _ (List.mem_of_getElem? (i := 17) rfl)) (hw _ (List.mem_of_getElem? (i := 18) rfl)) (hw _ (List.mem_of_getElem? (i := 20) rfl)) (hw _ (List.mem_of_getElem? (i := 19) rfl)) (hw _ (List.mem_of_getElem? (i := 21) rfl)) (hw _ (List.mem_of_getElem? (i := 4) rfl)) (by decide) 0 [(.int q)] [] (own_at_3_0_2_0 l Z a0 hw [] w_NO_ANCHORS k_NO_ANCHORS h62 (own_F_ext F0 EX62_h0) h8 Fb o P O kP kO P1 P2 P3 (0 : Int32) (0 : Int32) (0 : Int32) (0 : Int32) (0 : Int32) p3 p4 p5 (0 : Int32) (0 : Int32) (0 : Int32) (0 : Int32) (0 : Int32) B62 q hc63 hc64 hc65 hc68) (by decide) (by decide) (by decide) (by decide) (own_Ob_E B62.1) (g := (mkF m 315 #[iv p1, iv p2, iv p3, iv p4, iv p5, iv p6, iv P1, iv P2, iv P3, iv (0 : Int32), iv (3 : Int32), iv q, rv b1, rv b5, rv o, iv (1 : Int32), iv (0 : Int32), iv (2 : Int32), iv (2 : Int32), iv (-1 : Int32), iv (2 : Int32), .unset, .unset, .unset] [(.int q), (.ref o)])) rfl (by rw [hml]; rfl) (lenOf pd_3 rfl) rfl (by show 2 * 0 + _ ≤ _; exact Nat.le_of_eq rfl) (hb hby at_315)
                have X71 := Y71a.forget (fun y hy => Nat.le_trans hsz (N71 y hy))
                obtain ⟨h71, e71⟩ : ∃ y, T71.heap = y := ⟨_, rfl⟩
                rw [e71] at B71
                have EX71_h0 : Ext h0 h71 := own_extE EX8_h0 (own_Ob_X B71.1)
                have EX71_h4 : Ext h4 h71 := own_extE EX8_h4 (own_Ob_X B71.1)
                have EX71_h8 : Ext h8 h71 := own_Ob_X B71.1
                refine own_pre (T' := T71) (f' := (mkF m 318 #[iv p1, iv p2, iv p3, iv p4, iv p5, iv p6, iv P1, iv P2, iv P3, iv (0 : Int32), iv (3 : Int32), iv q, rv b1, rv b5, rv o, iv (1 : Int32), iv (0 : Int32), iv (2 : Int32), iv (2 : Int32), iv (-1 : Int32), iv (2 : Int32), .unset, .unset, .unset] [(.int (-1 : Int32))])) (fun t k => st71 t k) ?_
                refine own_pre (T' := T71) (f' := (mkF m 320 #[iv p1, iv p2, iv p3, iv p4, iv p5, iv p6, iv P1, iv P2, iv P3, iv (0 : Int32), iv (3 : Int32), iv q, rv b1, rv b5, rv o, iv (1 : Int32), iv (0 : Int32), iv (2 : Int32), iv (2 : Int32), iv (-1 : Int32), iv (2 : Int32), iv (-1 : Int32), .unset, .unset] [])) (fun t k => XS.istore X71.here hx rfl (hb hby at_318) rfl (l' := #[iv p1, iv p2, iv p3, iv p4, iv p5, iv p6, iv P1, iv P2, iv P3, iv (0 : Int32), iv (3 : Int32), iv q, rv b1, rv b5, rv o, iv (1 : Int32), iv (0 : Int32), iv (2 : Int32), iv (2 : Int32), iv (-1 : Int32), iv (2 : Int32), iv (-1 : Int32), .unset, .unset]) rfl k) ?_
                refine oA2 X71 hx (hb hby at_320) (pc' := 322) rfl rfl rfl ?_
                obtain ⟨T72, X72, e72, st72⟩ := own_pure (f := 0) (n := 0) (v := (some (.int P3))) (own_callV X71 hx hZ e71 (y := (⟨"com/example/orthonorm/orthonorm/sanskrit/Anchors", "nextPlace", "()I"⟩ : MethodName)) hown (hw _ (List.mem_of_getElem? (i := 26) rfl)) (hw _ (List.mem_of_getElem? (i := 27) rfl)) (hw _ (List.mem_of_getElem? (i := 29) rfl)) (hw _ (List.mem_of_getElem? (i := 28) rfl)) (hw _ (List.mem_of_getElem? (i := 30) rfl)) (hw _ (List.mem_of_getElem? (i := 4) rfl)) (by decide) 0 [] [] (own_next_3_2 l Z a0 hw [] w_NO_ANCHORS k_NO_ANCHORS h71 (own_F_ext F0 EX71_h0) h8 Fb o P O kP kO P1 P2 P3 (0 : Int32) (0 : Int32) (0 : Int32) (0 : Int32) (0 : Int32) p3 p4 p5 (0 : Int32) (0 : Int32) (0 : Int32) (0 : Int32) (0 : Int32) B71) (by decide) (by decide) (by decide) (by decide) (own_Ob_E B71.1) (g := (mkF m 322 #[iv p1, iv p2, iv p3, iv p4, iv p5, iv p6, iv P1, iv P2, iv P3, iv (0 : Int32), iv (3 : Int32), iv q, rv b1, rv b5, rv o, iv (1 : Int32), iv (0 : Int32), iv (2 : Int32), iv (2 : Int32), iv (-1 : Int32), iv (2 : Int32), iv (-1 : Int32), .unset, .unset] [(.ref o)])) rfl (by rw [hml]; rfl) (lenOf pd_4 rfl) rfl (by show 2 * 0 + _ ≤ _; exact Nat.le_of_eq rfl) (hb hby at_322))
                refine own_pre (T' := T72) (f' := (mkF m 325 #[iv p1, iv p2, iv p3, iv p4, iv p5, iv p6, iv P1, iv P2, iv P3, iv (0 : Int32), iv (3 : Int32), iv q, rv b1, rv b5, rv o, iv (1 : Int32), iv (0 : Int32), iv (2 : Int32), iv (2 : Int32), iv (-1 : Int32), iv (2 : Int32), iv (-1 : Int32), .unset, .unset] [(.int P3)])) (fun t k => st72 t k) ?_
                refine own_pre (T' := T72) (f' := (mkF m 327 #[iv p1, iv p2, iv p3, iv p4, iv p5, iv p6, iv P1, iv P2, iv P3, iv (0 : Int32), iv (3 : Int32), iv q, rv b1, rv b5, rv o, iv (1 : Int32), iv (0 : Int32), iv (2 : Int32), iv (2 : Int32), iv (-1 : Int32), iv (2 : Int32), iv (-1 : Int32), iv P3, .unset] [])) (fun t k => XS.istore X72.here hx rfl (hb hby at_325) rfl (l' := #[iv p1, iv p2, iv p3, iv p4, iv p5, iv p6, iv P1, iv P2, iv P3, iv (0 : Int32), iv (3 : Int32), iv q, rv b1, rv b5, rv o, iv (1 : Int32), iv (0 : Int32), iv (2 : Int32), iv (2 : Int32), iv (-1 : Int32), iv (2 : Int32), iv (-1 : Int32), iv P3, .unset]) rfl k) ?_
                refine oI2 X72 hx (hb hby at_327) (pc' := 329) rfl rfl ?_
                refine oI2 X72 hx (hb hby at_329) (pc' := 331) rfl rfl ?_
                refine oN X72 hx (hb hby at_331) (pc' := 334) rfl (tlt (by decide : (2 : Int32) < (3 : Int32))).2.1 ?_
                refine oA2 X72 hx (hb hby at_334) (pc' := 336) rfl rfl rfl ?_
                refine oI2 X72 hx (hb hby at_336) (pc' := 338) rfl rfl ?_
                refine own_pre (T' := T72) (f' := (mkF m 339 #[iv p1, iv p2, iv p3, iv p4, iv p5, iv p6, iv P1, iv P2, iv P3, iv (0 : Int32), iv (3 : Int32), iv q, rv b1, rv b5, rv o, iv (1 : Int32), iv (0 : Int32), iv (2 : Int32), iv (2 : Int32), iv (-1 : Int32), iv (2 : Int32), iv (-1 : Int32), iv P3, .unset] [(.int P3)])) (fun t k => own_ldI X72 hx hZ e72 (V4.ext EX71_h4) (by decide) rfl (g := (mkF m 338 #[iv p1, iv p2, iv p3, iv p4, iv p5, iv p6, iv P1, iv P2, iv P3, iv (0 : Int32), iv (3 : Int32), iv q, rv b1, rv b5, rv o, iv (1 : Int32), iv (0 : Int32), iv (2 : Int32), iv (2 : Int32), iv (-1 : Int32), iv (2 : Int32), iv (-1 : Int32), iv P3, .unset] [(.int (2 : Int32)), (.ref b1)])) rfl rfl (hb hby at_338) t k) ?_
                refine oG X72 hx (hb hby at_339) (pc' := 344) (by decide) (by decide) ?_
                refine own_pre (T' := T72) (f' := (mkF m 346 #[iv p1, iv p2, iv p3, iv p4, iv p5, iv p6, iv P1, iv P2, iv P3, iv (0 : Int32), iv (3 : Int32), iv q, rv b1, rv b5, rv o, iv (1 : Int32), iv (0 : Int32), iv (2 : Int32), iv (2 : Int32), iv (-1 : Int32), iv (2 : Int32), iv (-1 : Int32), iv P3, iv P3] [])) (fun t k => XS.istore X72.here hx rfl (hb hby at_344) rfl (l' := #[iv p1, iv p2, iv p3, iv p4, iv p5, iv p6, iv P1, iv P2, iv P3, iv (0 : Int32), iv (3 : Int32), iv q, rv b1, rv b5, rv o, iv (1 : Int32), iv (0 : Int32), iv (2 : Int32), iv (2 : Int32), iv (-1 : Int32), iv (2 : Int32), iv (-1 : Int32), iv P3, iv P3]) rfl k) ?_
                refine oI2 X72 hx (hb hby at_346) (pc' := 348) rfl rfl ?_
                refine oN0 X72 hx (hb hby at_348) (pc' := 351) rfl ((if0 _ _).trans (feq (by decide : ¬ ((1 : Int32) = (0 : Int32)))).1) ?_
                refine oI2 X72 hx (hb hby at_351) (pc' := 353) rfl rfl ?_
                refine oI2 X72 hx (hb hby at_353) (pc' := 355) rfl rfl ?_
                refine oN X72 hx (hb hby at_355) (pc' := 358) rfl (teq (by decide : (-1 : Int32) = (-1 : Int32))).2 ?_
                refine oI2 X72 hx (hb hby at_358) (pc' := 360) rfl rfl ?_
                refine oI2 X72 hx (hb hby at_360) (pc' := 362) rfl rfl ?_
                refine oN X72 hx (hb hby at_362) (pc' := 365) rfl (teq (rfl : P3 = P3)).2 ?_
                refine oC X72 hx (1 : Int32) (hb hby at_365) (pc' := 366) rfl rfl ?_
                refine oG X72 hx (hb hby at_366) (pc' := 370) (by decide) (by decide) ?_
                refine own_pre (T' := T72) (f' := (mkF m 372 #[iv p1, iv p2, iv p3, iv p4, iv p5, iv p6, iv P1, iv P2, iv P3, iv (0 : Int32), iv (3 : Int32), iv q, rv b1, rv b5, rv o, iv (1 : Int32), iv (0 : Int32), iv (2 : Int32), iv (2 : Int32), iv (-1 : Int32), iv (2 : Int32), iv (-1 : Int32), iv P3, iv P3] [])) (fun t k => XS.istore X72.here hx rfl (hb hby at_370) rfl (l' := #[iv p1, iv p2, iv p3, iv p4, iv p5, iv p6, iv P1, iv P2, iv P3, iv (0 : Int32), iv (3 : Int32), iv q, rv b1, rv b5, rv o, iv (1 : Int32), iv (0 : Int32), iv (2 : Int32), iv (2 : Int32), iv (-1 : Int32), iv (2 : Int32), iv (-1 : Int32), iv P3, iv P3]) rfl k) ?_
                refine oI2 X72 hx (hb hby at_372) (pc' := 374) rfl rfl ?_
                refine oI2 X72 hx (hb hby at_374) (pc' := 376) rfl rfl ?_
                refine oN X72 hx (hb hby at_376) (pc' := 379) rfl (tlt (by decide : (2 : Int32) < (3 : Int32))).2.1 ?_
                refine oI2 X72 hx (hb hby at_379) (pc' := 381) rfl rfl ?_
                refine oN0 X72 hx (hb hby at_381) (pc' := 384) rfl ((if0 _ _).trans (feq (by decide : ¬ ((1 : Int32) = (0 : Int32)))).1) ?_
                refine oA2 X72 hx (hb hby at_384) (pc' := 386) rfl rfl rfl ?_
                obtain ⟨T73, L73, v73, Y73a, ⟨rfl, N73, B73⟩, st73⟩ := own_callV X72 hx hZ e72 (y := (⟨"com/example/orthonorm/orthonorm/sanskrit/Anchors", "take", "()I"⟩ : MethodName)) hown (hw _ (List.mem_of_getElem? (i := 53) rfl)) (hw _ (List.mem_of_getElem? (i := 54) rfl)) (hw _ (List.mem_of_getElem? (i := 56) rfl)) (hw _ (List.mem_of_getElem? (i := 55) rfl)) (hw _ (List.mem_of_getElem? (i := 57) rfl)) (hw _ (List.mem_of_getElem? (i := 4) rfl)) (by decide) 0 [] [] (own_take_2 l Z a0 hw [] w_NO_ANCHORS k_NO_ANCHORS h71 (own_F_ext F0 EX71_h0) h8 Fb o P O kP kO P1 P2 P3 (0 : Int32) (0 : Int32) (0 : Int32) (0 : Int32) (0 : Int32) p3 p4 p5 (0 : Int32) (0 : Int32) (0 : Int32) (0 : Int32) (0 : Int32) (3 : Int32) B71) (by decide) (by decide) (by decide) (by decide) (own_Ob_E B71.1) (g := (mkF m 386 #[iv p1, iv p2, iv p3, iv p4, iv p5, iv p6, iv P1, iv P2, iv P3, iv (0 : Int32), iv (3 : Int32), iv q, rv b1, rv b5, rv o, iv (1 : Int32), iv (0 : Int32), iv (2 : Int32), iv (2 : Int32), iv (-1 : Int32), iv (2 : Int32), iv (-1 : Int32), iv P3, iv P3] [(.ref o)])) rfl (by rw [hml]; rfl) (lenOf pd_4 rfl) rfl (by show 2 * 0 + _ ≤ _; exact Nat.le_of_eq rfl) (hb hby at_386)
                have X73 := Y73a.forget (fun y hy => Nat.le_trans hsz (N73 y hy))
                obtain ⟨h73, e73⟩ : ∃ y, T73.heap = y := ⟨_, rfl⟩
                rw [e73] at B73
                have EX73_h0 : Ext h0 h73 := own_extE EX8_h0 (own_Ob_X B73.1)
                have EX73_h4 : Ext h4 h73 := own_extE EX8_h4 (own_Ob_X B73.1)
                have EX73_h8 : Ext h8 h73 := own_Ob_X B73.1
                refine own_pre (T' := T73) (f' := (mkF m 389 #[iv p1, iv p2, iv p3, iv p4, iv p5, iv p6, iv P1, iv P2, iv P3, iv (0 : Int32), iv (3 : Int32), iv q, rv b1, rv b5, rv o, iv (1 : Int32), iv (0 : Int32), iv (2 : Int32), iv (2 : Int32), iv (-1 : Int32), iv (2 : Int32), iv (-1 : Int32), iv P3, iv P3] [(.int p5)])) (fun t k => st73 t k) ?_
                refine oA2 X73 hx (hb hby at_389) (pc' := 391) rfl rfl rfl ?_
                refine oI2 X73 hx (hb hby at_391) (pc' := 393) rfl rfl ?_
                refine own_pre (T' := T73) (f' := (mkF m 394 #[iv p1, iv p2, iv p3, iv p4, iv p5, iv p6, iv P1, iv P2, iv P3, iv (0 : Int32), iv (3 : Int32), iv q, rv b1, rv b5, rv o, iv (1 : Int32), iv (0 : Int32), iv (2 : Int32), iv (2 : Int32), iv (-1 : Int32), iv (2 : Int32), iv (-1 : Int32), iv P3, iv P3] [(.int p5), (.int p5)])) (fun t k => own_ldI X73 hx hZ e73 (V8.ext EX73_h8) (by decide) rfl (g := (mkF m 393 #[iv p1, iv p2, iv p3, iv p4, iv p5, iv p6, iv P1, iv P2, iv P3, iv (0 : Int32), iv (3 : Int32), iv q, rv b1, rv b5, rv o, iv (1 : Int32), iv (0 : Int32), iv (2 : Int32), iv (2 : Int32), iv (-1 : Int32), iv (2 : Int32), iv (-1 : Int32), iv P3, iv P3] [(.int (2 : Int32)), (.ref b5), (.int p5)])) rfl rfl (hb hby at_393) t k) ?_
                refine oN X73 hx (hb hby at_394) (pc' := 397) rfl (teq (rfl : p5 = p5)).2 ?_
                refine oC X73 hx (1 : Int32) (hb hby at_397) (pc' := 398) rfl rfl ?_
                refine oG X73 hx (hb hby at_398) (pc' := 402) (by decide) (by decide) ?_
                refine own_pre (T' := T73) (f' := (mkF m 404 #[iv p1, iv p2, iv p3, iv p4, iv p5, iv p6, iv P1, iv P2, iv P3, iv (0 : Int32), iv (3 : Int32), iv q, rv b1, rv b5, rv o, iv (1 : Int32), iv (0 : Int32), iv (2 : Int32), iv (2 : Int32), iv (-1 : Int32), iv (2 : Int32), iv (-1 : Int32), iv P3, iv P3] [])) (fun t k => XS.istore X73.here hx rfl (hb hby at_402) rfl (l' := #[iv p1, iv p2, iv p3, iv p4, iv p5, iv p6, iv P1, iv P2, iv P3, iv (0 : Int32), iv (3 : Int32), iv q, rv b1, rv b5, rv o, iv (1 : Int32), iv (0 : Int32), iv (2 : Int32), iv (2 : Int32), iv (-1 : Int32), iv (2 : Int32), iv (-1 : Int32), iv P3, iv P3]) rfl k) ?_
                refine oI2 X73 hx (hb hby at_404) (pc' := 406) rfl rfl ?_
                exact own_retZ X73 hx hlk hret (hb hby at_406) rfl (⟨rfl, Fr.nil _⟩) (by decide) (by decide)
          · refine oY X62 hx (hb hby at_242) (pc' := 248) (flt hc64).2.1 (by decide) (by decide) ?_
            refine oC X62 hx (2 : Int32) (hb hby at_248) (pc' := 249) rfl rfl ?_
            refine oI2 X62 hx (hb hby at_249) (pc' := 251) rfl rfl ?_
            refine oN X62 hx (hb hby at_251) (pc' := 254) rfl (tlt (by decide : (2 : Int32) < (3 : Int32))).2.1 ?_
            refine oI2 X62 hx (hb hby at_254) (pc' := 256) rfl rfl ?_
            refine oI2 X62 hx (hb hby at_256) (pc' := 258) rfl rfl ?_
            refine oY X62 hx (hb hby at_258) (pc' := 264) (flt (own_nl hP23 hc64)).2.1 (by decide) (by decide) ?_
            refine oI2 X62 hx (hb hby at_264) (pc' := 266) rfl rfl ?_
            refine oI2 X62 hx (hb hby at_266) (pc' := 268) rfl rfl ?_
            refine own_pre (T' := T62) (f' := (mkF m 269 #[iv p1, iv p2, iv p3, iv p4, iv p5, iv p6, iv P1, iv P2, iv P3, iv (0 : Int32), iv (3 : Int32), iv q, rv b1, rv b5, rv o, iv (1 : Int32), iv (0 : Int32), iv (1 : Int32), .unset, .unset, .unset, .unset, .unset, .unset] [(.int ((0 : Int32) + (1 : Int32)))])) (fun t k => XS.iadd X62.here hx rfl (hb hby at_268) rfl k) ?_
            rw [show ((0 : Int32) + (1 : Int32)) = (1 : Int32) from by decide]
            refine own_pre (T' := T62) (f' := (mkF m 271 #[iv p1, iv p2, iv p3, iv p4, iv p5, iv p6, iv P1, iv P2, iv P3, iv (0 : Int32), iv (3 : Int32), iv q, rv b1, rv b5, rv o, iv (1 : Int32), iv (0 : Int32), iv (1 : Int32), iv (1 : Int32), .unset, .unset, .unset, .unset, .unset] [])) (fun t k => XS.istore X62.here hx rfl (hb hby at_269) rfl (l' := #[iv p1, iv p2, iv p3, iv p4, iv p5, iv p6, iv P1, iv P2, iv P3, iv (0 : Int32), iv (3 : Int32), iv q, rv b1, rv b5, rv o, iv (1 : Int32), iv (0 : Int32), iv (1 : Int32), iv (1 : Int32), .unset, .unset, .unset, .unset, .unset]) rfl k) ?_
            refine oI2 X62 hx (hb hby at_271) (pc' := 273) rfl rfl ?_
            refine oI2 X62 hx (hb hby at_273) (pc' := 275) rfl rfl ?_
            refine oN X62 hx (hb hby at_275) (pc' := 278) rfl (tlt (by decide : (1 : Int32) < (3 : Int32))).2.1 ?_
            refine oA2 X62 hx (hb hby at_278) (pc' := 280) rfl rfl rfl ?_
            refine oI2 X62 hx (hb hby at_280) (pc' := 282) rfl rfl ?_
            refine own_pre (T' := T62) (f' := (mkF m 283 #[iv p1, iv p2, iv p3, iv p4, iv p5, iv p6, iv P1, iv P2, iv P3, iv (0 : Int32), iv (3 : Int32), iv q, rv b1, rv b5, rv o, iv (1 : Int32), iv (0 : Int32), iv (1 : Int32), iv (1 : Int32), .unset, .unset, .unset, .unset, .unset] [(.int P2)])) (fun t k => own_ldI X62 hx hZ e62 (V4.ext EX62_h4) (by decide) rfl (g := (mkF m 282 #[iv p1, iv p2, iv p3, iv p4, iv p5, iv p6, iv P1, iv P2, iv P3, iv (0 : Int32), iv (3 : Int32), iv q, rv b1, rv b5, rv o, iv (1 : Int32), iv (0 : Int32), iv (1 : Int32), iv (1 : Int32), .unset, .unset, .unset, .unset, .unset] [(.int (1 : Int32)), (.ref b1)])) rfl rfl (hb hby at_282) t k) ?_
            refine oI2 X62 hx (hb hby at_283) (pc' := 285) rfl rfl ?_
            by_cases hc74 : P2 = q
            · refine oN X62 hx (hb hby at_285) (pc' := 288) rfl (teq hc74).2 ?_
              refine oA2 X62 hx (hb hby at_288) (pc' := 290) rfl rfl rfl ?_
              refine oI2 X62 hx (hb hby at_290) (pc' := 292) rfl rfl ?_
              refine own_pre (T' := T62) (f' := (mkF m 293 #[iv p1, iv p2, iv p3, iv p4, iv p5, iv p6, iv P1, iv P2, iv P3, iv (0 : Int32), iv (3 : Int32), iv q, rv b1, rv b5, rv o, iv (1 : Int32), iv (0 : Int32), iv (1 : Int32), iv (1 : Int32), .unset, .unset, .unset, .unset, .unset] [(.int p4)])) (fun t k => own_ldI X62 hx hZ e62 (V8.ext EX62_h8) (by decide) rfl (g := (mkF m 292 #[iv p1, iv p2, iv p3, iv p4, iv p5, iv p6, iv P1, iv P2, iv P3, iv (0 : Int32), iv (3 : Int32), iv q, rv b1, rv b5, rv o, iv (1 : Int32), iv (0 : Int32), iv (1 : Int32), iv (1 : Int32), .unset, .unset, .unset, .unset, .unset] [(.int (1 : Int32)), (.ref b5)])) rfl rfl (hb hby at_292) t k) ?_
              refine own_pre (T' := T62) (f' := (mkF m 295 #[iv p1, iv p2, iv p3, iv p4, iv p5, iv p6, iv P1, iv P2, iv P3, iv (0 : Int32), iv (3 : Int32), iv q, rv b1, rv b5, rv o, iv (1 : Int32), iv (0 : Int32), iv (1 : Int32), iv (1 : Int32), iv p4, .unset, .unset, .unset, .unset] [])) (fun t k => XS.istore X62.here hx rfl (hb hby at_293) rfl (l' := #[iv p1, iv p2, iv p3, iv p4, iv p5, iv p6, iv P1, iv P2, iv P3, iv (0 : Int32), iv (3 : Int32), iv q, rv b1, rv b5, rv o, iv (1 : Int32), iv (0 : Int32), iv (1 : Int32), iv (1 : Int32), iv p4, .unset, .unset, .unset, .unset]) rfl k) ?_
              refine oI2 X62 hx (hb hby at_295) (pc' := 297) rfl rfl ?_
              refine oC X62 hx (1 : Int32) (hb hby at_297) (pc' := 298) rfl rfl ?_
              refine own_pre (T' := T62) (f' := (mkF m 299 #[iv p1, iv p2, iv p3, iv p4, iv p5, iv p6, iv P1, iv P2, iv P3, iv (0 : Int32), iv (3 : Int32), iv q, rv b1, rv b5, rv o, iv (1 : Int32), iv (0 : Int32), iv (1 : Int32), iv (1 : Int32), iv p4, .unset, .unset, .unset, .unset] [(.int ((1 : Int32) + (1 : Int32)))])) (fun t k => XS.iadd X62.here hx rfl (hb hby at_298) rfl k) ?_
              rw [show ((1 : Int32) + (1 : Int32)) = (2 : Int32) from by decide]
              refine own_pre (T' := T62) (f' := (mkF m 301 #[iv p1, iv p2, iv p3, iv p4, iv p5, iv p6, iv P1, iv P2, iv P3, iv (0 : Int32), iv (3 : Int32), iv q, rv b1, rv b5, rv o, iv (1 : Int32), iv (0 : Int32), iv (1 : Int32), iv (1 : Int32), iv p4, iv (2 : Int32), .unset, .unset, .unset] [])) (fun t k => XS.istore X62.here hx rfl (hb hby at_299) rfl (l' := #[iv p1, iv p2, iv p3, iv p4, iv p5, iv p6, iv P1, iv P2, iv P3, iv (0 : Int32), iv (3 : Int32), iv q, rv b1, rv b5, rv o, iv (1 : Int32), iv (0 : Int32), iv (1 : Int32), iv (1 : Int32), iv p4, iv (2 : Int32), .unset, .unset, .unset]) rfl k) ?_
              refine oG X62 hx (hb hby at_301) (pc' := 311) (by decide) (by decide) ?_
              refine oA2 X62 hx (hb hby at_311) (pc' := 313) rfl rfl rfl ?_
              refine oI2 X62 hx (hb hby at_313) (pc' := 315) rfl rfl ?_
              obtain ⟨T75, L75, v75, Y75a, ⟨rfl, N75, B75⟩, st75⟩ := own_callV X62 hx hZ e62 (y := (⟨"com/example/orthonorm/orthonorm/sanskrit/Anchors", "takeAt", "(I)I"⟩ : MethodName)) hown (hw _ (List.mem_of_getElem? (i := 17) rfl)) (hw _ (List.mem_of_getElem? (i := 18) rfl)) (hw _ (List.mem_of_getElem? (i := 20) rfl)) (hw _ (List.mem_of_getElem? (i := 19) rfl)) (hw _ (List.mem_of_getElem? (i := 21) rfl)) (hw _ (List.mem_of_getElem? (i := 4) rfl)) (by decide) 0 [(.int q)] [] (own_at_3_0_1_1 l Z a0 hw [] w_NO_ANCHORS k_NO_ANCHORS h62 (own_F_ext F0 EX62_h0) h8 Fb o P O kP kO P1 P2 P3 (0 : Int32) (0 : Int32) (0 : Int32) (0 : Int32) (0 : Int32) p3 p4 p5 (0 : Int32) (0 : Int32) (0 : Int32) (0 : Int32) (0 : Int32) B62 q hc63 hc64 hc74) (by decide) (by decide) (by decide) (by decide) (own_Ob_E B62.1) (g := (mkF m 315 #[iv p1, iv p2, iv p3, iv p4, iv p5, iv p6, iv P1, iv P2, iv P3, iv (0 : Int32), iv (3 : Int32), iv q, rv b1, rv b5, rv o, iv (1 : Int32), iv (0 : Int32), iv (1 : Int32), iv (1 : Int32), iv p4, iv (2 : Int32), .unset, .unset, .unset] [(.int q), (.ref o)])) rfl (by rw [hml]; rfl) (lenOf pd_3 rfl) rfl (by show 2 * 0 + _ ≤ _; exact Nat.le_of_eq rfl) (hb hby at_315)
              have X75 := Y75a.forget (fun y hy => Nat.le_trans hsz (N75 y hy))
              obtain ⟨h75, e75⟩ : ∃ y, T75.heap = y := ⟨_, rfl⟩
              rw [e75] at B75
              have EX75_h0 : Ext h0 h75 := own_extE EX8_h0 (own_Ob_X B75.1)
              have EX75_h4 : Ext h4 h75 := own_extE EX8_h4 (own_Ob_X B75.1)
              have EX75_h8 : Ext h8 h75 := own_Ob_X B75.1
              refine own_pre (T' := T75) (f' := (mkF m 318 #[iv p1, iv p2, iv p3, iv p4, iv p5, iv p6, iv P1, iv P2, iv P3, iv (0 : Int32), iv (3 : Int32), iv q, rv b1, rv b5, rv o, iv (1 : Int32), iv (0 : Int32), iv (1 : Int32), iv (1 : Int32), iv p4, iv (2 : Int32), .unset, .unset, .unset] [(.int p4)])) (fun t k => st75 t k) ?_
              refine own_pre (T' := T75) (f' := (mkF m 320 #[iv p1, iv p2, iv p3, iv p4, iv p5, iv p6, iv P1, iv P2, iv P3, iv (0 : Int32), iv (3 : Int32), iv q, rv b1, rv b5, rv o, iv (1 : Int32), iv (0 : Int32), iv (1 : Int32), iv (1 : Int32), iv p4, iv (2 : Int32), iv p4, .unset, .unset] [])) (fun t k => XS.istore X75.here hx rfl (hb hby at_318) rfl (l' := #[iv p1, iv p2, iv p3, iv p4, iv p5, iv p6, iv P1, iv P2, iv P3, iv (0 : Int32), iv (3 : Int32), iv q, rv b1, rv b5, rv o, iv (1 : Int32), iv (0 : Int32), iv (1 : Int32), iv (1 : Int32), iv p4, iv (2 : Int32), iv p4, .unset, .unset]) rfl k) ?_
              refine oA2 X75 hx (hb hby at_320) (pc' := 322) rfl rfl rfl ?_
              obtain ⟨T76, X76, e76, st76⟩ := own_pure (f := 0) (n := 0) (v := (some (.int P3))) (own_callV X75 hx hZ e75 (y := (⟨"com/example/orthonorm/orthonorm/sanskrit/Anchors", "nextPlace", "()I"⟩ : MethodName)) hown (hw _ (List.mem_of_getElem? (i := 26) rfl)) (hw _ (List.mem_of_getElem? (i := 27) rfl)) (hw _ (List.mem_of_getElem? (i := 29) rfl)) (hw _ (List.mem_of_getElem? (i := 28) rfl)) (hw _ (List.mem_of_getElem? (i := 30) rfl)) (hw _ (List.mem_of_getElem? (i := 4) rfl)) (by decide) 0 [] [] (own_next_3_2 l Z a0 hw [] w_NO_ANCHORS k_NO_ANCHORS h75 (own_F_ext F0 EX75_h0) h8 Fb o P O kP kO P1 P2 P3 (0 : Int32) (0 : Int32) (0 : Int32) (0 : Int32) (0 : Int32) p3 p4 p5 (0 : Int32) (0 : Int32) (0 : Int32) (0 : Int32) (0 : Int32) B75) (by decide) (by decide) (by decide) (by decide) (own_Ob_E B75.1) (g := (mkF m 322 #[iv p1, iv p2, iv p3, iv p4, iv p5, iv p6, iv P1, iv P2, iv P3, iv (0 : Int32), iv (3 : Int32), iv q, rv b1, rv b5, rv o, iv (1 : Int32), iv (0 : Int32), iv (1 : Int32), iv (1 : Int32), iv p4, iv (2 : Int32), iv p4, .unset, .unset] [(.ref o)])) rfl (by rw [hml]; rfl) (lenOf pd_4 rfl) rfl (by show 2 * 0 + _ ≤ _; exact Nat.le_of_eq rfl) (hb hby at_322))
              refine own_pre (T' := T76) (f' := (mkF m 325 #[iv p1, iv p2, iv p3, iv p4, iv p5, iv p6, iv P1, iv P2, iv P3, iv (0 : Int32), iv (3 : Int32), iv q, rv b1, rv b5, rv o, iv (1 : Int32), iv (0 : Int32), iv (1 : Int32), iv (1 : Int32), iv p4, iv (2 : Int32), iv p4, .unset, .unset] [(.int P3)])) (fun t k => st76 t k) ?_
              refine own_pre (T' := T76) (f' := (mkF m 327 #[iv p1, iv p2, iv p3, iv p4, iv p5, iv p6, iv P1, iv P2, iv P3, iv (0 : Int32), iv (3 : Int32), iv q, rv b1, rv b5, rv o, iv (1 : Int32), iv (0 : Int32), iv (1 : Int32), iv (1 : Int32), iv p4, iv (2 : Int32), iv p4, iv P3, .unset] [])) (fun t k => XS.istore X76.here hx rfl (hb hby at_325) rfl (l' := #[iv p1, iv p2, iv p3, iv p4, iv p5, iv p6, iv P1, iv P2, iv P3, iv (0 : Int32), iv (3 : Int32), iv q, rv b1, rv b5, rv o, iv (1 : Int32), iv (0 : Int32), iv (1 : Int32), iv (1 : Int32), iv p4, iv (2 : Int32), iv p4, iv P3, .unset]) rfl k) ?_
              refine oI2 X76 hx (hb hby at_327) (pc' := 329) rfl rfl ?_
              refine oI2 X76 hx (hb hby at_329) (pc' := 331) rfl rfl ?_
              refine oN X76 hx (hb hby at_331) (pc' := 334) rfl (tlt (by decide : (2 : Int32) < (3 : Int32))).2.1 ?_
              refine oA2 X76 hx (hb hby at_334) (pc' := 336) rfl rfl rfl ?_
              refine oI2 X76 hx (hb hby at_336) (pc' := 338) rfl rfl ?_
              refine own_pre (T' := T76) (f' := (mkF m 339 #[iv p1, iv p2, iv p3, iv p4, iv p5, iv p6, iv P1, iv P2, iv P3, iv (0 : Int32), iv (3 : Int32), iv q, rv b1, rv b5, rv o, iv (1 : Int32), iv (0 : Int32), iv (1 : Int32), iv (1 : Int32), iv p4, iv (2 : Int32), iv p4, iv P3, .unset] [(.int P3)])) (fun t k => own_ldI X76 hx hZ e76 (V4.ext EX75_h4) (by decide) rfl (g := (mkF m 338 #[iv p1, iv p2, iv p3, iv p4, iv p5, iv p6, iv P1, iv P2, iv P3, iv (0 : Int32), iv (3 : Int32), iv q, rv b1, rv b5, rv o, iv (1 : Int32), iv (0 : Int32), iv (1 : Int32), iv (1 : Int32), iv p4, iv (2 : Int32), iv p4, iv P3, .unset] [(.int (2 : Int32)), (.ref b1)])) rfl rfl (hb hby at_338) t k) ?_
              refine oG X76 hx (hb hby at_339) (pc' := 344) (by decide) (by decide) ?_
              refine own_pre (T' := T76) (f' := (mkF m 346 #[iv p1, iv p2, iv p3, iv p4, iv p5, iv p6, iv P1, iv P2, iv P3, iv (0 : Int32), iv (3 : Int32), iv q, rv b1, rv b5, rv o, iv (1 : Int32), iv (0 : Int32), iv (1 : Int32), iv (1 : Int32), iv p4, iv (2 : Int32), iv p4, iv P3, iv P3] [])) (fun t k => XS.istore X76.here hx rfl (hb hby at_344) rfl (l' := #[iv p1, iv p2, iv p3, iv p4, iv p5, iv p6, iv P1, iv P2, iv P3, iv (0 : Int32), iv (3 : Int32), iv q, rv b1, rv b5, rv o, iv (1 : Int32), iv (0 : Int32), iv (1 : Int32), iv (1 : Int32), iv p4, iv (2 : Int32), iv p4, iv P3, iv P3]) rfl k) ?_
              refine oI2 X76 hx (hb hby at_346) (pc' := 348) rfl rfl ?_
              refine oN0 X76 hx (hb hby at_348) (pc' := 351) rfl ((if0 _ _).trans (feq (by decide : ¬ ((1 : Int32) = (0 : Int32)))).1) ?_
              refine oI2 X76 hx (hb hby at_351) (pc' := 353) rfl rfl ?_
              refine oI2 X76 hx (hb hby at_353) (pc' := 355) rfl rfl ?_
              refine oN X76 hx (hb hby at_355) (pc' := 358) rfl (teq (rfl : p4 = p4)).2 ?_
              refine oI2 X76 hx (hb hby at_358) (pc' := 360) rfl rfl ?_
              refine oI2 X76 hx (hb hby at_360) (pc' := 362) rfl rfl ?_
              refine oN X76 hx (hb hby at_362) (pc' := 365) rfl (teq (rfl : P3 = P3)).2 ?_
              refine oC X76 hx (1 : Int32) (hb hby at_365) (pc' := 366) rfl rfl ?_
              refine oG X76 hx (hb hby at_366) (pc' := 370) (by decide) (by decide) ?_
              refine own_pre (T' := T76) (f' := (mkF m 372 #[iv p1, iv p2, iv p3, iv p4, iv p5, iv p6, iv P1, iv P2, iv P3, iv (0 : Int32), iv (3 : Int32), iv q, rv b1, rv b5, rv o, iv (1 : Int32), iv (0 : Int32), iv (1 : Int32), iv (1 : Int32), iv p4, iv (2 : Int32), iv p4, iv P3, iv P3] [])) (fun t k => XS.istore X76.here hx rfl (hb hby at_370) rfl (l' := #[iv p1, iv p2, iv p3, iv p4, iv p5, iv p6, iv P1, iv P2, iv P3, iv (0 : Int32), iv (3 : Int32), iv q, rv b1, rv b5, rv o, iv (1 : Int32), iv (0 : Int32), iv (1 : Int32), iv (1 : Int32), iv p4, iv (2 : Int32), iv p4, iv P3, iv P3]) rfl k) ?_
              refine oI2 X76 hx (hb hby at_372) (pc' := 374) rfl rfl ?_
              refine oI2 X76 hx (hb hby at_374) (pc' := 376) rfl rfl ?_
              refine oN X76 hx (hb hby at_376) (pc' := 379) rfl (tlt (by decide : (2 : Int32) < (3 : Int32))).2.1 ?_
              refine oI2 X76 hx (hb hby at_379) (pc' := 381) rfl rfl ?_
              refine oN0 X76 hx (hb hby at_381) (pc' := 384) rfl ((if0 _ _).trans (feq (by decide : ¬ ((1 : Int32) = (0 : Int32)))).1) ?_
              refine oA2 X76 hx (hb hby at_384) (pc' := 386) rfl rfl rfl ?_
              obtain ⟨T77, L77, v77, Y77a, ⟨rfl, N77, B77⟩, st77⟩ := own_callV X76 hx hZ e76 (y := (⟨"com/example/orthonorm/orthonorm/sanskrit/Anchors", "take", "()I"⟩ : MethodName)) hown (hw _ (List.mem_of_getElem? (i := 53) rfl)) (hw _ (List.mem_of_getElem? (i := 54) rfl)) (hw _ (List.mem_of_getElem? (i := 56) rfl)) (hw _ (List.mem_of_getElem? (i := 55) rfl)) (hw _ (List.mem_of_getElem? (i := 57) rfl)) (hw _ (List.mem_of_getElem? (i := 4) rfl)) (by decide) 0 [] [] (own_take_2 l Z a0 hw [] w_NO_ANCHORS k_NO_ANCHORS h75 (own_F_ext F0 EX75_h0) h8 Fb o P O kP kO P1 P2 P3 (0 : Int32) (0 : Int32) (0 : Int32) (0 : Int32) (0 : Int32) p3 p4 p5 (0 : Int32) (0 : Int32) (0 : Int32) (0 : Int32) (0 : Int32) (3 : Int32) B75) (by decide) (by decide) (by decide) (by decide) (own_Ob_E B75.1) (g := (mkF m 386 #[iv p1, iv p2, iv p3, iv p4, iv p5, iv p6, iv P1, iv P2, iv P3, iv (0 : Int32), iv (3 : Int32), iv q, rv b1, rv b5, rv o, iv (1 : Int32), iv (0 : Int32), iv (1 : Int32), iv (1 : Int32), iv p4, iv (2 : Int32), iv p4, iv P3, iv P3] [(.ref o)])) rfl (by rw [hml]; rfl) (lenOf pd_4 rfl) rfl (by show 2 * 0 + _ ≤ _; exact Nat.le_of_eq rfl) (hb hby at_386)
              have X77 := Y77a.forget (fun y hy => Nat.le_trans hsz (N77 y hy))
              obtain ⟨h77, e77⟩ : ∃ y, T77.heap = y := ⟨_, rfl⟩
              rw [e77] at B77
              have EX77_h0 : Ext h0 h77 := own_extE EX8_h0 (own_Ob_X B77.1)
              have EX77_h4 : Ext h4 h77 := own_extE EX8_h4 (own_Ob_X B77.1)
              have EX77_h8 : Ext h8 h77 := own_Ob_X B77.1
              refine own_pre (T' := T77) (f' := (mkF m 389 #[iv p1, iv p2, iv p3, iv p4, iv p5, iv p6, iv P1, iv P2, iv P3, iv (0 : Int32), iv (3 : Int32), iv q, rv b1, rv b5, rv o, iv (1 : Int32), iv (0 : Int32), iv (1 : Int32), iv (1 : Int32), iv p4, iv (2 : Int32), iv p4, iv P3, iv P3] [(.int p5)])) (fun t k => st77 t k) ?_
              refine oA2 X77 hx (hb hby at_389) (pc' := 391) rfl rfl rfl ?_
              refine oI2 X77 hx (hb hby at_391) (pc' := 393) rfl rfl ?_
              refine own_pre (T' := T77) (f' := (mkF m 394 #[iv p1, iv p2, iv p3, iv p4, iv p5, iv p6, iv P1, iv P2, iv P3, iv (0 : Int32), iv (3 : Int32), iv q, rv b1, rv b5, rv o, iv (1 : Int32), iv (0 : Int32), iv (1 : Int32), iv (1 : Int32), iv p4, iv (2 : Int32), iv p4, iv P3, iv P3] [(.int p5), (.int p5)])) (fun t k => own_ldI X77 hx hZ e77 (V8.ext EX77_h8) (by decide) rfl (g := (mkF m 393 #[iv p1, iv p2, iv p3, iv p4, iv p5, iv p6, iv P1, iv P2, iv P3, iv (0 : Int32), iv (3 : Int32), iv q, rv b1, rv b5, rv o, iv (1 : Int32), iv (0 : Int32), iv (1 : Int32), iv (1 : Int32), iv p4, iv (2 : Int32), iv p4, iv P3, iv P3] [(.int (2 : Int32)), (.ref b5), (.int p5)])) rfl rfl (hb hby at_393) t k) ?_
              refine oN X77 hx (hb hby at_394) (pc' := 397) rfl (teq (rfl : p5 = p5)).2 ?_
              refine oC X77 hx (1 : Int32) (hb hby at_397) (pc' := 398) rfl rfl ?_
              refine oG X77 hx (hb hby at_398) (pc' := 402) (by decide) (by decide) ?_
              refine own_pre (T' := T77) (f' := (mkF m 404 #[iv p1, iv p2, iv p3, iv p4, iv p5, iv p6, iv P1, iv P2, iv P3, iv (0 : Int32), iv (3 : Int32), iv q, rv b1, rv b5, rv o, iv (1 : Int32), iv (0 : Int32), iv (1 : Int32), iv (1 : Int32), iv p4, iv (2 : Int32), iv p4, iv P3, iv P3] [])) (fun t k => XS.istore X77.here hx rfl (hb hby at_402) rfl (l' := #[iv p1, iv p2, iv p3, iv p4, iv p5, iv p6, iv P1, iv P2, iv P3, iv (0 : Int32), iv (3 : Int32), iv q, rv b1, rv b5, rv o, iv (1 : Int32), iv (0 : Int32), iv (1 : Int32), iv (1 : Int32), iv p4, iv (2 : Int32), iv p4, iv P3, iv P3]) rfl k) ?_
              refine oI2 X77 hx (hb hby at_404) (pc' := 406) rfl rfl ?_
              exact own_retZ X77 hx hlk hret (hb hby at_406) rfl (⟨rfl, Fr.nil _⟩) (by decide) (by decide)
            · refine oY X62 hx (hb hby at_285) (pc' := 304) (feq hc74).2 (by decide) (by decide) ?_
              refine oC X62 hx (-1 : Int32) (hb hby at_304) (pc' := 305) rfl rfl ?_
              refine own_pre (T' := T62) (f' := (mkF m 307 #[iv p1, iv p2, iv p3, iv p4, iv p5, iv p6, iv P1, iv P2, iv P3, iv (0 : Int32), iv (3 : Int32), iv q, rv b1, rv b5, rv o, iv (1 : Int32), iv (0 : Int32), iv (1 : Int32), iv (1 : Int32), iv (-1 : Int32), .unset, .unset, .unset, .unset] [])) (fun t k => XS.istore X62.here hx rfl (hb hby at_305) rfl (l' := #[iv p1, iv p2, iv p3, iv p4, iv p5, iv p6, iv P1, iv P2, iv P3, iv (0 : Int32), iv (3 : Int32), iv q, rv b1, rv b5, rv o, iv (1 : Int32), iv (0 : Int32), iv (1 : Int32), iv (1 : Int32), iv (-1 : Int32), .unset, .unset, .unset, .unset]) rfl k) ?_
              refine oI2 X62 hx (hb hby at_307) (pc' := 309) rfl rfl ?_
              refine own_pre (T' := T62) (f' := (mkF m 311 #[iv p1, iv p2, iv p3, iv p4, iv p5, iv p6, iv P1, iv P2, iv P3, iv (0 : Int32), iv (3 : Int32), iv q, rv b1, rv b5, rv o, iv (1 : Int32), iv (0 : Int32), iv (1 : Int32), iv (1 : Int32), iv (-1 : Int32), iv (1 : Int32), .unset, .unset, .unset] [])) (fun t k => XS.istore X62.here hx rfl (hb hby at_309) rfl (l' := #[iv p1, iv p2, iv p3, iv p4, iv p5, iv p6, iv P1, iv P2, iv P3, iv (0 : Int32), iv (3 : Int32), iv q, rv b1, rv b5, rv o, iv (1 : Int32), iv (0 : Int32), iv (1 : Int32), iv (1 : Int32), iv (-1 : Int32), iv (1 : Int32), .unset, .unset, .unset]) rfl k) ?_
              refine oA2 X62 hx (hb hby at_311) (pc' := 313) rfl rfl rfl ?_
              refine oI2 X62 hx (hb hby at_313) (pc' := 315) rfl rfl ?_
              obtain ⟨T78, L78, v78, Y78a, ⟨rfl, N78, B78⟩, st78⟩ := own_callV X62 hx hZ e62 (y := (⟨"com/example/orthonorm/orthonorm/sanskrit/Anchors", "takeAt", "(I)I"⟩ : MethodName)) hown (hw _ (List.mem_of_getElem? (i := 17) rfl)) (hw _ (List.mem_of_getElem? (i := 18) rfl)) (hw _ (List.mem_of_getElem? (i := 20) rfl)) (hw _ (List.mem_of_getElem? (i := 19) rfl)) (hw _ (List.mem_of_getElem? (i := 21) rfl)) (hw _ (List.mem_of_getElem? (i := 4) rfl)) (by decide) 0 [(.int q)] [] (own_at_3_0_1_0 l Z a0 hw [] w_NO_ANCHORS k_NO_ANCHORS h62 (own_F_ext F0 EX62_h0) h8 Fb o P O kP kO P1 P2 P3 (0 : Int32) (0 : Int32) (0 : Int32) (0 : Int32) (0 : Int32) p3 p4 p5 (0 : Int32) (0 : Int32) (0 : Int32) (0 : Int32) (0 : Int32) B62 q hc63 hc64 hc74) (by decide) (by decide) (by decide) (by decide) (own_Ob_E B62.1) (g := (mkF m 315 #[iv p1, iv p2, iv p3, iv p4, iv p5, iv p6, iv P1, iv P2, iv P3, iv (0 : Int32), iv (3 : Int32), iv q, rv b1, rv b5, rv o, iv (1 : Int32), iv (0 : Int32), iv (1 : Int32), iv (1 : Int32), iv (-1 : Int32), iv (1 : Int32), .unset, .unset, .unset] [(.int q), (.ref o)])) rfl (by rw [hml]; rfl) (lenOf pd_3 rfl) rfl (by show 2 * 0 + _ ≤ _; exact Nat.le_of_eq rfl) (hb hby at_315)
              have X78 := Y78a.forget (fun y hy => Nat.le_trans hsz (N78 y hy))
              obtain ⟨h78, e78⟩ : ∃ y, T78.heap = y := ⟨_, rfl⟩
              rw [e78] at B78
              have EX78_h0 : Ext h0 h78 := own_extE EX8_h0 (own_Ob_X B78.1)
              have EX78_h4 : Ext h4 h78 := own_extE EX8_h4 (own_Ob_X B78.1)
              have EX78_h8 : Ext h8 h78 := own_Ob_X B78.1
              refine own_pre (T' := T78) (f' := (mkF m 318 #[iv p1, iv p2, iv p3, iv p4, iv p5, iv p6, iv P1, iv P2, iv P3, iv (0 : Int32), iv (3 : Int32), iv q, rv b1, rv b5, rv o, iv (1 : Int32), iv (0 : Int32), iv (1 : Int32), iv (1 : Int32), iv (-1 : Int32), iv (1 : Int32), .unset, .unset, .unset] [(.int (-1 : Int32))])) (fun t k => st78 t k) ?_
              refine own_pre (T' := T78) (f' := (mkF m 320 #[iv p1, iv p2, iv p3, iv p4, iv p5, iv p6, iv P1, iv P2, iv P3, iv (0 : Int32), iv (3 : Int32), iv q, rv b1, rv b5, rv o, iv (1 : Int32), iv (0 : Int32), iv (1 : Int32), iv (1 : Int32), iv (-1 : Int32), iv (1 : Int32), iv (-1 : Int32), .unset, .unset] [])) (fun t k => XS.istore X78.here hx rfl (hb hby at_318) rfl (l' := #[iv p1, iv p2, iv p3, iv p4, iv p5, iv p6, iv P1, iv P2, iv P3, iv (0 : Int32), iv (3 : Int32), iv q, rv b1, rv b5, rv o, iv (1 : Int32), iv (0 : Int32), iv (1 : Int32), iv (1 : Int32), iv (-1 : Int32), iv (1 : Int32), iv (-1 : Int32), .unset, .unset]) rfl k) ?_
              refine oA2 X78 hx (hb hby at_320) (pc' := 322) rfl rfl rfl ?_
              obtain ⟨T79, X79, e79, st79⟩ := own_pure (f := 0) (n := 0) (v := (some (.int P2))) (own_callV X78 hx hZ e78 (y := (⟨"com/example/orthonorm/orthonorm/sanskrit/Anchors", "nextPlace", "()I"⟩ : MethodName)) hown (hw _ (List.mem_of_getElem? (i := 26) rfl)) (hw _ (List.mem_of_getElem? (i := 27) rfl)) (hw _ (List.mem_of_getElem? (i := 29) rfl)) (hw _ (List.mem_of_getElem? (i := 28) rfl)) (hw _ (List.mem_of_getElem? (i := 30) rfl)) (hw _ (List.mem_of_getElem? (i := 4) rfl)) (by decide) 0 [] [] (own_next_3_1 l Z a0 hw [] w_NO_ANCHORS k_NO_ANCHORS h78 (own_F_ext F0 EX78_h0) h8 Fb o P O kP kO P1 P2 P3 (0 : Int32) (0 : Int32) (0 : Int32) (0 : Int32) (0 : Int32) p3 p4 p5 (0 : Int32) (0 : Int32) (0 : Int32) (0 : Int32) (0 : Int32) B78) (by decide) (by decide) (by decide) (by decide) (own_Ob_E B78.1) (g := (mkF m 322 #[iv p1, iv p2, iv p3, iv p4, iv p5, iv p6, iv P1, iv P2, iv P3, iv (0 : Int32), iv (3 : Int32), iv q, rv b1, rv b5, rv o, iv (1 : Int32), iv (0 : Int32), iv (1 : Int32), iv (1 : Int32), iv (-1 : Int32), iv (1 : Int32), iv (-1 : Int32), .unset, .unset] [(.ref o)])) rfl (by rw [hml]; rfl) (lenOf pd_4 rfl) rfl (by show 2 * 0 + _ ≤ _; exact Nat.le_of_eq rfl) (hb hby at_322))
              refine own_pre (T' := T79) (f' := (mkF m 325 #[iv p1, iv p2, iv p3, iv p4, iv p5, iv p6, iv P1, iv P2, iv P3, iv (0 : Int32), iv (3 : Int32), iv q, rv b1, rv b5, rv o, iv (1 : Int32), iv (0 : Int32), iv (1 : Int32), iv (1 : Int32), iv (-1 : Int32), iv (1 : Int32), iv (-1 : Int32), .unset, .unset] [(.int P2)])) (fun t k => st79 t k) ?_
              refine own_pre (T' := T79) (f' := (mkF m 327 #[iv p1, iv p2, iv p3, iv p4, iv p5, iv p6, iv P1, iv P2, iv P3, iv (0 : Int32), iv (3 : Int32), iv q, rv b1, rv b5, rv o, iv (1 : Int32), iv (0 : Int32), iv (1 : Int32), iv (1 : Int32), iv (-1 : Int32), iv (1 : Int32), iv (-1 : Int32), iv P2, .unset] [])) (fun t k => XS.istore X79.here hx rfl (hb hby at_325) rfl (l' := #[iv p1, iv p2, iv p3, iv p4, iv p5, iv p6, iv P1, iv P2, iv P3, iv (0 : Int32), iv (3 : Int32), iv q, rv b1, rv b5, rv o, iv (1 : Int32), iv (0 : Int32), iv (1 : Int32), iv (1 : Int32), iv (-1 : Int32), iv (1 : Int32), iv (-1 : Int32), iv P2, .unset]) rfl k) ?_
              refine oI2 X79 hx (hb hby at_327) (pc' := 329) rfl rfl ?_
              refine oI2 X79 hx (hb hby at_329) (pc' := 331) rfl rfl ?_
              refine oN X79 hx (hb hby at_331) (pc' := 334) rfl (tlt (by decide : (1 : Int32) < (3 : Int32))).2.1 ?_
              refine oA2 X79 hx (hb hby at_334) (pc' := 336) rfl rfl rfl ?_
              refine oI2 X79 hx (hb hby at_336) (pc' := 338) rfl rfl ?_
              refine own_pre (T' := T79) (f' := (mkF m 339 #[iv p1, iv p2, iv p3, iv p4, iv p5, iv p6, iv P1, iv P2, iv P3, iv (0 : Int32), iv (3 : Int32), iv q, rv b1, rv b5, rv o, iv (1 : Int32), iv (0 : Int32), iv (1 : Int32), iv (1 : Int32), iv (-1 : Int32), iv (1 : Int32), iv (-1 : Int32), iv P2, .unset] [(.int P2)])) (fun t k => own_ldI X79 hx hZ e79 (V4.ext EX78_h4) (by decide) rfl (g := (mkF m 338 #[iv p1, iv p2, iv p3, iv p4, iv p5, iv p6, iv P1, iv P2, iv P3, iv (0 : Int32), iv (3 : Int32), iv q, rv b1, rv b5, rv o, iv (1 : Int32), iv (0 : Int32), iv (1 : Int32), iv (1 : Int32), iv (-1 : Int32), iv (1 : Int32), iv (-1 : Int32), iv P2, .unset] [(.int (1 : Int32)), (.ref b1)])) rfl rfl (hb hby at_338) t k) ?_
              refine oG X79 hx (hb hby at_339) (pc' := 344) (by decide) (by decide) ?_
              refine own_pre (T' := T79) (f' := (mkF m 346 #[iv p1, iv p2, iv p3, iv p4, iv p5, iv p6, iv P1, iv P2, iv P3, iv (0 : Int32), iv (3 : Int32), iv q, rv b1, rv b5, rv o, iv (1 : Int32), iv (0 : Int32), iv (1 : Int32), iv (1 : Int32), iv (-1 : Int32), iv (1 : Int32), iv (-1 : Int32), iv P2, iv P2] [])) (fun t k => XS.istore X79.here hx rfl (hb hby at_344) rfl (l' := #[iv p1, iv p2, iv p3, iv p4, iv p5, iv p6, iv P1, iv P2, iv P3, iv (0 : Int32), iv (3 : Int32), iv q, rv b1, rv b5, rv o, iv (1 : Int32), iv (0 : Int32), iv (1 : Int32), iv (1 : Int32), iv (-1 : Int32), iv (1 : Int32), iv (-1 : Int32), iv P2, iv P2]) rfl k) ?_
              refine oI2 X79 hx (hb hby at_346) (pc' := 348) rfl rfl ?_
              refine oN0 X79 hx (hb hby at_348) (pc' := 351) rfl ((if0 _ _).trans (feq (by decide : ¬ ((1 : Int32) = (0 : Int32)))).1) ?_
              refine oI2 X79 hx (hb hby at_351) (pc' := 353) rfl rfl ?_
              refine oI2 X79 hx (hb hby at_353) (pc' := 355) rfl rfl ?_
              refine oN X79 hx (hb hby at_355) (pc' := 358) rfl (teq (by decide : (-1 : Int32) = (-1 : Int32))).2 ?_
              refine oI2 X79 hx (hb hby at_358) (pc' := 360) rfl rfl ?_
              refine oI2 X79 hx (hb hby at_360) (pc' := 362) rfl rfl ?_
              refine oN X79 hx (hb hby at_362) (pc' := 365) rfl (teq (rfl : P2 = P2)).2 ?_
              refine oC X79 hx (1 : Int32) (hb hby at_365) (pc' := 366) rfl rfl ?_
              refine oG X79 hx (hb hby at_366) (pc' := 370) (by decide) (by decide) ?_
              refine own_pre (T' := T79) (f' := (mkF m 372 #[iv p1, iv p2, iv p3, iv p4, iv p5, iv p6, iv P1, iv P2, iv P3, iv (0 : Int32), iv (3 : Int32), iv q, rv b1, rv b5, rv o, iv (1 : Int32), iv (0 : Int32), iv (1 : Int32), iv (1 : Int32), iv (-1 : Int32), iv (1 : Int32), iv (-1 : Int32), iv P2, iv P2] [])) (fun t k => XS.istore X79.here hx rfl (hb hby at_370) rfl (l' := #[iv p1, iv p2, iv p3, iv p4, iv p5, iv p6, iv P1, iv P2, iv P3, iv (0 : Int32), iv (3 : Int32), iv q, rv b1, rv b5, rv o, iv (1 : Int32), iv (0 : Int32), iv (1 : Int32), iv (1 : Int32), iv (-1 : Int32), iv (1 : Int32), iv (-1 : Int32), iv P2, iv P2]) rfl k) ?_
              refine oI2 X79 hx (hb hby at_372) (pc' := 374) rfl rfl ?_
              refine oI2 X79 hx (hb hby at_374) (pc' := 376) rfl rfl ?_
              refine oN X79 hx (hb hby at_376) (pc' := 379) rfl (tlt (by decide : (1 : Int32) < (3 : Int32))).2.1 ?_
              refine oI2 X79 hx (hb hby at_379) (pc' := 381) rfl rfl ?_
              refine oN0 X79 hx (hb hby at_381) (pc' := 384) rfl ((if0 _ _).trans (feq (by decide : ¬ ((1 : Int32) = (0 : Int32)))).1) ?_
              refine oA2 X79 hx (hb hby at_384) (pc' := 386) rfl rfl rfl ?_
              obtain ⟨T80, L80, v80, Y80a, ⟨rfl, N80, B80⟩, st80⟩ := own_callV X79 hx hZ e79 (y := (⟨"com/example/orthonorm/orthonorm/sanskrit/Anchors", "take", "()I"⟩ : MethodName)) hown (hw _ (List.mem_of_getElem? (i := 53) rfl)) (hw _ (List.mem_of_getElem? (i := 54) rfl)) (hw _ (List.mem_of_getElem? (i := 56) rfl)) (hw _ (List.mem_of_getElem? (i := 55) rfl)) (hw _ (List.mem_of_getElem? (i := 57) rfl)) (hw _ (List.mem_of_getElem? (i := 4) rfl)) (by decide) 0 [] [] (own_take_1 l Z a0 hw [] w_NO_ANCHORS k_NO_ANCHORS h78 (own_F_ext F0 EX78_h0) h8 Fb o P O kP kO P1 P2 P3 (0 : Int32) (0 : Int32) (0 : Int32) (0 : Int32) (0 : Int32) p3 p4 p5 (0 : Int32) (0 : Int32) (0 : Int32) (0 : Int32) (0 : Int32) (3 : Int32) B78) (by decide) (by decide) (by decide) (by decide) (own_Ob_E B78.1) (g := (mkF m 386 #[iv p1, iv p2, iv p3, iv p4, iv p5, iv p6, iv P1, iv P2, iv P3, iv (0 : Int32), iv (3 : Int32), iv q, rv b1, rv b5, rv o, iv (1 : Int32), iv (0 : Int32), iv (1 : Int32), iv (1 : Int32), iv (-1 : Int32), iv (1 : Int32), iv (-1 : Int32), iv P2, iv P2] [(.ref o)])) rfl (by rw [hml]; rfl) (lenOf pd_4 rfl) rfl (by show 2 * 0 + _ ≤ _; exact Nat.le_of_eq rfl) (hb hby at_386)
              have X80 := Y80a.forget (fun y hy => Nat.le_trans hsz (N80 y hy))
              obtain ⟨h80, e80⟩ : ∃ y, T80.heap = y := ⟨_, rfl⟩
              rw [e80] at B80
              have EX80_h0 : Ext h0 h80 := own_extE EX8_h0 (own_Ob_X B80.1)
              have EX80_h4 : Ext h4 h80 := own_extE EX8_h4 (own_Ob_X B80.1)
              have EX80_h8 : Ext h8 h80 := own_Ob_X B80.1
              refine own_pre (T' := T80) (f' := (mkF m 389 #[iv p1, iv p2, iv p3, iv p4, iv p5, iv p6, iv P1, iv P2, iv P3, iv (0 : Int32), iv (3 : Int32), iv q, rv b1, rv b5, rv o, iv (1 : Int32), iv (0 : Int32), iv (1 : Int32), iv (1 : Int32), iv (-1 : Int32), iv (1 : Int32), iv (-1 : Int32), iv P2, iv P2] [(.int p4)])) (fun t k => st80 t k) ?_
              refine oA2 X80 hx (hb hby at_389) (pc' := 391) rfl rfl rfl ?_
              refine oI2 X80 hx (hb hby at_391) (pc' := 393) rfl rfl ?_
              refine own_pre (T' := T80) (f' := (mkF m 394 #[iv p1, iv p2, iv p3, iv p4, iv p5, iv p6, iv P1, iv P2, iv P3, iv (0 : Int32), iv (3 : Int32), iv q, rv b1, rv b5, rv o, iv (1 : Int32), iv (0 : Int32), iv (1 : Int32), iv (1 : Int32), iv (-1 : Int32), iv (1 : Int32), iv (-1 : Int32), iv P2, iv P2] [(.int p4), (.int p4)])) (fun t k => own_ldI X80 hx hZ e80 (V8.ext EX80_h8) (by decide) rfl (g := (mkF m 393 #[iv p1, iv p2, iv p3, iv p4, iv p5, iv p6, iv P1, iv P2, iv P3, iv (0 : Int32), iv (3 : Int32), iv q, rv b1, rv b5, rv o, iv (1 : Int32), iv (0 : Int32), iv (1 : Int32), iv (1 : Int32), iv (-1 : Int32), iv (1 : Int32), iv (-1 : Int32), iv P2, iv P2] [(.int (1 : Int32)), (.ref b5), (.int p4)])) rfl rfl (hb hby at_393) t k) ?_
              refine oN X80 hx (hb hby at_394) (pc' := 397) rfl (teq (rfl : p4 = p4)).2 ?_
              refine oC X80 hx (1 : Int32) (hb hby at_397) (pc' := 398) rfl rfl ?_
              refine oG X80 hx (hb hby at_398) (pc' := 402) (by decide) (by decide) ?_
              refine own_pre (T' := T80) (f' := (mkF m 404 #[iv p1, iv p2, iv p3, iv p4, iv p5, iv p6, iv P1, iv P2, iv P3, iv (0 : Int32), iv (3 : Int32), iv q, rv b1, rv b5, rv o, iv (1 : Int32), iv (0 : Int32), iv (1 : Int32), iv (1 : Int32), iv (-1 : Int32), iv (1 : Int32), iv (-1 : Int32), iv P2, iv P2] [])) (fun t k => XS.istore X80.here hx rfl (hb hby at_402) rfl (l' := #[iv p1, iv p2, iv p3, iv p4, iv p5, iv p6, iv P1, iv P2, iv P3, iv (0 : Int32), iv (3 : Int32), iv q, rv b1, rv b5, rv o, iv (1 : Int32), iv (0 : Int32), iv (1 : Int32), iv (1 : Int32), iv (-1 : Int32), iv (1 : Int32), iv (-1 : Int32), iv P2, iv P2]) rfl k) ?_
              refine oI2 X80 hx (hb hby at_404) (pc' := 406) rfl rfl ?_
              exact own_retZ X80 hx hlk hret (hb hby at_406) rfl (⟨rfl, Fr.nil _⟩) (by decide) (by decide)
        · refine oY X62 hx (hb hby at_220) (pc' := 226) (flt hc63).2.1 (by decide) (by decide) ?_
          refine oI2 X62 hx (hb hby at_226) (pc' := 228) rfl rfl ?_
          refine oC X62 hx (1 : Int32) (hb hby at_228) (pc' := 229) rfl rfl ?_
          refine oN X62 hx (hb hby at_229) (pc' := 232) rfl (flt (by decide : ¬ ((1 : Int32) < (0 : Int32)))).2.2.1 ?_
          refine oC X62 hx (1 : Int32) (hb hby at_232) (pc' := 233) rfl rfl ?_
          refine oI2 X62 hx (hb hby at_233) (pc' := 235) rfl rfl ?_
          refine oN X62 hx (hb hby at_235) (pc' := 238) rfl (tlt (by decide : (1 : Int32) < (3 : Int32))).2.1 ?_
          refine oI2 X62 hx (hb hby at_238) (pc' := 240) rfl rfl ?_
          refine oI2 X62 hx (hb hby at_240) (pc' := 242) rfl rfl ?_
          refine oY X62 hx (hb hby at_242) (pc' := 248) (flt (own_nl hP12 hc63)).2.1 (by decide) (by decide) ?_
          refine oC X62 hx (2 : Int32) (hb hby at_248) (pc' := 249) rfl rfl ?_
          refine oI2 X62 hx (hb hby at_249) (pc' := 251) rfl rfl ?_
          refine oN X62 hx (hb hby at_251) (pc' := 254) rfl (tlt (by decide : (2 : Int32) < (3 : Int32))).2.1 ?_
          refine oI2 X62 hx (hb hby at_254) (pc' := 256) rfl rfl ?_
          refine oI2 X62 hx (hb hby at_256) (pc' := 258) rfl rfl ?_
          refine oY X62 hx (hb hby at_258) (pc' := 264) (flt (own_nl hP23 (own_nl hP12 hc63))).2.1 (by decide) (by decide) ?_
          refine oI2 X62 hx (hb hby at_264) (pc' := 266) rfl rfl ?_
          refine oI2 X62 hx (hb hby at_266) (pc' := 268) rfl rfl ?_
          refine own_pre (T' := T62) (f' := (mkF m 269 #[iv p1, iv p2, iv p3, iv p4, iv p5, iv p6, iv P1, iv P2, iv P3, iv (0 : Int32), iv (3 : Int32), iv q, rv b1, rv b5, rv o, iv (1 : Int32), iv (0 : Int32), iv (0 : Int32), .unset, .unset, .unset, .unset, .unset, .unset] [(.int ((0 : Int32) + (0 : Int32)))])) (fun t k => XS.iadd X62.here hx rfl (hb hby at_268) rfl k) ?_
          rw [show ((0 : Int32) + (0 : Int32)) = (0 : Int32) from by decide]
          refine own_pre (T' := T62) (f' := (mkF m 271 #[iv p1, iv p2, iv p3, iv p4, iv p5, iv p6, iv P1, iv P2, iv P3, iv (0 : Int32), iv (3 : Int32), iv q, rv b1, rv b5, rv o, iv (1 : Int32), iv (0 : Int32), iv (0 : Int32), iv (0 : Int32), .unset, .unset, .unset, .unset, .unset] [])) (fun t k => XS.istore X62.here hx rfl (hb hby at_269) rfl (l' := #[iv p1, iv p2, iv p3, iv p4, iv p5, iv p6, iv P1, iv P2, iv P3, iv (0 : Int32), iv (3 : Int32), iv q, rv b1, rv b5, rv o, iv (1 : Int32), iv (0 : Int32), iv (0 : Int32), iv (0 : Int32), .unset, .unset, .unset, .unset, .unset]) rfl k) ?_
          refine oI2 X62 hx (hb hby at_271) (pc' := 273) rfl rfl ?_
          refine oI2 X62 hx (hb hby at_273) (pc' := 275) rfl rfl ?_
          refine oN X62 hx (hb hby at_275) (pc' := 278) rfl (tlt (by decide : (0 : Int32) < (3 : Int32))).2.1 ?_
          refine oA2 X62 hx (hb hby at_278) (pc' := 280) rfl rfl rfl ?_
          refine oI2 X62 hx (hb hby at_280) (pc' := 282) rfl rfl ?_
          refine own_pre (T' := T62) (f' := (mkF m 283 #[iv p1, iv p2, iv p3, iv p4, iv p5, iv p6, iv P1, iv P2, iv P3, iv (0 : Int32), iv (3 : Int32), iv q, rv b1, rv b5, rv o, iv (1 : Int32), iv (0 : Int32), iv (0 : Int32), iv (0 : Int32), .unset, .unset, .unset, .unset, .unset] [(.int P1)])) (fun t k => own_ldI X62 hx hZ e62 (V4.ext EX62_h4) (by decide) rfl (g := (mkF m 282 #[iv p1, iv p2, iv p3, iv p4, iv p5, iv p6, iv P1, iv P2, iv P3, iv (0 : Int32), iv (3 : Int32), iv q, rv b1, rv b5, rv o, iv (1 : Int32), iv (0 : Int32), iv (0 : Int32), iv (0 : Int32), .unset, .unset, .unset, .unset, .unset] [(.int (0 : Int32)), (.ref b1)])) rfl rfl (hb hby at_282) t k) ?_
          refine oI2 X62 hx (hb hby at_283) (pc' := 285) rfl rfl ?_
          by_cases hc81 : P1 = q
          · refine oN X62 hx (hb hby at_285) (pc' := 288) rfl (teq hc81).2 ?_
            refine oA2 X62 hx (hb hby at_288) (pc' := 290) rfl rfl rfl ?_
            refine oI2 X62 hx (hb hby at_290) (pc' := 292) rfl rfl ?_
            refine own_pre (T' := T62) (f' := (mkF m 293 #[iv p1, iv p2, iv p3, iv p4, iv p5, iv p6, iv P1, iv P2, iv P3, iv (0 : Int32), iv (3 : Int32), iv q, rv b1, rv b5, rv o, iv (1 : Int32), iv (0 : Int32), iv (0 : Int32), iv (0 : Int32), .unset, .unset, .unset, .unset, .unset] [(.int p3)])) (fun t k => own_ldI X62 hx hZ e62 (V8.ext EX62_h8) (by decide) rfl (g := (mkF m 292 #[iv p1, iv p2, iv p3, iv p4, iv p5, iv p6, iv P1, iv P2, iv P3, iv (0 : Int32), iv (3 : Int32), iv q, rv b1, rv b5, rv o, iv (1 : Int32), iv (0 : Int32), iv (0 : Int32), iv (0 : Int32), .unset, .unset, .unset, .unset, .unset] [(.int (0 : Int32)), (.ref b5)])) rfl rfl (hb hby at_292) t k) ?_
            refine own_pre (T' := T62) (f' := (mkF m 295 #[iv p1, iv p2, iv p3, iv p4, iv p5, iv p6, iv P1, iv P2, iv P3, iv (0 : Int32), iv (3 : Int32), iv q, rv b1, rv b5, rv o, iv (1 : Int32), iv (0 : Int32), iv (0 : Int32), iv (0 : Int32), iv p3, .unset, .unset, .unset, .unset] [])) (fun t k => XS.istore X62.here hx rfl (hb hby at_293) rfl (l' := #[iv p1, iv p2, iv p3, iv p4, iv p5, iv p6, iv P1, iv P2, iv P3, iv (0 : Int32), iv (3 : Int32), iv q, rv b1, rv b5, rv o, iv (1 : Int32), iv (0 : Int32), iv (0 : Int32), iv (0 : Int32), iv p3, .unset, .unset, .unset, .unset]) rfl k) ?_
            refine oI2 X62 hx (hb hby at_295) (pc' := 297) rfl rfl ?_
            refine oC X62 hx (1 : Int32) (hb hby at_297) (pc' := 298) rfl rfl ?_
            refine own_pre (T' := T62) (f' := (mkF m 299 #[iv p1, iv p2, iv p3, iv p4, iv p5, iv p6, iv P1, iv P2, iv P3, iv (0 : Int32), iv (3 : Int32), iv q, rv b1, rv b5, rv o, iv (1 : Int32), iv (0 : Int32), iv (0 : Int32), iv (0 : Int32), iv p3, .unset, .unset, .unset, .unset] [(.int ((0 : Int32) + (1 : Int32)))])) (fun t k => XS.iadd X62.here hx rfl (hb hby at_298) rfl k) ?_
            rw [show ((0 : Int32) + (1 : Int32)) = (1 : Int32) from by decide]
            refine own_pre (T' := T62) (f' := (mkF m 301 #[iv p1, iv p2, iv p3, iv p4, iv p5, iv p6, iv P1, iv P2, iv P3, iv (0 : Int32), iv (3 : Int32), iv q, rv b1, rv b5, rv o, iv (1 : Int32), iv (0 : Int32), iv (0 : Int32), iv (0 : Int32), iv p3, iv (1 : Int32), .unset, .unset, .unset] [])) (fun t k => XS.istore X62.here hx rfl (hb hby at_299) rfl (l' := #[iv p1, iv p2, iv p3, iv p4, iv p5, iv p6, iv P1, iv P2, iv P3, iv (0 : Int32), iv (3 : Int32), iv q, rv b1, rv b5, rv o, iv (1 : Int32), iv (0 : Int32), iv (0 : Int32), iv (0 : Int32), iv p3, iv (1 : Int32), .unset, .unset, .unset]) rfl k) ?_
            refine oG X62 hx (hb hby at_301) (pc' := 311) (by decide) (by decide) ?_
            refine oA2 X62 hx (hb hby at_311) (pc' := 313) rfl rfl rfl ?_
            refine oI2 X62 hx (hb hby at_313) (pc' := 315) rfl rfl ?_
            obtain ⟨T82, L82, v82, Y82a, ⟨rfl, N82, B82⟩, st82⟩ := own_callV X62 hx hZ e62 (y := (⟨"com/example/orthonorm/orthonorm/sanskrit/Anchors", "takeAt", "(I)I"⟩ : MethodName)) hown (hw _ (List.mem_of_getElem? (i := 17) rfl)) (hw _ (List.mem_of_getElem? (i := 18) rfl)) (hw _ (List.mem_of_getElem? (i := 20) rfl)) (hw _ (List.mem_of_getElem? (i := 19) rfl)) (hw _ (List.mem_of_getElem? (i := 21) rfl)) (hw _ (List.mem_of_getElem? (i := 4) rfl)) (by decide) 0 [(.int q)] [] (own_at_3_0_0_1 l Z a0 hw [] w_NO_ANCHORS k_NO_ANCHORS h62 (own_F_ext F0 EX62_h0) h8 Fb o P O kP kO P1 P2 P3 (0 : Int32) (0 : Int32) (0 : Int32) (0 : Int32) (0 : Int32) p3 p4 p5 (0 : Int32) (0 : Int32) (0 : Int32) (0 : Int32) (0 : Int32) B62 q hc63 hc81) (by decide) (by decide) (by decide) (by decide) (own_Ob_E B62.1) (g := (mkF m 315 #[iv p1, iv p2, iv p3, iv p4, iv p5, iv p6, iv P1, iv P2, iv P3, iv (0 : Int32), iv (3 : Int32), iv q, rv b1, rv b5, rv o, iv (1 : Int32), iv (0 : Int32), iv (0 : Int32), iv (0 : Int32), iv p3, iv (1 : Int32), .unset, .unset, .unset] [(.int q), (.ref o)])) rfl (by rw [hml]; rfl) (lenOf pd_3 rfl) rfl (by show 2 * 0 + _ ≤ _; exact Nat.le_of_eq rfl) (hb hby at_315)
            have X82 := Y82a.forget (fun y hy => Nat.le_trans hsz (N82 y hy))
            obtain ⟨h82, e82⟩ : ∃ y, T82.heap = y := ⟨_, rfl⟩
            rw [e82] at B82
            have EX82_h0 : Ext h0 h82 := own_extE EX8_h0 (own_Ob_X B82.1)
            have EX82_h4 : Ext h4 h82 := own_extE EX8_h4 (own_Ob_X B82.1)
            have EX82_h8 : Ext h8 h82 := own_Ob_X B82.1
            refine own_pre (T' := T82) (f' := (mkF m 318 #[iv p1, iv p2, iv p3, iv p4, iv p5, iv p6, iv P1, iv P2, iv P3, iv (0 : Int32), iv (3 : Int32), iv q, rv b1, rv b5, rv o, iv (1 : Int32), iv (0 : Int32), iv (0 : Int32), iv (0 : Int32), iv p3, iv (1 : Int32), .unset, .unset, .unset] [(.int p3)])) (fun t k => st82 t k) ?_
            refine own_pre (T' := T82) (f' := (mkF m 320 #[iv p1, iv p2, iv p3, iv p4, iv p5, iv p6, iv P1, iv P2, iv P3, iv (0 : Int32), iv (3 : Int32), iv q, rv b1, rv b5, rv o, iv (1 : Int32), iv (0 : Int32), iv (0 : Int32), iv (0 : Int32), iv p3, iv (1 : Int32), iv p3, .unset, .unset] [])) (fun t k => XS.istore X82.here hx rfl (hb hby at_318) rfl (l' := #[iv p1, iv p2, iv p3, iv p4, iv p5, iv p6, iv P1, iv P2, iv P3, iv (0 : Int32), iv (3 : Int32), iv q, rv b1, rv b5, rv o, iv (1 : Int32), iv (0 : Int32), iv (0 : Int32), iv (0 : Int32), iv p3, iv (1 : Int32), iv p3, .unset, .unset]) rfl k) ?_
            refine oA2 X82 hx (hb hby at_320) (pc' := 322) rfl rfl rfl ?_
            obtain ⟨T83, X83, e83, st83⟩ := own_pure (f := 0) (n := 0) (v := (some (.int P2))) (own_callV X82 hx hZ e82 (y := (⟨"com/example/orthonorm/orthonorm/sanskrit/Anchors", "nextPlace", "()I"⟩ : MethodName)) hown (hw _ (List.mem_of_getElem? (i := 26) rfl)) (hw _ (List.mem_of_getElem? (i := 27) rfl)) (hw _ (List.mem_of_getElem? (i := 29) rfl)) (hw _ (List.mem_of_getElem? (i := 28) rfl)) (hw _ (List.mem_of_getElem? (i := 30) rfl)) (hw _ (List.mem_of_getElem? (i := 4) rfl)) (by decide) 0 [] [] (own_next_3_1 l Z a0 hw [] w_NO_ANCHORS k_NO_ANCHORS h82 (own_F_ext F0 EX82_h0) h8 Fb o P O kP kO P1 P2 P3 (0 : Int32) (0 : Int32) (0 : Int32) (0 : Int32) (0 : Int32) p3 p4 p5 (0 : Int32) (0 : Int32) (0 : Int32) (0 : Int32) (0 : Int32) B82) (by decide) (by decide) (by decide) (by decide) (own_Ob_E B82.1) (g := (mkF m 322 #[iv p1, iv p2, iv p3, iv p4, iv p5, iv p6, iv P1, iv P2, iv P3, iv (0 : Int32), iv (3 : Int32), iv q, rv b1, rv b5, rv o, iv (1 : Int32), iv (0 : Int32), iv (0 : Int32), iv (0 : Int32), iv p3, iv (1 : Int32), iv p3, .unset, .unset] [(.ref o)])) rfl (by rw [hml]; rfl) (lenOf pd_4 rfl) rfl (by show 2 * 0 + _ ≤ _; exact Nat.le_of_eq rfl) (hb hby at_322))
            refine own_pre (T' := T83) (f' := (mkF m 325 #[iv p1, iv p2, iv p3, iv p4, iv p5, iv p6, iv P1, iv P2, iv P3, iv (0 : Int32), iv (3 : Int32), iv q, rv b1, rv b5, rv o, iv (1 : Int32), iv (0 : Int32), iv (0 : Int32), iv (0 : Int32), iv p3, iv (1 : Int32), iv p3, .unset, .unset] [(.int P2)])) (fun t k => st83 t k) ?_
            refine own_pre (T' := T83) (f' := (mkF m 327 #[iv p1, iv p2, iv p3, iv p4, iv p5, iv p6, iv P1, iv P2, iv P3, iv (0 : Int32), iv (3 : Int32), iv q, rv b1, rv b5, rv o, iv (1 : Int32), iv (0 : Int32), iv (0 : Int32), iv (0 : Int32), iv p3, iv (1 : Int32), iv p3, iv P2, .unset] [])) (fun t k => XS.istore X83.here hx rfl (hb hby at_325) rfl (l' := #[iv p1, iv p2, iv p3, iv p4, iv p5, iv p6, iv P1, iv P2, iv P3, iv (0 : Int32), iv (3 : Int32), iv q, rv b1, rv b5, rv o, iv (1 : Int32), iv (0 : Int32), iv (0 : Int32), iv (0 : Int32), iv p3, iv (1 : Int32), iv p3, iv P2, .unset]) rfl k) ?_
            refine oI2 X83 hx (hb hby at_327) (pc' := 329) rfl rfl ?_
            refine oI2 X83 hx (hb hby at_329) (pc' := 331) rfl rfl ?_
            refine oN X83 hx (hb hby at_331) (pc' := 334) rfl (tlt (by decide : (1 : Int32) < (3 : Int32))).2.1 ?_
            refine oA2 X83 hx (hb hby at_334) (pc' := 336) rfl rfl rfl ?_
            refine oI2 X83 hx (hb hby at_336) (pc' := 338) rfl rfl ?_
            refine own_pre (T' := T83) (f' := (mkF m 339 #[iv p1, iv p2, iv p3, iv p4, iv p5, iv p6, iv P1, iv P2, iv P3, iv (0 : Int32), iv (3 : Int32), iv q, rv b1, rv b5, rv o, iv (1 : Int32), iv (0 : Int32), iv (0 : Int32), iv (0 : Int32), iv p3, iv (1 : Int32), iv p3, iv P2, .unset] [(.int P2)])) (fun t k => own_ldI X83 hx hZ e83 (V4.ext EX82_h4) (by decide) rfl (g := (mkF m 338 #[iv p1, iv p2, iv p3, iv p4, iv p5, iv p6, iv P1, iv P2, iv P3, iv (0 : Int32), iv (3 : Int32), iv q, rv b1, rv b5, rv o, iv (1 : Int32), iv (0 : Int32), iv (0 : Int32), iv (0 : Int32), iv p3, iv (1 : Int32), iv p3, iv P2, .unset] [(.int (1 : Int32)), (.ref b1)])) rfl rfl (hb hby at_338) t k) ?_
            refine oG X83 hx (hb hby at_339) (pc' := 344) (by decide) (by decide) ?_
            refine own_pre (T' := T83) (f' := (mkF m 346 #[iv p1, iv p2, iv p3, iv p4, iv p5, iv p6, iv P1, iv P2, iv P3, iv (0 : Int32), iv (3 : Int32), iv q, rv b1, rv b5, rv o, iv (1 : Int32), iv (0 : Int32), iv (0 : Int32), iv (0 : Int32), iv p3, iv (1 : Int32), iv p3, iv P2, iv P2] [])) (fun t k => XS.istore X83.here hx rfl (hb hby at_344) rfl (l' := #[iv p1, iv p2, iv p3, iv p4, iv p5, iv p6, iv P1, iv P2, iv P3, iv (0 : Int32), iv (3 : Int32), iv q, rv b1, rv b5, rv o, iv (1 : Int32), iv (0 : Int32), iv (0 : Int32), iv (0 : Int32), iv p3, iv (1 : Int32), iv p3, iv P2, iv P2]) rfl k) ?_
            refine oI2 X83 hx (hb hby at_346) (pc' := 348) rfl rfl ?_
            refine oN0 X83 hx (hb hby at_348) (pc' := 351) rfl ((if0 _ _).trans (feq (by decide : ¬ ((1 : Int32) = (0 : Int32)))).1) ?_
            refine oI2 X83 hx (hb hby at_351) (pc' := 353) rfl rfl ?_
            refine oI2 X83 hx (hb hby at_353) (pc' := 355) rfl rfl ?_
            refine oN X83 hx (hb hby at_355) (pc' := 358) rfl (teq (rfl : p3 = p3)).2 ?_
            refine oI2 X83 hx (hb hby at_358) (pc' := 360) rfl rfl ?_
            refine oI2 X83 hx (hb hby at_360) (pc' := 362) rfl rfl ?_
            refine oN X83 hx (hb hby at_362) (pc' := 365) rfl (teq (rfl : P2 = P2)).2 ?_
            refine oC X83 hx (1 : Int32) (hb hby at_365) (pc' := 366) rfl rfl ?_
            refine oG X83 hx (hb hby at_366) (pc' := 370) (by decide) (by decide) ?_
            refine own_pre (T' := T83) (f' := (mkF m 372 #[iv p1, iv p2, iv p3, iv p4, iv p5, iv p6, iv P1, iv P2, iv P3, iv (0 : Int32), iv (3 : Int32), iv q, rv b1, rv b5, rv o, iv (1 : Int32), iv (0 : Int32), iv (0 : Int32), iv (0 : Int32), iv p3, iv (1 : Int32), iv p3, iv P2, iv P2] [])) (fun t k => XS.istore X83.here hx rfl (hb hby at_370) rfl (l' := #[iv p1, iv p2, iv p3, iv p4, iv p5, iv p6, iv P1, iv P2, iv P3, iv (0 : Int32), iv (3 : Int32), iv q, rv b1, rv b5, rv o, iv (1 : Int32), iv (0 : Int32), iv (0 : Int32), iv (0 : Int32), iv p3, iv (1 : Int32), iv p3, iv P2, iv P2]) rfl k) ?_
            refine oI2 X83 hx (hb hby at_372) (pc' := 374) rfl rfl ?_
            refine oI2 X83 hx (hb hby at_374) (pc' := 376) rfl rfl ?_
            refine oN X83 hx (hb hby at_376) (pc' := 379) rfl (tlt (by decide : (1 : Int32) < (3 : Int32))).2.1 ?_
            refine oI2 X83 hx (hb hby at_379) (pc' := 381) rfl rfl ?_
            refine oN0 X83 hx (hb hby at_381) (pc' := 384) rfl ((if0 _ _).trans (feq (by decide : ¬ ((1 : Int32) = (0 : Int32)))).1) ?_
            refine oA2 X83 hx (hb hby at_384) (pc' := 386) rfl rfl rfl ?_
            obtain ⟨T84, L84, v84, Y84a, ⟨rfl, N84, B84⟩, st84⟩ := own_callV X83 hx hZ e83 (y := (⟨"com/example/orthonorm/orthonorm/sanskrit/Anchors", "take", "()I"⟩ : MethodName)) hown (hw _ (List.mem_of_getElem? (i := 53) rfl)) (hw _ (List.mem_of_getElem? (i := 54) rfl)) (hw _ (List.mem_of_getElem? (i := 56) rfl)) (hw _ (List.mem_of_getElem? (i := 55) rfl)) (hw _ (List.mem_of_getElem? (i := 57) rfl)) (hw _ (List.mem_of_getElem? (i := 4) rfl)) (by decide) 0 [] [] (own_take_1 l Z a0 hw [] w_NO_ANCHORS k_NO_ANCHORS h82 (own_F_ext F0 EX82_h0) h8 Fb o P O kP kO P1 P2 P3 (0 : Int32) (0 : Int32) (0 : Int32) (0 : Int32) (0 : Int32) p3 p4 p5 (0 : Int32) (0 : Int32) (0 : Int32) (0 : Int32) (0 : Int32) (3 : Int32) B82) (by decide) (by decide) (by decide) (by decide) (own_Ob_E B82.1) (g := (mkF m 386 #[iv p1, iv p2, iv p3, iv p4, iv p5, iv p6, iv P1, iv P2, iv P3, iv (0 : Int32), iv (3 : Int32), iv q, rv b1, rv b5, rv o, iv (1 : Int32), iv (0 : Int32), iv (0 : Int32), iv (0 : Int32), iv p3, iv (1 : Int32), iv p3, iv P2, iv P2] [(.ref o)])) rfl (by rw [hml]; rfl) (lenOf pd_4 rfl) rfl (by show 2 * 0 + _ ≤ _; exact Nat.le_of_eq rfl) (hb hby at_386)
            have X84 := Y84a.forget (fun y hy => Nat.le_trans hsz (N84 y hy))
            obtain ⟨h84, e84⟩ : ∃ y, T84.heap = y := ⟨_, rfl⟩
            rw [e84] at B84
            have EX84_h0 : Ext h0 h84 := own_extE EX8_h0 (own_Ob_X B84.1)
            have EX84_h4 : Ext h4 h84 := own_extE EX8_h4 (own_Ob_X B84.1)
            have EX84_h8 : Ext h8 h84 := own_Ob_X B84.1
            refine own_pre (T' := T84) (f' := (mkF m 389 #[iv p1, iv p2, iv p3, iv p4, iv p5, iv p6, iv P1, iv P2, iv P3, iv (0 : Int32), iv (3 : Int32), iv q, rv b1, rv b5, rv o, iv (1 : Int32), iv (0 : Int32), iv (0 : Int32), iv (0 : Int32), iv p3, iv (1 : Int32), iv p3, iv P2, iv P2] [(.int p4)])) (fun t k => st84 t k) ?_
            refine oA2 X84 hx (hb hby at_389) (pc' := 391) rfl rfl rfl ?_
            refine oI2 X84 hx (hb hby at_391) (pc' := 393) rfl rfl ?_
            refine own_pre (T' := T84) (f' := (mkF m 394 #[iv p1, iv p2, iv p3, iv p4, iv p5, iv p6, iv P1, iv P2, iv P3, iv (0 : Int32), iv (3 : Int32), iv q, rv b1, rv b5, rv o, iv (1 : Int32), iv (0 : Int32), iv (0 : Int32), iv (0 : Int32), iv p3, iv (1 : Int32), iv p3, iv P2, iv P2] [(.int p4), (.int p4)])) (fun t k => own_ldI X84 hx hZ e84 (V8.ext EX84_h8) (by decide) rfl (g := (mkF m 393 #[iv p1, iv p2, iv p3, iv p4, iv p5, iv p6, iv P1, iv P2, iv P3, iv (0 : Int32), iv (3 : Int32), iv q, rv b1, rv b5, rv o, iv (1 : Int32), iv (0 : Int32), iv (0 : Int32), iv (0 : Int32), iv p3, iv (1 : Int32), iv p3, iv P2, iv P2] [(.int (1 : Int32)), (.ref b5), (.int p4)])) rfl rfl (hb hby at_393) t k) ?_
            refine oN X84 hx (hb hby at_394) (pc' := 397) rfl (teq (rfl : p4 = p4)).2 ?_
            refine oC X84 hx (1 : Int32) (hb hby at_397) (pc' := 398) rfl rfl ?_
            refine oG X84 hx (hb hby at_398) (pc' := 402) (by decide) (by decide) ?_
            refine own_pre (T' := T84) (f' := (mkF m 404 #[iv p1, iv p2, iv p3, iv p4, iv p5, iv p6, iv P1, iv P2, iv P3, iv (0 : Int32), iv (3 : Int32), iv q, rv b1, rv b5, rv o, iv (1 : Int32), iv (0 : Int32), iv (0 : Int32), iv (0 : Int32), iv p3, iv (1 : Int32), iv p3, iv P2, iv P2] [])) (fun t k => XS.istore X84.here hx rfl (hb hby at_402) rfl (l' := #[iv p1, iv p2, iv p3, iv p4, iv p5, iv p6, iv P1, iv P2, iv P3, iv (0 : Int32), iv (3 : Int32), iv q, rv b1, rv b5, rv o, iv (1 : Int32), iv (0 : Int32), iv (0 : Int32), iv (0 : Int32), iv p3, iv (1 : Int32), iv p3, iv P2, iv P2]) rfl k) ?_
            refine oI2 X84 hx (hb hby at_404) (pc' := 406) rfl rfl ?_
            exact own_retZ X84 hx hlk hret (hb hby at_406) rfl (⟨rfl, Fr.nil _⟩) (by decide) (by decide)
          · refine oY X62 hx (hb hby at_285) (pc' := 304) (feq hc81).2 (by decide) (by decide) ?_
            refine oC X62 hx (-1 : Int32) (hb hby at_304) (pc' := 305) rfl rfl ?_
            refine own_pre (T' := T62) (f' := (mkF m 307 #[iv p1, iv p2, iv p3, iv p4, iv p5, iv p6, iv P1, iv P2, iv P3, iv (0 : Int32), iv (3 : Int32), iv q, rv b1, rv b5, rv o, iv (1 : Int32), iv (0 : Int32), iv (0 : Int32), iv (0 : Int32), iv (-1 : Int32), .unset, .unset, .unset, .unset] [])) (fun t k => XS.istore X62.here hx rfl (hb hby at_305) rfl (l' := #[iv p1, iv p2, iv p3, iv p4, iv p5, iv p6, iv P1, iv P2, iv P3, iv (0 : Int32), iv (3 : Int32), iv q, rv b1, rv b5, rv o, iv (1 : Int32), iv (0 : Int32), iv (0 : Int32), iv (0 : Int32), iv (-1 : Int32), .unset, .unset, .unset, .unset]) rfl k) ?_
            refine oI2 X62 hx (hb hby at_307) (pc' := 309) rfl rfl ?_
            refine own_pre (T' := T62) (f' := (mkF m 311 #[iv p1, iv p2, iv p3, iv p4, iv p5, iv p6, iv P1, iv P2, iv P3, iv (0 : Int32), iv (3 : Int32), iv q, rv b1, rv b5, rv o, iv (1 : Int32), iv (0 : Int32), iv (0 : Int32), iv (0 : Int32), iv (-1 : Int32), iv (0 : Int32), .unset, .unset, .unset] [])) (fun t k => XS.istore X62.here hx rfl (hb hby at_309) rfl (l' := #[iv p1, iv p2, iv p3, iv p4, iv p5, iv p6, iv P1, iv P2, iv P3, iv (0 : Int32), iv (3 : Int32), iv q, rv b1, rv b5, rv o, iv (1 : Int32), iv (0 : Int32), iv (0 : Int32), iv (0 : Int32), iv (-1 : Int32), iv (0 : Int32), .unset, .unset, .unset]) rfl k) ?_
            refine oA2 X62 hx (hb hby at_311) (pc' := 313) rfl rfl rfl ?_
            refine oI2 X62 hx (hb hby at_313) (pc' := 315) rfl rfl ?_
            obtain ⟨T85, X85, e85, st85⟩ := own_pure (f := 0) (n := 0) (v := (some (.int (-1 : Int32)))) (own_callV X62 hx hZ e62 (y := (⟨"com/example/orthonorm/orthonorm/sanskrit/Anchors", "takeAt", "(I)I"⟩ : MethodName)) hown (hw _ (List.mem_of_getElem? (i := 17) rfl)) (hw _ (List.mem_of_getElem? (i := 18) rfl)) (hw _ (List.mem_of_getElem? (i := 20) rfl)) (hw _ (List.mem_of_getElem? (i := 19) rfl)) (hw _ (List.mem_of_getElem? (i := 21) rfl)) (hw _ (List.mem_of_getElem? (i := 4) rfl)) (by decide) 0 [(.int q)] [] (own_at_3_0_0_0 l Z a0 hw [] w_NO_ANCHORS k_NO_ANCHORS h62 (own_F_ext F0 EX62_h0) h8 Fb o P O kP kO P1 P2 P3 (0 : Int32) (0 : Int32) (0 : Int32) (0 : Int32) (0 : Int32) p3 p4 p5 (0 : Int32) (0 : Int32) (0 : Int32) (0 : Int32) (0 : Int32) B62 q hc63 hc81) (by decide) (by decide) (by decide) (by decide) (own_Ob_E B62.1) (g := (mkF m 315 #[iv p1, iv p2, iv p3, iv p4, iv p5, iv p6, iv P1, iv P2, iv P3, iv (0 : Int32), iv (3 : Int32), iv q, rv b1, rv b5, rv o, iv (1 : Int32), iv (0 : Int32), iv (0 : Int32), iv (0 : Int32), iv (-1 : Int32), iv (0 : Int32), .unset, .unset, .unset] [(.int q), (.ref o)])) rfl (by rw [hml]; rfl) (lenOf pd_3 rfl) rfl (by show 2 * 0 + _ ≤ _; exact Nat.le_of_eq rfl) (hb hby at_315))
            refine own_pre (T' := T85) (f' := (mkF m 318 #[iv p1, iv p2, iv p3, iv p4, iv p5, iv p6, iv P1, iv P2, iv P3, iv (0 : Int32), iv (3 : Int32), iv q, rv b1, rv b5, rv o, iv (1 : Int32), iv (0 : Int32), iv (0 : Int32), iv (0 : Int32), iv (-1 : Int32), iv (0 : Int32), .unset, .unset, .unset] [(.int (-1 : Int32))])) (fun t k => st85 t k) ?_
            refine own_pre (T' := T85) (f' := (mkF m 320 #[iv p1, iv p2, iv p3, iv p4, iv p5, iv p6, iv P1, iv P2, iv P3, iv (0 : Int32), iv (3 : Int32), iv q, rv b1, rv b5, rv o, iv (1 : Int32), iv (0 : Int32), iv (0 : Int32), iv (0 : Int32), iv (-1 : Int32), iv (0 : Int32), iv (-1 : Int32), .unset, .unset] [])) (fun t k => XS.istore X85.here hx rfl (hb hby at_318) rfl (l' := #[iv p1, iv p2, iv p3, iv p4, iv p5, iv p6, iv P1, iv P2, iv P3, iv (0 : Int32), iv (3 : Int32), iv q, rv b1, rv b5, rv o, iv (1 : Int32), iv (0 : Int32), iv (0 : Int32), iv (0 : Int32), iv (-1 : Int32), iv (0 : Int32), iv (-1 : Int32), .unset, .unset]) rfl k) ?_
            refine oA2 X85 hx (hb hby at_320) (pc' := 322) rfl rfl rfl ?_
            obtain ⟨T86, X86, e86, st86⟩ := own_pure (f := 0) (n := 0) (v := (some (.int P1))) (own_callV X85 hx hZ e85 (y := (⟨"com/example/orthonorm/orthonorm/sanskrit/Anchors", "nextPlace", "()I"⟩ : MethodName)) hown (hw _ (List.mem_of_getElem? (i := 26) rfl)) (hw _ (List.mem_of_getElem? (i := 27) rfl)) (hw _ (List.mem_of_getElem? (i := 29) rfl)) (hw _ (List.mem_of_getElem? (i := 28) rfl)) (hw _ (List.mem_of_getElem? (i := 30) rfl)) (hw _ (List.mem_of_getElem? (i := 4) rfl)) (by decide) 0 [] [] (own_next_3_0 l Z a0 hw [] w_NO_ANCHORS k_NO_ANCHORS h62 (own_F_ext F0 EX62_h0) h8 Fb o P O kP kO P1 P2 P3 (0 : Int32) (0 : Int32) (0 : Int32) (0 : Int32) (0 : Int32) p3 p4 p5 (0 : Int32) (0 : Int32) (0 : Int32) (0 : Int32) (0 : Int32) B62) (by decide) (by decide) (by decide) (by decide) (own_Ob_E B62.1) (g := (mkF m 322 #[iv p1, iv p2, iv p3, iv p4, iv p5, iv p6, iv P1, iv P2, iv P3, iv (0 : Int32), iv (3 : Int32), iv q, rv b1, rv b5, rv o, iv (1 : Int32), iv (0 : Int32), iv (0 : Int32), iv (0 : Int32), iv (-1 : Int32), iv (0 : Int32), iv (-1 : Int32), .unset, .unset] [(.ref o)])) rfl (by rw [hml]; rfl) (lenOf pd_4 rfl) rfl (by show 2 * 0 + _ ≤ _; exact Nat.le_of_eq rfl) (hb hby at_322))
            refine own_pre (T' := T86) (f' := (mkF m 325 #[iv p1, iv p2, iv p3, iv p4, iv p5, iv p6, iv P1, iv P2, iv P3, iv (0 : Int32), iv (3 : Int32), iv q, rv b1, rv b5, rv o, iv (1 : Int32), iv (0 : Int32), iv (0 : Int32), iv (0 : Int32), iv (-1 : Int32), iv (0 : Int32), iv (-1 : Int32), .unset, .unset] [(.int P1)])) (fun t k => st86 t k) ?_
            refine own_pre (T' := T86) (f' := (mkF m 327 #[iv p1, iv p2, iv p3, iv p4, iv p5, iv p6, iv P1, iv P2, iv P3, iv (0 : Int32), iv (3 : Int32), iv q, rv b1, rv b5, rv o, iv (1 : Int32), iv (0 : Int32), iv (0 : Int32), iv (0 : Int32), iv (-1 : Int32), iv (0 : Int32), iv (-1 : Int32), iv P1, .unset] [])) (fun t k => XS.istore X86.here hx rfl (hb hby at_325) rfl (l' := #[iv p1, iv p2, iv p3, iv p4, iv p5, iv p6, iv P1, iv P2, iv P3, iv (0 : Int32), iv (3 : Int32), iv q, rv b1, rv b5, rv o, iv (1 : Int32), iv (0 : Int32), iv (0 : Int32), iv (0 : Int32), iv (-1 : Int32), iv (0 : Int32), iv (-1 : Int32), iv P1, .unset]) rfl k) ?_
            refine oI2 X86 hx (hb hby at_327) (pc' := 329) rfl rfl ?_
            refine oI2 X86 hx (hb hby at_329) (pc' := 331) rfl rfl ?_
            refine oN X86 hx (hb hby at_331) (pc' := 334) rfl (tlt (by decide : (0 : Int32) < (3 : Int32))).2.1 ?_
            refine oA2 X86 hx (hb hby at_334) (pc' := 336) rfl rfl rfl ?_
            refine oI2 X86 hx (hb hby at_336) (pc' := 338) rfl rfl ?_
            refine own_pre (T' := T86) (f' := (mkF m 339 #[iv p1, iv p2, iv p3, iv p4, iv p5, iv p6, iv P1, iv P2, iv P3, iv (0 : Int32), iv (3 : Int32), iv q, rv b1, rv b5, rv o, iv (1 : Int32), iv (0 : Int32), iv (0 : Int32), iv (0 : Int32), iv (-1 : Int32), iv (0 : Int32), iv (-1 : Int32), iv P1, .unset] [(.int P1)])) (fun t k => own_ldI X86 hx hZ e86 (V4.ext EX62_h4) (by decide) rfl (g := (mkF m 338 #[iv p1, iv p2, iv p3, iv p4, iv p5, iv p6, iv P1, iv P2, iv P3, iv (0 : Int32), iv (3 : Int32), iv q, rv b1, rv b5, rv o, iv (1 : Int32), iv (0 : Int32), iv (0 : Int32), iv (0 : Int32), iv (-1 : Int32), iv (0 : Int32), iv (-1 : Int32), iv P1, .unset] [(.int (0 : Int32)), (.ref b1)])) rfl rfl (hb hby at_338) t k) ?_
            refine oG X86 hx (hb hby at_339) (pc' := 344) (by decide) (by decide) ?_
            refine own_pre (T' := T86) (f' := (mkF m 346 #[iv p1, iv p2, iv p3, iv p4, iv p5, iv p6, iv P1, iv P2, iv P3, iv (0 : Int32), iv (3 : Int32), iv q, rv b1, rv b5, rv o, iv (1 : Int32), iv (0 : Int32), iv (0 : Int32), iv (0 : Int32), iv (-1 : Int32), iv (0 : Int32), iv (-1 : Int32), iv P1, iv P1] [])) (fun t k => XS.istore X86.here hx rfl (hb hby at_344) rfl (l' := #[iv p1, iv p2, iv p3, iv p4, iv p5, iv p6, iv P1, iv P2, iv P3, iv (0 : Int32), iv (3 : Int32), iv q, rv b1, rv b5, rv o, iv (1 : Int32), iv (0 : Int32), iv (0 : Int32), iv (0 : Int32), iv (-1 : Int32), iv (0 : Int32), iv (-1 : Int32), iv P1, iv P1]) rfl k) ?_
            refine oI2 X86 hx (hb hby at_346) (pc' := 348) rfl rfl ?_
            refine oN0 X86 hx (hb hby at_348) (pc' := 351) rfl ((if0 _ _).trans (feq (by decide : ¬ ((1 : Int32) = (0 : Int32)))).1) ?_
            refine oI2 X86 hx (hb hby at_351) (pc' := 353) rfl rfl ?_
            refine oI2 X86 hx (hb hby at_353) (pc' := 355) rfl rfl ?_
            refine oN X86 hx (hb hby at_355) (pc' := 358) rfl (teq (by decide : (-1 : Int32) = (-1 : Int32))).2 ?_
            refine oI2 X86 hx (hb hby at_358) (pc' := 360) rfl rfl ?_
            refine oI2 X86 hx (hb hby at_360) (pc' := 362) rfl rfl ?_
            refine oN X86 hx (hb hby at_362) (pc' := 365) rfl (teq (rfl : P1 = P1)).2 ?_
            refine oC X86 hx (1 : Int32) (hb hby at_365) (pc' := 366) rfl rfl ?_
            refine oG X86 hx (hb hby at_366) (pc' := 370) (by decide) (by decide) ?_
            refine own_pre (T' := T86) (f' := (mkF m 372 #[iv p1, iv p2, iv p3, iv p4, iv p5, iv p6, iv P1, iv P2, iv P3, iv (0 : Int32), iv (3 : Int32), iv q, rv b1, rv b5, rv o, iv (1 : Int32), iv (0 : Int32), iv (0 : Int32), iv (0 : Int32), iv (-1 : Int32), iv (0 : Int32), iv (-1 : Int32), iv P1, iv P1] [])) (fun t k => XS.istore X86.here hx rfl (hb hby at_370) rfl (l' := #[iv p1, iv p2, iv p3, iv p4, iv p5, iv p6, iv P1, iv P2, iv P3, iv (0 : Int32), iv (3 : Int32), iv q, rv b1, rv b5, rv o, iv (1 : Int32), iv (0 : Int32), iv (0 : Int32), iv (0 : Int32), iv (-1 : Int32), iv (0 : Int32), iv (-1 : Int32), iv P1, iv P1]) rfl k) ?_
            refine oI2 X86 hx (hb hby at_372) (pc' := 374) rfl rfl ?_
            refine oI2 X86 hx (hb hby at_374) (pc' := 376) rfl rfl ?_
            refine oN X86 hx (hb hby at_376) (pc' := 379) rfl (tlt (by decide : (0 : Int32) < (3 : Int32))).2.1 ?_
            refine oI2 X86 hx (hb hby at_379) (pc' := 381) rfl rfl ?_
            refine oN0 X86 hx (hb hby at_381) (pc' := 384) rfl ((if0 _ _).trans (feq (by decide : ¬ ((1 : Int32) = (0 : Int32)))).1) ?_
            refine oA2 X86 hx (hb hby at_384) (pc' := 386) rfl rfl rfl ?_
            obtain ⟨T87, L87, v87, Y87a, ⟨rfl, N87, B87⟩, st87⟩ := own_callV X86 hx hZ e86 (y := (⟨"com/example/orthonorm/orthonorm/sanskrit/Anchors", "take", "()I"⟩ : MethodName)) hown (hw _ (List.mem_of_getElem? (i := 53) rfl)) (hw _ (List.mem_of_getElem? (i := 54) rfl)) (hw _ (List.mem_of_getElem? (i := 56) rfl)) (hw _ (List.mem_of_getElem? (i := 55) rfl)) (hw _ (List.mem_of_getElem? (i := 57) rfl)) (hw _ (List.mem_of_getElem? (i := 4) rfl)) (by decide) 0 [] [] (own_take_0 l Z a0 hw [] w_NO_ANCHORS k_NO_ANCHORS h62 (own_F_ext F0 EX62_h0) h8 Fb o P O kP kO P1 P2 P3 (0 : Int32) (0 : Int32) (0 : Int32) (0 : Int32) (0 : Int32) p3 p4 p5 (0 : Int32) (0 : Int32) (0 : Int32) (0 : Int32) (0 : Int32) (3 : Int32) B62) (by decide) (by decide) (by decide) (by decide) (own_Ob_E B62.1) (g := (mkF m 386 #[iv p1, iv p2, iv p3, iv p4, iv p5, iv p6, iv P1, iv P2, iv P3, iv (0 : Int32), iv (3 : Int32), iv q, rv b1, rv b5, rv o, iv (1 : Int32), iv (0 : Int32), iv (0 : Int32), iv (0 : Int32), iv (-1 : Int32), iv (0 : Int32), iv (-1 : Int32), iv P1, iv P1] [(.ref o)])) rfl (by rw [hml]; rfl) (lenOf pd_4 rfl) rfl (by show 2 * 0 + _ ≤ _; exact Nat.le_of_eq rfl) (hb hby at_386)
            have X87 := Y87a.forget (fun y hy => Nat.le_trans hsz (N87 y hy))
            obtain ⟨h87, e87⟩ : ∃ y, T87.heap = y := ⟨_, rfl⟩
            rw [e87] at B87
            have EX87_h0 : Ext h0 h87 := own_extE EX8_h0 (own_Ob_X B87.1)
            have EX87_h4 : Ext h4 h87 := own_extE EX8_h4 (own_Ob_X B87.1)
            have EX87_h8 : Ext h8 h87 := own_Ob_X B87.1
            refine own_pre (T' := T87) (f' := (mkF m 389 #[iv p1, iv p2, iv p3, iv p4, iv p5, iv p6, iv P1, iv P2, iv P3, iv (0 : Int32), iv (3 : Int32), iv q, rv b1, rv b5, rv o, iv (1 : Int32), iv (0 : Int32), iv (0 : Int32), iv (0 : Int32), iv (-1 : Int32), iv (0 : Int32), iv (-1 : Int32), iv P1, iv P1] [(.int p3)])) (fun t k => st87 t k) ?_
            refine oA2 X87 hx (hb hby at_389) (pc' := 391) rfl rfl rfl ?_
            refine oI2 X87 hx (hb hby at_391) (pc' := 393) rfl rfl ?_
            refine own_pre (T' := T87) (f' := (mkF m 394 #[iv p1, iv p2, iv p3, iv p4, iv p5, iv p6, iv P1, iv P2, iv P3, iv (0 : Int32), iv (3 : Int32), iv q, rv b1, rv b5, rv o, iv (1 : Int32), iv (0 : Int32), iv (0 : Int32), iv (0 : Int32), iv (-1 : Int32), iv (0 : Int32), iv (-1 : Int32), iv P1, iv P1] [(.int p3), (.int p3)])) (fun t k => own_ldI X87 hx hZ e87 (V8.ext EX87_h8) (by decide) rfl (g := (mkF m 393 #[iv p1, iv p2, iv p3, iv p4, iv p5, iv p6, iv P1, iv P2, iv P3, iv (0 : Int32), iv (3 : Int32), iv q, rv b1, rv b5, rv o, iv (1 : Int32), iv (0 : Int32), iv (0 : Int32), iv (0 : Int32), iv (-1 : Int32), iv (0 : Int32), iv (-1 : Int32), iv P1, iv P1] [(.int (0 : Int32)), (.ref b5), (.int p3)])) rfl rfl (hb hby at_393) t k) ?_
            refine oN X87 hx (hb hby at_394) (pc' := 397) rfl (teq (rfl : p3 = p3)).2 ?_
            refine oC X87 hx (1 : Int32) (hb hby at_397) (pc' := 398) rfl rfl ?_
            refine oG X87 hx (hb hby at_398) (pc' := 402) (by decide) (by decide) ?_
            refine own_pre (T' := T87) (f' := (mkF m 404 #[iv p1, iv p2, iv p3, iv p4, iv p5, iv p6, iv P1, iv P2, iv P3, iv (0 : Int32), iv (3 : Int32), iv q, rv b1, rv b5, rv o, iv (1 : Int32), iv (0 : Int32), iv (0 : Int32), iv (0 : Int32), iv (-1 : Int32), iv (0 : Int32), iv (-1 : Int32), iv P1, iv P1] [])) (fun t k => XS.istore X87.here hx rfl (hb hby at_402) rfl (l' := #[iv p1, iv p2, iv p3, iv p4, iv p5, iv p6, iv P1, iv P2, iv P3, iv (0 : Int32), iv (3 : Int32), iv q, rv b1, rv b5, rv o, iv (1 : Int32), iv (0 : Int32), iv (0 : Int32), iv (0 : Int32), iv (-1 : Int32), iv (0 : Int32), iv (-1 : Int32), iv P1, iv P1]) rfl k) ?_
            refine oI2 X87 hx (hb hby at_404) (pc' := 406) rfl rfl ?_
            exact own_retZ X87 hx hlk hret (hb hby at_406) rfl (⟨rfl, Fr.nil _⟩) (by decide) (by decide)
      · refine oI2 X10 hx (hb hby at_123) (pc' := 125) rfl rfl ?_
        refine oC X10 hx (1 : Int32) (hb hby at_125) (pc' := 126) rfl rfl ?_
        refine oN X10 hx (hb hby at_126) (pc' := 129) rfl (flt (by decide : ¬ ((3 : Int32) < (1 : Int32)))).1 ?_
        refine oA2 X10 hx (hb hby at_129) (pc' := 131) rfl rfl rfl ?_
        refine oI2 X10 hx (hb hby at_131) (pc' := 133) rfl rfl ?_
        refine oI1 X10 hx (hb hby at_133) (pc' := 134) rfl rfl ?_
        obtain ⟨T88, L88, v88, Y88a, ⟨rfl, N88, P, O, kP, kO, B88⟩, st88⟩ := own_callV X10 hx hZ e10 (y := (⟨"com/example/orthonorm/orthonorm/sanskrit/Anchors", "add", "(II)V"⟩ : MethodName)) hown (hw _ (List.mem_of_getElem? (i := 33) rfl)) (hw _ (List.mem_of_getElem? (i := 34) rfl)) (hw _ (List.mem_of_getElem? (i := 36) rfl)) (hw _ (List.mem_of_getElem? (i := 35) rfl)) (hw _ (List.mem_of_getElem? (i := 37) rfl)) (hw _ (List.mem_of_getElem? (i := 4) rfl)) (by decide) 0 [(.int P1), (.int p3)] [] (own_add1 l Z a0 hw [] w_NO_ANCHORS k_NO_ANCHORS h10 (own_F_ext F0 EX10_h0) h8 Fb o P1 p3 B10) (by decide) (by decide) (by decide) (by decide) (own_Ob_E B10) (g := (mkF m 134 #[iv p1, iv p2, iv p3, iv p4, iv p5, iv p6, iv P1, iv P2, iv P3, iv (1 : Int32), iv (3 : Int32), iv q, rv b1, rv b5, rv o, .unset, .unset, .unset, .unset, .unset, .unset, .unset, .unset, .unset] [(.int p3), (.int P1), (.ref o)])) rfl (by rw [hml]; rfl) (lenOf pd_5 rfl) rfl (by show 2 * 0 + _ ≤ _; exact Nat.le_of_eq rfl) (hb hby at_134)
        have X88 := Y88a.forget (fun y hy => Nat.le_trans hsz (N88 y hy))
        obtain ⟨h88, e88⟩ : ∃ y, T88.heap = y := ⟨_, rfl⟩
        rw [e88] at B88
        have EX88_h0 : Ext h0 h88 := own_extE EX8_h0 (own_Ob_X B88.1)
        have EX88_h4 : Ext h4 h88 := own_extE EX8_h4 (own_Ob_X B88.1)
        have EX88_h8 : Ext h8 h88 := own_Ob_X B88.1
        refine own_pre (T' := T88) (f' := (mkF m 137 #[iv p1, iv p2, iv p3, iv p4, iv p5, iv p6, iv P1, iv P2, iv P3, iv (1 : Int32), iv (3 : Int32), iv q, rv b1, rv b5, rv o, .unset, .unset, .unset, .unset, .unset, .unset, .unset, .unset, .unset] [])) (fun t k => st88 t k) ?_
        refine oI2 X88 hx (hb hby at_137) (pc' := 139) rfl rfl ?_
        refine oC X88 hx (2 : Int32) (hb hby at_139) (pc' := 140) rfl rfl ?_
        refine oN X88 hx (hb hby at_140) (pc' := 143) rfl (flt (by decide : ¬ ((3 : Int32) < (2 : Int32)))).1 ?_
        refine oA2 X88 hx (hb hby at_143) (pc' := 145) rfl rfl rfl ?_
        refine oI2 X88 hx (hb hby at_145) (pc' := 147) rfl rfl ?_
        refine oI1 X88 hx (hb hby at_147) (pc' := 148) rfl rfl ?_
        obtain ⟨T89, L89, v89, Y89a, ⟨rfl, N89, B89⟩, st89⟩ := own_callV X88 hx hZ e88 (y := (⟨"com/example/orthonorm/orthonorm/sanskrit/Anchors", "add", "(II)V"⟩ : MethodName)) hown (hw _ (List.mem_of_getElem? (i := 33) rfl)) (hw _ (List.mem_of_getElem? (i := 34) rfl)) (hw _ (List.mem_of_getElem? (i := 36) rfl)) (hw _ (List.mem_of_getElem? (i := 35) rfl)) (hw _ (List.mem_of_getElem? (i := 37) rfl)) (hw _ (List.mem_of_getElem? (i := 4) rfl)) (by decide) 0 [(.int P2), (.int p4)] [] (own_add_1 l Z a0 hw [] w_NO_ANCHORS k_NO_ANCHORS h88 (own_F_ext F0 EX88_h0) h8 Fb o P O kP kO P1 (0 : Int32) (0 : Int32) (0 : Int32) (0 : Int32) (0 : Int32) (0 : Int32) (0 : Int32) p3 (0 : Int32) (0 : Int32) (0 : Int32) (0 : Int32) (0 : Int32) (0 : Int32) (0 : Int32) B88 P2 p4 (own_lne hP12)) (by decide) (by decide) (by decide) (by decide) (own_Ob_E B88.1) (g := (mkF m 148 #[iv p1, iv p2, iv p3, iv p4, iv p5, iv p6, iv P1, iv P2, iv P3, iv (1 : Int32), iv (3 : Int32), iv q, rv b1, rv b5, rv o, .unset, .unset, .unset, .unset, .unset, .unset, .unset, .unset, .unset] [(.int p4), (.int P2), (.ref o)])) rfl (by rw [hml]; rfl) (lenOf pd_5 rfl) rfl (by show 2 * 0 + _ ≤ _; exact Nat.le_of_eq rfl) (hb hby at_148)
        have X89 := Y89a.forget (fun y hy => Nat.le_trans hsz (N89 y hy))
        obtain ⟨h89, e89⟩ : ∃ y, T89.heap = y := ⟨_, rfl⟩
        rw [e89] at B89
        have EX89_h0 : Ext h0 h89 := own_extE EX8_h0 (own_Ob_X B89.1)
        have EX89_h4 : Ext h4 h89 := own_extE EX8_h4 (own_Ob_X B89.1)
        have EX89_h8 : Ext h8 h89 := own_Ob_X B89.1
        refine own_pre (T' := T89) (f' := (mkF m 151 #[iv p1, iv p2, iv p3, iv p4, iv p5, iv p6, iv P1, iv P2, iv P3, iv (1 : Int32), iv (3 : Int32), iv q, rv b1, rv b5, rv o, .unset, .unset, .unset, .unset, .unset, .unset, .unset, .unset, .unset] [])) (fun t k => st89 t k) ?_
        refine oI2 X89 hx (hb hby at_151) (pc' := 153) rfl rfl ?_
        refine oC X89 hx (3 : Int32) (hb hby at_153) (pc' := 154) rfl rfl ?_
        refine oN X89 hx (hb hby at_154) (pc' := 157) rfl (flt (by decide : ¬ ((3 : Int32) < (3 : Int32)))).1 ?_
        refine oA2 X89 hx (hb hby at_157) (pc' := 159) rfl rfl rfl ?_
        refine oI2 X89 hx (hb hby at_159) (pc' := 161) rfl rfl ?_
        refine oI2 X89 hx (hb hby at_161) (pc' := 163) rfl rfl ?_
        obtain ⟨T90, L90, v90, Y90a, ⟨rfl, N90, B90⟩, st90⟩ := own_callV X89 hx hZ e89 (y := (⟨"com/example/orthonorm/orthonorm/sanskrit/Anchors", "add", "(II)V"⟩ : MethodName)) hown (hw _ (List.mem_of_getElem? (i := 33) rfl)) (hw _ (List.mem_of_getElem? (i := 34) rfl)) (hw _ (List.mem_of_getElem? (i := 36) rfl)) (hw _ (List.mem_of_getElem? (i := 35) rfl)) (hw _ (List.mem_of_getElem? (i := 37) rfl)) (hw _ (List.mem_of_getElem? (i := 4) rfl)) (by decide) 0 [(.int P3), (.int p5)] [] (own_add_2 l Z a0 hw [] w_NO_ANCHORS k_NO_ANCHORS h89 (own_F_ext F0 EX89_h0) h8 Fb o P O kP kO P1 P2 (0 : Int32) (0 : Int32) (0 : Int32) (0 : Int32) (0 : Int32) (0 : Int32) p3 p4 (0 : Int32) (0 : Int32) (0 : Int32) (0 : Int32) (0 : Int32) (0 : Int32) B89 P3 p5 (own_lne hP23)) (by decide) (by decide) (by decide) (by decide) (own_Ob_E B89.1) (g := (mkF m 163 #[iv p1, iv p2, iv p3, iv p4, iv p5, iv p6, iv P1, iv P2, iv P3, iv (1 : Int32), iv (3 : Int32), iv q, rv b1, rv b5, rv o, .unset, .unset, .unset, .unset, .unset, .unset, .unset, .unset, .unset] [(.int p5), (.int P3), (.ref o)])) rfl (by rw [hml]; rfl) (lenOf pd_5 rfl) rfl (by show 2 * 0 + _ ≤ _; exact Nat.le_of_eq rfl) (hb hby at_163)
        have X90 := Y90a.forget (fun y hy => Nat.le_trans hsz (N90 y hy))
        obtain ⟨h90, e90⟩ : ∃ y, T90.heap = y := ⟨_, rfl⟩
        rw [e90] at B90
        have EX90_h0 : Ext h0 h90 := own_extE EX8_h0 (own_Ob_X B90.1)
        have EX90_h4 : Ext h4 h90 := own_extE EX8_h4 (own_Ob_X B90.1)
        have EX90_h8 : Ext h8 h90 := own_Ob_X B90.1
        refine own_pre (T' := T90) (f' := (mkF m 166 #[iv p1, iv p2, iv p3, iv p4, iv p5, iv p6, iv P1, iv P2, iv P3, iv (1 : Int32), iv (3 : Int32), iv q, rv b1, rv b5, rv o, .unset, .unset, .unset, .unset, .unset, .unset, .unset, .unset, .unset] [])) (fun t k => st90 t k) ?_
        refine oC X90 hx (1 : Int32) (hb hby at_166) (pc' := 167) rfl rfl ?_
        refine own_pre (T' := T90) (f' := (mkF m 169 #[iv p1, iv p2, iv p3, iv p4, iv p5, iv p6, iv P1, iv P2, iv P3, iv (1 : Int32), iv (3 : Int32), iv q, rv b1, rv b5, rv o, iv (1 : Int32), .unset, .unset, .unset, .unset, .unset, .unset, .unset, .unset] [])) (fun t k => XS.istore X90.here hx rfl (hb hby at_167) rfl (l' := #[iv p1, iv p2, iv p3, iv p4, iv p5, iv p6, iv P1, iv P2, iv P3, iv (1 : Int32), iv (3 : Int32), iv q, rv b1, rv b5, rv o, iv (1 : Int32), .unset, .unset, .unset, .unset, .unset, .unset, .unset, .unset]) rfl k) ?_
        refine oC X90 hx (0 : Int32) (hb hby at_169) (pc' := 170) rfl rfl ?_
        refine own_pre (T' := T90) (f' := (mkF m 172 #[iv p1, iv p2, iv p3, iv p4, iv p5, iv p6, iv P1, iv P2, iv P3, iv (1 : Int32), iv (3 : Int32), iv q, rv b1, rv b5, rv o, iv (1 : Int32), iv (0 : Int32), .unset, .unset, .unset, .unset, .unset, .unset, .unset] [])) (fun t k => XS.istore X90.here hx rfl (hb hby at_170) rfl (l' := #[iv p1, iv p2, iv p3, iv p4, iv p5, iv p6, iv P1, iv P2, iv P3, iv (1 : Int32), iv (3 : Int32), iv q, rv b1, rv b5, rv o, iv (1 : Int32), iv (0 : Int32), .unset, .unset, .unset, .unset, .unset, .unset, .unset]) rfl k) ?_
        refine oI2 X90 hx (hb hby at_172) (pc' := 174) rfl rfl ?_
        refine oN0 X90 hx (hb hby at_174) (pc' := 177) rfl ((if0 _ _).trans (feq (by decide : ¬ ((1 : Int32) = (0 : Int32)))).1) ?_
        refine oI2 X90 hx (hb hby at_177) (pc' := 179) rfl rfl ?_
        refine oC X90 hx (1 : Int32) (hb hby at_179) (pc' := 180) rfl rfl ?_
        refine oN X90 hx (hb hby at_180) (pc' := 183) rfl (flt (by decide : ¬ ((3 : Int32) < (1 : Int32)))).1 ?_
        refine oA2 X90 hx (hb hby at_183) (pc' := 185) rfl rfl rfl ?_
        obtain ⟨T91, L91, v91, Y91a, ⟨rfl, N91, B91⟩, st91⟩ := own_callV X90 hx hZ e90 (y := (⟨"com/example/orthonorm/orthonorm/sanskrit/Anchors", "take", "()I"⟩ : MethodName)) hown (hw _ (List.mem_of_getElem? (i := 53) rfl)) (hw _ (List.mem_of_getElem? (i := 54) rfl)) (hw _ (List.mem_of_getElem? (i := 56) rfl)) (hw _ (List.mem_of_getElem? (i := 55) rfl)) (hw _ (List.mem_of_getElem? (i := 57) rfl)) (hw _ (List.mem_of_getElem? (i := 4) rfl)) (by decide) 0 [] [] (own_take_0 l Z a0 hw [] w_NO_ANCHORS k_NO_ANCHORS h90 (own_F_ext F0 EX90_h0) h8 Fb o P O kP kO P1 P2 P3 (0 : Int32) (0 : Int32) (0 : Int32) (0 : Int32) (0 : Int32) p3 p4 p5 (0 : Int32) (0 : Int32) (0 : Int32) (0 : Int32) (0 : Int32) (3 : Int32) B90) (by decide) (by decide) (by decide) (by decide) (own_Ob_E B90.1) (g := (mkF m 185 #[iv p1, iv p2, iv p3, iv p4, iv p5, iv p6, iv P1, iv P2, iv P3, iv (1 : Int32), iv (3 : Int32), iv q, rv b1, rv b5, rv o, iv (1 : Int32), iv (0 : Int32), .unset, .unset, .unset, .unset, .unset, .unset, .unset] [(.ref o)])) rfl (by rw [hml]; rfl) (lenOf pd_4 rfl) rfl (by show 2 * 0 + _ ≤ _; exact Nat.le_of_eq rfl) (hb hby at_185)
        have X91 := Y91a.forget (fun y hy => Nat.le_trans hsz (N91 y hy))
        obtain ⟨h91, e91⟩ : ∃ y, T91.heap = y := ⟨_, rfl⟩
        rw [e91] at B91
        have EX91_h0 : Ext h0 h91 := own_extE EX8_h0 (own_Ob_X B91.1)
        have EX91_h4 : Ext h4 h91 := own_extE EX8_h4 (own_Ob_X B91.1)
        have EX91_h8 : Ext h8 h91 := own_Ob_X B91.1
        refine own_pre (T' := T91) (f' := (mkF m 188 #[iv p1, iv p2, iv p3, iv p4, iv p5, iv p6, iv P1, iv P2, iv P3, iv (1 : Int32), iv (3 : Int32), iv q, rv b1, rv b5, rv o, iv (1 : Int32), iv (0 : Int32), .unset, .unset, .unset, .unset, .unset, .unset, .unset] [(.int p3)])) (fun t k => st91 t k) ?_
        refine oI1 X91 hx (hb hby at_188) (pc' := 189) rfl rfl ?_
        refine oN X91 hx (hb hby at_189) (pc' := 192) rfl (teq (rfl : p3 = p3)).2 ?_
        refine oC X91 hx (1 : Int32) (hb hby at_192) (pc' := 193) rfl rfl ?_
        refine oG X91 hx (hb hby at_193) (pc' := 197) (by decide) (by decide) ?_
        refine own_pre (T' := T91) (f' := (mkF m 199 #[iv p1, iv p2, iv p3, iv p4, iv p5, iv p6, iv P1, iv P2, iv P3, iv (1 : Int32), iv (3 : Int32), iv q, rv b1, rv b5, rv o, iv (1 : Int32), iv (0 : Int32), .unset, .unset, .unset, .unset, .unset, .unset, .unset] [])) (fun t k => XS.istore X91.here hx rfl (hb hby at_197) rfl (l' := #[iv p1, iv p2, iv p3, iv p4, iv p5, iv p6, iv P1, iv P2, iv P3, iv (1 : Int32), iv (3 : Int32), iv q, rv b1, rv b5, rv o, iv (1 : Int32), iv (0 : Int32), .unset, .unset, .unset, .unset, .unset, .unset, .unset]) rfl k) ?_
        refine oC X91 hx (1 : Int32) (hb hby at_199) (pc' := 200) rfl rfl ?_
        refine own_pre (T' := T91) (f' := (mkF m 202 #[iv p1, iv p2, iv p3, iv p4, iv p5, iv p6, iv P1, iv P2, iv P3, iv (1 : Int32), iv (3 : Int32), iv q, rv b1, rv b5, rv o, iv (1 : Int32), iv (1 : Int32), .unset, .unset, .unset, .unset, .unset, .unset, .unset] [])) (fun t k => XS.istore X91.here hx rfl (hb hby at_200) rfl (l' := #[iv p1, iv p2, iv p3, iv p4, iv p5, iv p6, iv P1, iv P2, iv P3, iv (1 : Int32), iv (3 : Int32), iv q, rv b1, rv b5, rv o, iv (1 : Int32), iv (1 : Int32), .unset, .unset, .unset, .unset, .unset, .unset, .unset]) rfl k) ?_
        refine oC X91 hx (0 : Int32) (hb hby at_202) (pc' := 203) rfl rfl ?_
        refine own_pre (T' := T91) (f' := (mkF m 205 #[iv p1, iv p2, iv p3, iv p4, iv p5, iv p6, iv P1, iv P2, iv P3, iv (1 : Int32), iv (3 : Int32), iv q, rv b1, rv b5, rv o, iv (1 : Int32), iv (1 : Int32), iv (0 : Int32), .unset, .unset, .unset, .unset, .unset, .unset] [])) (fun t k => XS.istore X91.here hx rfl (hb hby at_203) rfl (l' := #[iv p1, iv p2, iv p3, iv p4, iv p5, iv p6, iv P1, iv P2, iv P3, iv (1 : Int32), iv (3 : Int32), iv q, rv b1, rv b5, rv o, iv (1 : Int32), iv (1 : Int32), iv (0 : Int32), .unset, .unset, .unset, .unset, .unset, .unset]) rfl k) ?_
        refine oI2 X91 hx (hb hby at_205) (pc' := 207) rfl rfl ?_
        refine oY0 X91 hx (hb hby at_207) (pc' := 226) ((if0 _ _).trans (tlt (by decide : (0 : Int32) < (1 : Int32))).2.2.1) (by decide) (by decide) ?_
        refine oI2 X91 hx (hb hby at_226) (pc' := 228) rfl rfl ?_
        refine oC X91 hx (1 : Int32) (hb hby at_228) (pc' := 229) rfl rfl ?_
        refine oN X91 hx (hb hby at_229) (pc' := 232) rfl (flt (by decide : ¬ ((1 : Int32) < (1 : Int32)))).2.2.1 ?_
        refine oC X91 hx (1 : Int32) (hb hby at_232) (pc' := 233) rfl rfl ?_
        refine oI2 X91 hx (hb hby at_233) (pc' := 235) rfl rfl ?_
        refine oN X91 hx (hb hby at_235) (pc' := 238) rfl (tlt (by decide : (1 : Int32) < (3 : Int32))).2.1 ?_
        refine oI2 X91 hx (hb hby at_238) (pc' := 240) rfl rfl ?_
        refine oI2 X91 hx (hb hby at_240) (pc' := 242) rfl rfl ?_
        by_cases hc92 : P2 < q
        · refine oN X91 hx (hb hby at_242) (pc' := 245) rfl (tlt hc92).2.1 ?_
          refine own_pre (T' := T91) (f' := (mkF m 248 #[iv p1, iv p2, iv p3, iv p4, iv p5, iv p6, iv P1, iv P2, iv P3, iv (1 : Int32), iv (3 : Int32), iv q, rv b1, rv b5, rv o, iv (1 : Int32), iv (1 : Int32), iv ((0 : Int32) + (1 : Int32)), .unset, .unset, .unset, .unset, .unset, .unset] [])) (fun t k => XS.iinc X91.here hx rfl (hb hby at_245) rfl (l' := #[iv p1, iv p2, iv p3, iv p4, iv p5, iv p6, iv P1, iv P2, iv P3, iv (1 : Int32), iv (3 : Int32), iv q, rv b1, rv b5, rv o, iv (1 : Int32), iv (1 : Int32), iv ((0 : Int32) + (1 : Int32)), .unset, .unset, .unset, .unset, .unset, .unset]) rfl k) ?_
          rw [show ((0 : Int32) + (1 : Int32)) = (1 : Int32) from by decide]
          refine oC X91 hx (2 : Int32) (hb hby at_248) (pc' := 249) rfl rfl ?_
          refine oI2 X91 hx (hb hby at_249) (pc' := 251) rfl rfl ?_
          refine oN X91 hx (hb hby at_251) (pc' := 254) rfl (tlt (by decide : (2 : Int32) < (3 : Int32))).2.1 ?_
          refine oI2 X91 hx (hb hby at_254) (pc' := 256) rfl rfl ?_
          refine oI2 X91 hx (hb hby at_256) (pc' := 258) rfl rfl ?_
          by_cases hc93 : P3 < q
          · refine oN X91 hx (hb hby at_258) (pc' := 261) rfl (tlt hc93).2.1 ?_
            refine own_pre (T' := T91) (f' := (mkF m 264 #[iv p1, iv p2, iv p3, iv p4, iv p5, iv p6, iv P1, iv P2, iv P3, iv (1 : Int32), iv (3 : Int32), iv q, rv b1, rv b5, rv o, iv (1 : Int32), iv (1 : Int32), iv ((1 : Int32) + (1 : Int32)), .unset, .unset, .unset, .unset, .unset, .unset] [])) (fun t k => XS.iinc X91.here hx rfl (hb hby at_261) rfl (l' := #[iv p1, iv p2, iv p3, iv p4, iv p5, iv p6, iv P1, iv P2, iv P3, iv (1 : Int32), iv (3 : Int32), iv q, rv b1, rv b5, rv o, iv (1 : Int32), iv (1 : Int32), iv ((1 : Int32) + (1 : Int32)), .unset, .unset, .unset, .unset, .unset, .unset]) rfl k) ?_
            rw [show ((1 : Int32) + (1 : Int32)) = (2 : Int32) from by decide]
            refine oI2 X91 hx (hb hby at_264) (pc' := 266) rfl rfl ?_
            refine oI2 X91 hx (hb hby at_266) (pc' := 268) rfl rfl ?_
            refine own_pre (T' := T91) (f' := (mkF m 269 #[iv p1, iv p2, iv p3, iv p4, iv p5, iv p6, iv P1, iv P2, iv P3, iv (1 : Int32), iv (3 : Int32), iv q, rv b1, rv b5, rv o, iv (1 : Int32), iv (1 : Int32), iv (2 : Int32), .unset, .unset, .unset, .unset, .unset, .unset] [(.int ((1 : Int32) + (2 : Int32)))])) (fun t k => XS.iadd X91.here hx rfl (hb hby at_268) rfl k) ?_
            rw [show ((1 : Int32) + (2 : Int32)) = (3 : Int32) from by decide]
            refine own_pre (T' := T91) (f' := (mkF m 271 #[iv p1, iv p2, iv p3, iv p4, iv p5, iv p6, iv P1, iv P2, iv P3, iv (1 : Int32), iv (3 : Int32), iv q, rv b1, rv b5, rv o, iv (1 : Int32), iv (1 : Int32), iv (2 : Int32), iv (3 : Int32), .unset, .unset, .unset, .unset, .unset] [])) (fun t k => XS.istore X91.here hx rfl (hb hby at_269) rfl (l' := #[iv p1, iv p2, iv p3, iv p4, iv p5, iv p6, iv P1, iv P2, iv P3, iv (1 : Int32), iv (3 : Int32), iv q, rv b1, rv b5, rv o, iv (1 : Int32), iv (1 : Int32), iv (2 : Int32), iv (3 : Int32), .unset, .unset, .unset, .unset, .unset]) rfl k) ?_
            refine oI2 X91 hx (hb hby at_271) (pc' := 273) rfl rfl ?_
            refine oI2 X91 hx (hb hby at_273) (pc' := 275) rfl rfl ?_
            refine oY X91 hx (hb hby at_275) (pc' := 304) (flt (by decide : ¬ ((3 : Int32) < (3 : Int32)))).2.1 (by decide) (by decide) ?_
            refine oC X91 hx (-1 : Int32) (hb hby at_304) (pc' := 305) rfl rfl ?_
            refine own_pre (T' := T91) (f' := (mkF m 307 #[iv p1, iv p2, iv p3, iv p4, iv p5, iv p6, iv P1, iv P2, iv P3, iv (1 : Int32), iv (3 : Int32), iv q, rv b1, rv b5, rv o, iv (1 : Int32), iv (1 : Int32), iv (2 : Int32), iv (3 : Int32), iv (-1 : Int32), .unset, .unset, .unset, .unset] [])) (fun t k => XS.istore X91.here hx rfl (hb hby at_305) rfl (l' := #[iv p1, iv p2, iv p3, iv p4, iv p5, iv p6, iv P1, iv P2, iv P3, iv (1 : Int32), iv (3 : Int32), iv q, rv b1, rv b5, rv o, iv (1 : Int32), iv (1 : Int32), iv (2 : Int32), iv (3 : Int32), iv (-1 : Int32), .unset, .unset, .unset, .unset]) rfl k) ?_
            refine oI2 X91 hx (hb hby at_307) (pc' := 309) rfl rfl ?_
            refine own_pre (T' := T91) (f' := (mkF m 311 #[iv p1, iv p2, iv p3, iv p4, iv p5, iv p6, iv P1, iv P2, iv P3, iv (1 : Int32), iv (3 : Int32), iv q, rv b1, rv b5, rv o, iv (1 : Int32), iv (1 : Int32), iv (2 : Int32), iv (3 : Int32), iv (-1 : Int32), iv (3 : Int32), .unset, .unset, .unset] [])) (fun t k => XS.istore X91.here hx rfl (hb hby at_309) rfl (l' := #[iv p1, iv p2, iv p3, iv p4, iv p5, iv p6, iv P1, iv P2, iv P3, iv (1 : Int32), iv (3 : Int32), iv q, rv b1, rv b5, rv o, iv (1 : Int32), iv (1 : Int32), iv (2 : Int32), iv (3 : Int32), iv (-1 : Int32), iv (3 : Int32), .unset, .unset, .unset]) rfl k) ?_
            refine oA2 X91 hx (hb hby at_311) (pc' := 313) rfl rfl rfl ?_
            refine oI2 X91 hx (hb hby at_313) (pc' := 315) rfl rfl ?_
            obtain ⟨T94, L94, v94, Y94a, ⟨rfl, N94, B94⟩, st94⟩ := own_callV X91 hx hZ e91 (y := (⟨"com/example/orthonorm/orthonorm/sanskrit/Anchors", "takeAt", "(I)I"⟩ : MethodName)) hown (hw _ (List.mem_of_getElem? (i := 17) rfl)) (hw _ (List.mem_of_getElem? (i := 18) rfl)) (hw _ (List.mem_of_getElem? (i := 20) rfl)) (hw _ (List.mem_of_getElem? (i := 19) rfl)) (hw _ (List.mem_of_getElem? (i := 21) rfl)) (hw _ (List.mem_of_getElem? (i := 4) rfl)) (by decide) 0 [(.int q)] [] (own_at_3_1_3_0 l Z a0 hw [] w_NO_ANCHORS k_NO_ANCHORS h91 (own_F_ext F0 EX91_h0) h8 Fb o P O kP kO P1 P2 P3 (0 : Int32) (0 : Int32) (0 : Int32) (0 : Int32) (0 : Int32) p3 p4 p5 (0 : Int32) (0 : Int32) (0 : Int32) (0 : Int32) (0 : Int32) B91 q hc92 hc93) (by decide) (by decide) (by decide) (by decide) (own_Ob_E B91.1) (g := (mkF m 315 #[iv p1, iv p2, iv p3, iv p4, iv p5, iv p6, iv P1, iv P2, iv P3, iv (1 : Int32), iv (3 : Int32), iv q, rv b1, rv b5, rv o, iv (1 : Int32), iv (1 : Int32), iv (2 : Int32), iv (3 : Int32), iv (-1 : Int32), iv (3 : Int32), .unset, .unset, .unset] [(.int q), (.ref o)])) rfl (by rw [hml]; rfl) (lenOf pd_3 rfl) rfl (by show 2 * 0 + _ ≤ _; exact Nat.le_of_eq rfl) (hb hby at_315)
            have X94 := Y94a.forget (fun y hy => Nat.le_trans hsz (N94 y hy))
            obtain ⟨h94, e94⟩ : ∃ y, T94.heap = y := ⟨_, rfl⟩
            rw [e94] at B94
            have EX94_h0 : Ext h0 h94 := own_extE EX8_h0 (own_Ob_X B94.1)
            have EX94_h4 : Ext h4 h94 := own_extE EX8_h4 (own_Ob_X B94.1)
            have EX94_h8 : Ext h8 h94 := own_Ob_X B94.1
            refine own_pre (T' := T94) (f' := (mkF m 318 #[iv p1, iv p2, iv p3, iv p4, iv p5, iv p6, iv P1, iv P2, iv P3, iv (1 : Int32), iv (3 : Int32), iv q, rv b1, rv b5, rv o, iv (1 : Int32), iv (1 : Int32), iv (2 : Int32), iv (3 : Int32), iv (-1 : Int32), iv (3 : Int32), .unset, .unset, .unset] [(.int (-1 : Int32))])) (fun t k => st94 t k) ?_
            refine own_pre (T' := T94) (f' := (mkF m 320 #[iv p1, iv p2, iv p3, iv p4, iv p5, iv p6, iv P1, iv P2, iv P3, iv (1 : Int32), iv (3 : Int32), iv q, rv b1, rv b5, rv o, iv (1 : Int32), iv (1 : Int32), iv (2 : Int32), iv (3 : Int32), iv (-1 : Int32), iv (3 : Int32), iv (-1 : Int32), .unset, .unset] [])) (fun t k => XS.istore X94.here hx rfl (hb hby at_318) rfl (l' := #[iv p1, iv p2, iv p3, iv p4, iv p5, iv p6, iv P1, iv P2, iv P3, iv (1 : Int32), iv (3 : Int32), iv q, rv b1, rv b5, rv o, iv (1 : Int32), iv (1 : Int32), iv (2 : Int32), iv (3 : Int32), iv (-1 : Int32), iv (3 : Int32), iv (-1 : Int32), .unset, .unset]) rfl k) ?_
            refine oA2 X94 hx (hb hby at_320) (pc' := 322) rfl rfl rfl ?_
            obtain ⟨T95, X95, e95, st95⟩ := own_pure (f := 0) (n := 0) (v := (some (.int (2147483647 : Int32)))) (own_callV X94 hx hZ e94 (y := (⟨"com/example/orthonorm/orthonorm/sanskrit/Anchors", "nextPlace", "()I"⟩ : MethodName)) hown (hw _ (List.mem_of_getElem? (i := 26) rfl)) (hw _ (List.mem_of_getElem? (i := 27) rfl)) (hw _ (List.mem_of_getElem? (i := 29) rfl)) (hw _ (List.mem_of_getElem? (i := 28) rfl)) (hw _ (List.mem_of_getElem? (i := 30) rfl)) (hw _ (List.mem_of_getElem? (i := 4) rfl)) (by decide) 0 [] [] (own_next_3_3 l Z a0 hw [] w_NO_ANCHORS k_NO_ANCHORS h94 (own_F_ext F0 EX94_h0) h8 Fb o P O kP kO P1 P2 P3 (0 : Int32) (0 : Int32) (0 : Int32) (0 : Int32) (0 : Int32) p3 p4 p5 (0 : Int32) (0 : Int32) (0 : Int32) (0 : Int32) (0 : Int32) B94) (by decide) (by decide) (by decide) (by decide) (own_Ob_E B94.1) (g := (mkF m 322 #[iv p1, iv p2, iv p3, iv p4, iv p5, iv p6, iv P1, iv P2, iv P3, iv (1 : Int32), iv (3 : Int32), iv q, rv b1, rv b5, rv o, iv (1 : Int32), iv (1 : Int32), iv (2 : Int32), iv (3 : Int32), iv (-1 : Int32), iv (3 : Int32), iv (-1 : Int32), .unset, .unset] [(.ref o)])) rfl (by rw [hml]; rfl) (lenOf pd_4 rfl) rfl (by show 2 * 0 + _ ≤ _; exact Nat.le_of_eq rfl) (hb hby at_322))
            refine own_pre (T' := T95) (f' := (mkF m 325 #[iv p1, iv p2, iv p3, iv p4, iv p5, iv p6, iv P1, iv P2, iv P3, iv (1 : Int32), iv (3 : Int32), iv q, rv b1, rv b5, rv o, iv (1 : Int32), iv (1 : Int32), iv (2 : Int32), iv (3 : Int32), iv (-1 : Int32), iv (3 : Int32), iv (-1 : Int32), .unset, .unset] [(.int (2147483647 : Int32))])) (fun t k => st95 t k) ?_
            refine own_pre (T' := T95) (f' := (mkF m 327 #[iv p1, iv p2, iv p3, iv p4, iv p5, iv p6, iv P1, iv P2, iv P3, iv (1 : Int32), iv (3 : Int32), iv q, rv b1, rv b5, rv o, iv (1 : Int32), iv (1 : Int32), iv (2 : Int32), iv (3 : Int32), iv (-1 : Int32), iv (3 : Int32), iv (-1 : Int32), iv (2147483647 : Int32), .unset] [])) (fun t k => XS.istore X95.here hx rfl (hb hby at_325) rfl (l' := #[iv p1, iv p2, iv p3, iv p4, iv p5, iv p6, iv P1, iv P2, iv P3, iv (1 : Int32), iv (3 : Int32), iv q, rv b1, rv b5, rv o, iv (1 : Int32), iv (1 : Int32), iv (2 : Int32), iv (3 : Int32), iv (-1 : Int32), iv (3 : Int32), iv (-1 : Int32), iv (2147483647 : Int32), .unset]) rfl k) ?_
            refine oI2 X95 hx (hb hby at_327) (pc' := 329) rfl rfl ?_
            refine oI2 X95 hx (hb hby at_329) (pc' := 331) rfl rfl ?_
            refine oY X95 hx (hb hby at_331) (pc' := 342) (flt (by decide : ¬ ((3 : Int32) < (3 : Int32)))).2.1 (by decide) (by decide) ?_
            refine own_pre (T' := T95) (f' := (mkF m 344 #[iv p1, iv p2, iv p3, iv p4, iv p5, iv p6, iv P1, iv P2, iv P3, iv (1 : Int32), iv (3 : Int32), iv q, rv b1, rv b5, rv o, iv (1 : Int32), iv (1 : Int32), iv (2 : Int32), iv (3 : Int32), iv (-1 : Int32), iv (3 : Int32), iv (-1 : Int32), iv (2147483647 : Int32), .unset] [(.int (2147483647 : Int32))])) (fun t k => X95.ldcInt hx hown (mvT hZ (hw _ (List.mem_of_getElem? (i := 32) rfl))) (g := (mkF m 342 #[iv p1, iv p2, iv p3, iv p4, iv p5, iv p6, iv P1, iv P2, iv P3, iv (1 : Int32), iv (3 : Int32), iv q, rv b1, rv b5, rv o, iv (1 : Int32), iv (1 : Int32), iv (2 : Int32), iv (3 : Int32), iv (-1 : Int32), iv (3 : Int32), iv (-1 : Int32), iv (2147483647 : Int32), .unset] [])) rfl (hb hby at_342) t k) ?_
            refine own_pre (T' := T95) (f' := (mkF m 346 #[iv p1, iv p2, iv p3, iv p4, iv p5, iv p6, iv P1, iv P2, iv P3, iv (1 : Int32), iv (3 : Int32), iv q, rv b1, rv b5, rv o, iv (1 : Int32), iv (1 : Int32), iv (2 : Int32), iv (3 : Int32), iv (-1 : Int32), iv (3 : Int32), iv (-1 : Int32), iv (2147483647 : Int32), iv (2147483647 : Int32)] [])) (fun t k => XS.istore X95.here hx rfl (hb hby at_344) rfl (l' := #[iv p1, iv p2, iv p3, iv p4, iv p5, iv p6, iv P1, iv P2, iv P3, iv (1 : Int32), iv (3 : Int32), iv q, rv b1, rv b5, rv o, iv (1 : Int32), iv (1 : Int32), iv (2 : Int32), iv (3 : Int32), iv (-1 : Int32), iv (3 : Int32), iv (-1 : Int32), iv (2147483647 : Int32), iv (2147483647 : Int32)]) rfl k) ?_
            refine oI2 X95 hx (hb hby at_346) (pc' := 348) rfl rfl ?_
            refine oN0 X95 hx (hb hby at_348) (pc' := 351) rfl ((if0 _ _).trans (feq (by decide : ¬ ((1 : Int32) = (0 : Int32)))).1) ?_
            refine oI2 X95 hx (hb hby at_351) (pc' := 353) rfl rfl ?_
            refine oI2 X95 hx (hb hby at_353) (pc' := 355) rfl rfl ?_
            refine oN X95 hx (hb hby at_355) (pc' := 358) rfl (teq (by decide : (-1 : Int32) = (-1 : Int32))).2 ?_
            refine oI2 X95 hx (hb hby at_358) (pc' := 360) rfl rfl ?_
            refine oI2 X95 hx (hb hby at_360) (pc' := 362) rfl rfl ?_
            refine oN X95 hx (hb hby at_362) (pc' := 365) rfl (teq (by decide : (2147483647 : Int32) = (2147483647 : Int32))).2 ?_
            refine oC X95 hx (1 : Int32) (hb hby at_365) (pc' := 366) rfl rfl ?_
            refine oG X95 hx (hb hby at_366) (pc' := 370) (by decide) (by decide) ?_
            refine own_pre (T' := T95) (f' := (mkF m 372 #[iv p1, iv p2, iv p3, iv p4, iv p5, iv p6, iv P1, iv P2, iv P3, iv (1 : Int32), iv (3 : Int32), iv q, rv b1, rv b5, rv o, iv (1 : Int32), iv (1 : Int32), iv (2 : Int32), iv (3 : Int32), iv (-1 : Int32), iv (3 : Int32), iv (-1 : Int32), iv (2147483647 : Int32), iv (2147483647 : Int32)] [])) (fun t k => XS.istore X95.here hx rfl (hb hby at_370) rfl (l' := #[iv p1, iv p2, iv p3, iv p4, iv p5, iv p6, iv P1, iv P2, iv P3, iv (1 : Int32), iv (3 : Int32), iv q, rv b1, rv b5, rv o, iv (1 : Int32), iv (1 : Int32), iv (2 : Int32), iv (3 : Int32), iv (-1 : Int32), iv (3 : Int32), iv (-1 : Int32), iv (2147483647 : Int32), iv (2147483647 : Int32)]) rfl k) ?_
            refine oI2 X95 hx (hb hby at_372) (pc' := 374) rfl rfl ?_
            refine oI2 X95 hx (hb hby at_374) (pc' := 376) rfl rfl ?_
            refine oY X95 hx (hb hby at_376) (pc' := 404) (flt (by decide : ¬ ((3 : Int32) < (3 : Int32)))).2.1 (by decide) (by decide) ?_
            refine oI2 X95 hx (hb hby at_404) (pc' := 406) rfl rfl ?_
            exact own_retZ X95 hx hlk hret (hb hby at_406) rfl (⟨rfl, Fr.nil _⟩) (by decide) (by decide)
          · refine oY X91 hx (hb hby at_258) (pc' := 264) (flt hc93).2.1 (by decide) (by decide) ?_
            refine oI2 X91 hx (hb hby at_264) (pc' := 266) rfl rfl ?_
            refine oI2 X91 hx (hb hby at_266) (pc' := 268) rfl rfl ?_
            refine own_pre (T' := T91) (f' := (mkF m 269 #[iv p1, iv p2, iv p3, iv p4, iv p5, iv p6, iv P1, iv P2, iv P3, iv (1 : Int32), iv (3 : Int32), iv q, rv b1, rv b5, rv o, iv (1 : Int32), iv (1 : Int32), iv (1 : Int32), .unset, .unset, .unset, .unset, .unset, .unset] [(.int ((1 : Int32) + (1 : Int32)))])) (fun t k => XS.iadd X91.here hx rfl (hb hby at_268) rfl k) ?_
            rw [show ((1 : Int32) + (1 : Int32)) = (2 : Int32) from by decide]
            refine own_pre (T' := T91) (f' := (mkF m 271 #[iv p1, iv p2, iv p3, iv p4, iv p5, iv p6, iv P1, iv P2, iv P3, iv (1 : Int32), iv (3 : Int32), iv q, rv b1, rv b5, rv o, iv (1 : Int32), iv (1 : Int32), iv (1 : Int32), iv (2 : Int32), .unset, .unset, .unset, .unset, .unset] [])) (fun t k => XS.istore X91.here hx rfl (hb hby at_269) rfl (l' := #[iv p1, iv p2, iv p3, iv p4, iv p5, iv p6, iv P1, iv P2, iv P3, iv (1 : Int32), iv (3 : Int32), iv q, rv b1, rv b5, rv o, iv (1 : Int32), iv (1 : Int32), iv (1 : Int32), iv (2 : Int32), .unset, .unset, .unset, .unset, .unset]) rfl k) ?_
            refine oI2 X91 hx (hb hby at_271) (pc' := 273) rfl rfl ?_
            refine oI2 X91 hx (hb hby at_273) (pc' := 275) rfl rfl ?_
            refine oN X91 hx (hb hby at_275) (pc' := 278) rfl (tlt (by decide : (2 : Int32) < (3 : Int32))).2.1 ?_
            refine oA2 X91 hx (hb hby at_278) (pc' := 280) rfl rfl rfl ?_
            refine oI2 X91 hx (hb hby at_280) (pc' := 282) rfl rfl ?_
            refine own_pre (T' := T91) (f' := (mkF m 283 #[iv p1, iv p2, iv p3, iv p4, iv p5, iv p6, iv P1, iv P2, iv P3, iv (1 : Int32), iv (3 : Int32), iv q, rv b1, rv b5, rv o, iv (1 : Int32), iv (1 : Int32), iv (1 : Int32), iv (2 : Int32), .unset, .unset, .unset, .unset, .unset] [(.int P3)])) (fun t k => own_ldI X91 hx hZ e91 (V4.ext EX91_h4) (by decide) rfl (g := (mkF m 282 #[iv p1, iv p2, iv p3, iv p4, iv p5, iv p6, iv P1, iv P2, iv P3, iv (1 : Int32), iv (3 : Int32), iv q, rv b1, rv b5, rv o, iv (1 : Int32), iv (1 : Int32), iv (1 : Int32), iv (2 : Int32), .unset, .unset, .unset, .unset, .unset] [(.int (2 : Int32)), (.ref b1)])) rfl rfl (hb hby at_282) t k) ?_
            refine oI2 X91 hx (hb hby at_283) (pc' := 285) rfl rfl ?_
            by_cases hc96 : P3 = q
            · refine oN X91 hx (hb hby at_285) (pc' := 288) rfl (teq hc96).2 ?_
              refine oA2 X91 hx (hb hby at_288) (pc' := 290) rfl rfl rfl ?_
              refine oI2 X91 hx (hb hby at_290) (pc' := 292) rfl rfl ?_
              refine own_pre (T' := T91) (f' := (mkF m 293 #[iv p1, iv p2, iv p3, iv p4, iv p5, iv p6, iv P1, iv P2, iv P3, iv (1 : Int32), iv (3 : Int32), iv q, rv b1, rv b5, rv o, iv (1 : Int32), iv (1 : Int32), iv (1 : Int32), iv (2 : Int32), .unset, .unset, .unset, .unset, .unset] [(.int p5)])) (fun t k => own_ldI X91 hx hZ e91 (V8.ext EX91_h8) (by decide) rfl (g := (mkF m 292 #[iv p1, iv p2, iv p3, iv p4, iv p5, iv p6, iv P1, iv P2, iv P3, iv (1 : Int32), iv (3 : Int32), iv q, rv b1, rv b5, rv o, iv (1 : Int32), iv (1 : Int32), iv (1 : Int32), iv (2 : Int32), .unset, .unset, .unset, .unset, .unset] [(.int (2 : Int32)), (.ref b5)])) rfl rfl (hb hby at_292) t k) ?_
              refine own_pre (T' := T91) (f' := (mkF m 295 #[iv p1, iv p2, iv p3, iv p4, iv p5, iv p6, iv P1, iv P2, iv P3, iv (1 : Int32), iv (3 : Int32), iv q, rv b1, rv b5, rv o, iv (1 : Int32), iv (1 : Int32), iv (1 : Int32), iv (2 : Int32), iv p5, .unset, .unset, .unset, .unset] [])) (fun t k => XS.istore X91.here hx rfl (hb hby at_293) rfl (l' := #[iv p1, iv p2, iv p3, iv p4, iv p5, iv p6, iv P1, iv P2, iv P3, iv (1 : Int32), iv (3 : Int32), iv q, rv b1, rv b5, rv o, iv (1 : Int32), iv (1 : Int32), iv (1 : Int32), iv (2 : Int32), iv p5, .unset, .unset, .unset, .unset]) rfl k) ?_
              refine oI2 X91 hx (hb hby at_295) (pc' := 297) rfl rfl ?_
              refine oC X91 hx (1 : Int32) (hb hby at_297) (pc' := 298) rfl rfl ?_
              refine own_pre (T' := T91) (f' := (mkF m 299 #[iv p1, iv p2, iv p3, iv p4, iv p5, iv p6, iv P1, iv P2, iv P3, iv (1 : Int32), iv (3 : Int32), iv q, rv b1, rv b5, rv o, iv (1 : Int32), iv (1 : Int32), iv (1 : Int32), iv (2 : Int32), iv p5, .unset, .unset, .unset, .unset] [(.int ((2 : Int32) + (1 : Int32)))])) (fun t k => XS.iadd X91.here hx rfl (hb hby at_298) rfl k) ?_
              rw [show ((2 : Int32) + (1 : Int32)) = (3 : Int32) from by decide]
              refine own_pre (T' := T91) (f' := (mkF m 301 #[iv p1, iv p2, iv p3, iv p4, iv p5, iv p6, iv P1, iv P2, iv P3, iv (1 : Int32), iv (3 : Int32), iv q, rv b1, rv b5, rv o, iv (1 : Int32), iv (1 : Int32), iv (1 : Int32), iv (2 : Int32), iv p5, iv (3 : Int32), .unset, .unset, .unset] [])) (fun t k => XS.istore X91.here hx rfl (hb hby at_299) rfl (l' := #[iv p1, iv p2, iv p3, iv p4, iv p5, iv p6, iv P1, iv P2, iv P3, iv (1 : Int32), iv (3 : Int32), iv q, rv b1, rv b5, rv o, iv (1 : Int32), iv (1 : Int32), iv (1 : Int32), iv (2 : Int32), iv p5, iv (3 : Int32), .unset, .unset, .unset]) rfl k) ?_
              refine oG X91 hx (hb hby at_301) (pc' := 311) (by decide) (by decide) ?_
              refine oA2 X91 hx (hb hby at_311) (pc' := 313) rfl rfl rfl ?_
              refine oI2 X91 hx (hb hby at_313) (pc' := 315) rfl rfl ?_
              obtain ⟨T97, L97, v97, Y97a, ⟨rfl, N97, B97⟩, st97⟩ := own_callV X91 hx hZ e91 (y := (⟨"com/example/orthonorm/orthonorm/sanskrit/Anchors", "takeAt", "(I)I"⟩ : MethodName)) hown (hw _ (List.mem_of_getElem? (i := 17) rfl)) (hw _ (List.mem_of_getElem? (i := 18) rfl)) (hw _ (List.mem_of_getElem? (i := 20) rfl)) (hw _ (List.mem_of_getElem? (i := 19) rfl)) (hw _ (List.mem_of_getElem? (i := 21) rfl)) (hw _ (List.mem_of_getElem? (i := 4) rfl)) (by decide) 0 [(.int q)] [] (own_at_3_1_2_1 l Z a0 hw [] w_NO_ANCHORS k_NO_ANCHORS h91 (own_F_ext F0 EX91_h0) h8 Fb o P O kP kO P1 P2 P3 (0 : Int32) (0 : Int32) (0 : Int32) (0 : Int32) (0 : Int32) p3 p4 p5 (0 : Int32) (0 : Int32) (0 : Int32) (0 : Int32) (0 : Int32) B91 q hc92 hc93 hc96) (by decide) (by decide) (by decide) (by decide) (own_Ob_E B91.1) (g := (mkF m 315 #[iv p1, iv p2, iv p3, iv p4, iv p5, iv p6, iv P1, iv P2, iv P3, iv (1 : Int32), iv (3 : Int32), iv q, rv b1, rv b5, rv o, iv (1 : Int32), iv (1 : Int32), iv (1 : Int32), iv (2 : Int32), iv p5, iv (3 : Int32), .unset, .unset, .unset] [(.int q), (.ref o)])) rfl (by rw [hml]; rfl) (lenOf pd_3 rfl) rfl (by show 2 * 0 + _ ≤ _; exact Nat.le_of_eq rfl) (hb hby at_315)
              have X97 := Y97a.forget (fun y hy => Nat.le_trans hsz (N97 y hy))
              obtain ⟨h97, e97⟩ : ∃ y, T97.heap = y := ⟨_, rfl⟩
              rw [e97] at B97
              have EX97_h0 : Ext h0 h97 := own_extE EX8_h0 (own_Ob_X B97.1)
              have EX97_h4 : Ext h4 h97 := own_extE EX8_h4 (own_Ob_X B97.1)
              have EX97_h8 : Ext h8 h97 := own_Ob_X B97.1
              refine own_pre (T' := T97) (f' := (mkF m 318 #[iv p1, iv p2, iv p3, iv p4, iv p5, iv p6, iv P1, iv P2, iv P3, iv (1 : Int32), iv (3 : Int32), iv q, rv b1, rv b5, rv o, iv (1 : Int32), iv (1 : Int32), iv (1 : Int32), iv (2 : Int32), iv p5, iv (3 : Int32), .unset, .unset, .unset] [(.int p5)])) (fun t k => st97 t k) ?_
              refine own_pre (T' := T97) (f' := (mkF m 320 #[iv p1, iv p2, iv p3, iv p4, iv p5, iv p6, iv P1, iv P2, iv P3, iv (1 : Int32), iv (3 : Int32), iv q, rv b1, rv b5, rv o, iv (1 : Int32), iv (1 : Int32), iv (1 : Int32), iv (2 : Int32), iv p5, iv (3 : Int32), iv p5, .unset, .unset] [])) (fun t k => XS.istore X97.here hx rfl (hb hby at_318) rfl (l' := #[iv p1, iv p2, iv p3, iv p4, iv p5, iv p6, iv P1, iv P2, iv P3, iv (1 : Int32), iv (3 : Int32), iv q, rv b1, rv b5, rv o, iv (1 : Int32), iv (1 : Int32), iv (1 : Int32), iv (2 : Int32), iv p5, iv (3 : Int32), iv p5, .unset, .unset]) rfl k) ?_
              refine oA2 X97 hx (hb hby at_320) (pc' := 322) rfl rfl rfl ?_
              obtain ⟨T98, X98, e98, st98⟩ := own_pure (f := 0) (n := 0) (v := (some (.int (2147483647 : Int32)))) (own_callV X97 hx hZ e97 (y := (⟨"com/example/orthonorm/orthonorm/sanskrit/Anchors", "nextPlace", "()I"⟩ : MethodName)) hown (hw _ (List.mem_of_getElem? (i := 26) rfl)) (hw _ (List.mem_of_getElem? (i := 27) rfl)) (hw _ (List.mem_of_getElem? (i := 29) rfl)) (hw _ (List.mem_of_getElem? (i := 28) rfl)) (hw _ (List.mem_of_getElem? (i := 30) rfl)) (hw _ (List.mem_of_getElem? (i := 4) rfl)) (by decide) 0 [] [] (own_next_3_3 l Z a0 hw [] w_NO_ANCHORS k_NO_ANCHORS h97 (own_F_ext F0 EX97_h0) h8 Fb o P O kP kO P1 P2 P3 (0 : Int32) (0 : Int32) (0 : Int32) (0 : Int32) (0 : Int32) p3 p4 p5 (0 : Int32) (0 : Int32) (0 : Int32) (0 : Int32) (0 : Int32) B97) (by decide) (by decide) (by decide) (by decide) (own_Ob_E B97.1) (g := (mkF m 322 #[iv p1, iv p2, iv p3, iv p4, iv p5, iv p6, iv P1, iv P2, iv P3, iv (1 : Int32), iv (3 : Int32), iv q, rv b1, rv b5, rv o, iv (1 : Int32), iv (1 : Int32), iv (1 : Int32), iv (2 : Int32), iv p5, iv (3 : Int32), iv p5, .unset, .unset] [(.ref o)])) rfl (by rw [hml]; rfl) (lenOf pd_4 rfl) rfl (by show 2 * 0 + _ ≤ _; exact Nat.le_of_eq rfl) (hb hby at_322))
              refine own_pre (T' := T98) (f' := (mkF m 325 #[iv p1, iv p2, iv p3, iv p4, iv p5, iv p6, iv P1, iv P2, iv P3, iv (1 : Int32), iv (3 : Int32), iv q, rv b1, rv b5, rv o, iv (1 : Int32), iv (1 : Int32), iv (1 : Int32), iv (2 : Int32), iv p5, iv (3 : Int32), iv p5, .unset, .unset] [(.int (2147483647 : Int32))])) (fun t k => st98 t k) ?_
              refine own_pre (T' := T98) (f' := (mkF m 327 #[iv p1, iv p2, iv p3, iv p4, iv p5, iv p6, iv P1, iv P2, iv P3, iv (1 : Int32), iv (3 : Int32), iv q, rv b1, rv b5, rv o, iv (1 : Int32), iv (1 : Int32), iv (1 : Int32), iv (2 : Int32), iv p5, iv (3 : Int32), iv p5, iv (2147483647 : Int32), .unset] [])) (fun t k => XS.istore X98.here hx rfl (hb hby at_325) rfl (l' := #[iv p1, iv p2, iv p3, iv p4, iv p5, iv p6, iv P1, iv P2, iv P3, iv (1 : Int32), iv (3 : Int32), iv q, rv b1, rv b5, rv o, iv (1 : Int32), iv (1 : Int32), iv (1 : Int32), iv (2 : Int32), iv p5, iv (3 : Int32), iv p5, iv (2147483647 : Int32), .unset]) rfl k) ?_
              refine oI2 X98 hx (hb hby at_327) (pc' := 329) rfl rfl ?_
              refine oI2 X98 hx (hb hby at_329) (pc' := 331) rfl rfl ?_
              refine oY X98 hx (hb hby at_331) (pc' := 342) (flt (by decide : ¬ ((3 : Int32) < (3 : Int32)))).2.1 (by decide) (by decide) ?_
              refine own_pre (T' := T98) (f' := (mkF m 344 #[iv p1, iv p2, iv p3, iv p4, iv p5, iv p6, iv P1, iv P2, iv P3, iv (1 : Int32), iv (3 : Int32), iv q, rv b1, rv b5, rv o, iv (1 : Int32), iv (1 : Int32), iv (1 : Int32), iv (2 : Int32), iv p5, iv (3 : Int32), iv p5, iv (2147483647 : Int32), .unset] [(.int (2147483647 : Int32))])) (fun t k => X98.ldcInt hx hown (mvT hZ (hw _ (List.mem_of_getElem? (i := 32) rfl))) (g := (mkF m 342 #[iv p1, iv p2, iv p3, iv p4, iv p5, iv p6, iv P1, iv P2, iv P3, iv (1 : Int32), iv (3 : Int32), iv q, rv b1, rv b5, rv o, iv (1 : Int32), iv (1 : Int32), iv (1 : Int32), iv (2 : Int32), iv p5, iv (3 : Int32), iv p5, iv (2147483647 : Int32), .unset] [])) rfl (hb hby at_342) t k) ?_
              refine own_pre (T' := T98) (f' := (mkF m 346 #[iv p1, iv p2, iv p3, iv p4, iv p5, iv p6, iv P1, iv P2, iv P3, iv (1 : Int32), iv (3 : Int32), iv q, rv b1, rv b5, rv o, iv (1 : Int32), iv (1 : Int32), iv (1 : Int32), iv (2 : Int32), iv p5, iv (3 : Int32), iv p5, iv (2147483647 : Int32), iv (2147483647 : Int32)] [])) (fun t k => XS.istore X98.here hx rfl (hb hby at_344) rfl (l' := #[iv p1, iv p2, iv p3, iv p4, iv p5, iv p6, iv P1, iv P2, iv P3, iv (1 : Int32), iv (3 : Int32), iv q, rv b1, rv b5, rv o, iv (1 : Int32), iv (1 : Int32), iv (1 : Int32), iv (2 : Int32), iv p5, iv (3 : Int32), iv p5, iv (2147483647 : Int32), iv (2147483647 : Int32)]) rfl k) ?_
              refine oI2 X98 hx (hb hby at_346) (pc' := 348) rfl rfl ?_
              refine oN0 X98 hx (hb hby at_348) (pc' := 351) rfl ((if0 _ _).trans (feq (by decide : ¬ ((1 : Int32) = (0 : Int32)))).1) ?_
              refine oI2 X98 hx (hb hby at_351) (pc' := 353) rfl rfl ?_
              refine oI2 X98 hx (hb hby at_353) (pc' := 355) rfl rfl ?_
              refine oN X98 hx (hb hby at_355) (pc' := 358) rfl (teq (rfl : p5 = p5)).2 ?_
              refine oI2 X98 hx (hb hby at_358) (pc' := 360) rfl rfl ?_
              refine oI2 X98 hx (hb hby at_360) (pc' := 362) rfl rfl ?_
              refine oN X98 hx (hb hby at_362) (pc' := 365) rfl (teq (by decide : (2147483647 : Int32) = (2147483647 : Int32))).2 ?_
              refine oC X98 hx (1 : Int32) (hb hby at_365) (pc' := 366) rfl rfl ?_
              refine oG X98 hx (hb hby at_366) (pc' := 370) (by decide) (by decide) ?_
              refine own_pre (T' := T98) (f' := (mkF m 372 #[iv p1, iv p2, iv p3, iv p4, iv p5, iv p6, iv P1, iv P2, iv P3, iv (1 : Int32), iv (3 : Int32), iv q, rv b1, rv b5, rv o, iv (1 : Int32), iv (1 : Int32), iv (1 : Int32), iv (2 : Int32), iv p5, iv (3 : Int32), iv p5, iv (2147483647 : Int32), iv (2147483647 : Int32)] [])) (fun t k => XS.istore X98.here hx rfl (hb hby at_370) rfl (l' := #[iv p1, iv p2, iv p3, iv p4, iv p5, iv p6, iv P1, iv P2, iv P3, iv (1 : Int32), iv (3 : Int32), iv q, rv b1, rv b5, rv o, iv (1 : Int32), iv (1 : Int32), iv (1 : Int32), iv (2 : Int32), iv p5, iv (3 : Int32), iv p5, iv (2147483647 : Int32), iv (2147483647 : Int32)]) rfl k) ?_
              refine oI2 X98 hx (hb hby at_372) (pc' := 374) rfl rfl ?_
              refine oI2 X98 hx (hb hby at_374) (pc' := 376) rfl rfl ?_
              refine oY X98 hx (hb hby at_376) (pc' := 404) (flt (by decide : ¬ ((3 : Int32) < (3 : Int32)))).2.1 (by decide) (by decide) ?_
              refine oI2 X98 hx (hb hby at_404) (pc' := 406) rfl rfl ?_
              exact own_retZ X98 hx hlk hret (hb hby at_406) rfl (⟨rfl, Fr.nil _⟩) (by decide) (by decide)
            · refine oY X91 hx (hb hby at_285) (pc' := 304) (feq hc96).2 (by decide) (by decide) ?_
              refine oC X91 hx (-1 : Int32) (hb hby at_304) (pc' := 305) rfl rfl ?_
              refine own_pre (T' := T91) (f' := (mkF m 307 #[iv p1, iv p2, iv p3, iv p4, iv p5, iv p6, iv P1, iv P2, iv P3, iv (1 : Int32), iv (3 : Int32), iv q, rv b1, rv b5, rv o, iv (1 : Int32), iv (1 : Int32), iv (1 : Int32), iv (2 : Int32), iv (-1 : Int32), .unset, .unset, .unset, .unset] [])) (fun t k => XS.istore X91.here hx rfl (hb hby at_305) rfl (l' := #[iv p1, iv p2, iv p3, iv p4, iv p5, iv p6, iv P1, iv P2, iv P3, iv (1 : Int32), iv (3 : Int32), iv q, rv b1, rv b5, rv o, iv (1 : Int32), iv (1 : Int32), iv (1 : Int32), iv (2 : Int32), iv (-1 : Int32), .unset, .unset, .unset, .unset]) rfl k) ?_
              refine oI2 X91 hx (hb hby at_307) (pc' := 309) rfl rfl ?_
              refine own_pre (T' := T91) (f' := (mkF m 311 #[iv p1, iv p2, iv p3, iv p4, iv p5, iv p6, iv P1, iv P2, iv P3, iv (1 : Int32), iv (3 : Int32), iv q, rv b1, rv b5, rv o, iv (1 : Int32), iv (1 : Int32), iv (1 : Int32), iv (2 : Int32), iv (-1 : Int32), iv (2 : Int32), .unset, .unset, .unset] [])) (fun t k => XS.istore X91.here hx rfl (hb hby at_309) rfl (l' := #[iv p1, iv p2, iv p3, iv p4, iv p5, iv p6, iv P1, iv P2, iv P3, iv (1 : Int32), iv (3 : Int32), iv q, rv b1, rv b5, rv o, iv (1 : Int32), iv (1 : Int32), iv (1 : Int32), iv (2 : Int32), iv (-1 : Int32), iv (2 : Int32), .unset, .unset, .unset]) rfl k) ?_
              refine oA2 X91 hx (hb hby at_311) (pc' := 313) rfl rfl rfl ?_
              refine oI2 X91 hx (hb hby at_313) (pc' := 315) rfl rfl ?_
              obtain ⟨T99, L99, v99, Y99a, ⟨rfl, N99, B99⟩, st99⟩ := own_callV X91 hx hZ e91 (y := (⟨"com/example/orthonorm/orthonorm/sanskrit/Anchors", "takeAt", "(I)I"⟩ : MethodName)) hown (hw _ (List.mem_of_getElem? (i := 17) rfl)) (hw _ (List.mem_of_getElem? (i := 18) rfl)) (hw _ (List.mem_of_getElem? (i := 20) rfl)) (hw _ (List.mem_of_getElem? (i := 19) rfl)) (hw _ (List.mem_of_getElem? (i := 21) rfl)) (hw _ (List.mem_of_getElem? (i := 4) rfl)) (by decide) 0 [(.int q)] [] (own_at_3_1_2_0 l Z a0 hw [] w_NO_ANCHORS k_NO_ANCHORS h91 (own_F_ext F0 EX91_h0) h8 Fb o P O kP kO P1 P2 P3 (0 : Int32) (0 : Int32) (0 : Int32) (0 : Int32) (0 : Int32) p3 p4 p5 (0 : Int32) (0 : Int32) (0 : Int32) (0 : Int32) (0 : Int32) B91 q hc92 hc93 hc96) (by decide) (by decide) (by decide) (by decide) (own_Ob_E B91.1) (g := (mkF m 315 #[iv p1, iv p2, iv p3, iv p4, iv p5, iv p6, iv P1, iv P2, iv P3, iv (1 : Int32), iv (3 : Int32), iv q, rv b1, rv b5, rv o, iv (1 : Int32), iv (1 : Int32), iv (1 : Int32), iv (2 : Int32), iv (-1 : Int32), iv (2 : Int32), .unset, .unset, .unset] [(.int q), (.ref o)])) rfl (by rw [hml]; rfl) (lenOf pd_3 rfl) rfl (by show 2 * 0 + _ ≤ _; exact Nat.le_of_eq rfl) (hb hby at_315)
              have X99 := Y99a.forget (fun y hy => Nat.le_trans hsz (N99 y hy))
              obtain ⟨h99, e99⟩ : ∃ y, T99.heap = y := ⟨_, rfl⟩
              rw [e99] at B99
              have EX99_h0 : Ext h0 h99 := own_extE EX8_h0 (own_Ob_X B99.1)
              have EX99_h4 : Ext h4 h99 := own_extE EX8_h4 (own_Ob_X B99.1)
              have EX99_h8 : Ext h8 h99 := own_Ob_X B99.1
              refine own_pre (T' := T99) (f' := (mkF m 318 #[iv p1, iv p2, iv p3, iv p4, iv p5, iv p6, iv P1, iv P2, iv P3, iv (1 : Int32), iv (3 : Int32), iv q, rv b1, rv b5, rv o, iv (1 : Int32), iv (1 : Int32), iv (1 : Int32), iv (2 : Int32), iv (-1 : Int32), iv (2 : Int32), .unset, .unset, .unset] [(.int (-1 : Int32))])) (fun t k => st99 t k) ?_
              refine own_pre (T' := T99) (f' := (mkF m 320 #[iv p1, iv p2, iv p3, iv p4, iv p5, iv p6, iv P1, iv P2, iv P3, iv (1 : Int32), iv (3 : Int32), iv q, rv b1, rv b5, rv o, iv (1 : Int32), iv (1 : Int32), iv (1 : Int32), iv (2 : Int32), iv (-1 : Int32), iv (2 : Int32), iv (-1 : Int32), .unset, .unset] [])) (fun t k => XS.istore X99.here hx rfl (hb hby at_318) rfl (l' := #[iv p1, iv p2, iv p3, iv p4, iv p5, iv p6, iv P1, iv P2, iv P3, iv (1 : Int32), iv (3 : Int32), iv q, rv b1, rv b5, rv o, iv (1 : Int32), iv (1 : Int32), iv (1 : Int32), iv (2 : Int32), iv (-1 : Int32), iv (2 : Int32), iv (-1 : Int32), .unset, .unset]) rfl k) ?_
              refine oA2 X99 hx (hb hby at_320) (pc' := 322) rfl rfl rfl ?_
              obtain ⟨T100, X100, e100, st100⟩ := own_pure (f := 0) (n := 0) (v := (some (.int P3))) (own_callV X99 hx hZ e99 (y := (⟨"com/example/orthonorm/orthonorm/sanskrit/Anchors", "nextPlace", "()I"⟩ : MethodName)) hown (hw _ (List.mem_of_getElem? (i := 26) rfl)) (hw _ (List.mem_of_getElem? (i := 27) rfl)) (hw _ (List.mem_of_getElem? (i := 29) rfl)) (hw _ (List.mem_of_getElem? (i := 28) rfl)) (hw _ (List.mem_of_getElem? (i := 30) rfl)) (hw _ (List.mem_of_getElem? (i := 4) rfl)) (by decide) 0 [] [] (own_next_3_2 l Z a0 hw [] w_NO_ANCHORS k_NO_ANCHORS h99 (own_F_ext F0 EX99_h0) h8 Fb o P O kP kO P1 P2 P3 (0 : Int32) (0 : Int32) (0 : Int32) (0 : Int32) (0 : Int32) p3 p4 p5 (0 : Int32) (0 : Int32) (0 : Int32) (0 : Int32) (0 : Int32) B99) (by decide) (by decide) (by decide) (by decide) (own_Ob_E B99.1) (g := (mkF m 322 #[iv p1, iv p2, iv p3, iv p4, iv p5, iv p6, iv P1, iv P2, iv P3, iv (1 : Int32), iv (3 : Int32), iv q, rv b1, rv b5, rv o, iv (1 : Int32), iv (1 : Int32), iv (1 : Int32), iv (2 : Int32), iv (-1 : Int32), iv (2 : Int32), iv (-1 : Int32), .unset, .unset] [(.ref o)])) rfl (by rw [hml]; rfl) (lenOf pd_4 rfl) rfl (by show 2 * 0 + _ ≤ _; exact Nat.le_of_eq rfl) (hb hby at_322))
              refine own_pre (T' := T100) (f' := (mkF m 325 #[iv p1, iv p2, iv p3, iv p4, iv p5, iv p6, iv P1, iv P2, iv P3, iv (1 : Int32), iv (3 : Int32), iv q, rv b1, rv b5, rv o, iv (1 : Int32), iv (1 : Int32), iv (1 : Int32), iv (2 : Int32), iv (-1 : Int32), iv (2 : Int32), iv (-1 : Int32), .unset, .unset] [(.int P3)])) (fun t k => st100 t k) ?_
              refine own_pre (T' := T100) (f' := (mkF m 327 #[iv p1, iv p2, iv p3, iv p4, iv p5, iv p6, iv P1, iv P2, iv P3, iv (1 : Int32), iv (3 : Int32), iv q, rv b1, rv b5, rv o, iv (1 : Int32), iv (1 : Int32), iv (1 : Int32), iv (2 : Int32), iv (-1 : Int32), iv (2 : Int32), iv (-1 : Int32), iv P3, .unset] [])) (fun t k => XS.istore X100.here hx rfl (hb hby at_325) rfl (l' := #[iv p1, iv p2, iv p3, iv p4, iv p5, iv p6, iv P1, iv P2, iv P3, iv (1 : Int32), iv (3 : Int32), iv q, rv b1, rv b5, rv o, iv (1 : Int32), iv (1 : Int32), iv (1 : Int32), iv (2 : Int32), iv (-1 : Int32), iv (2 : Int32), iv (-1 : Int32), iv P3, .unset]) rfl k) ?_
              refine oI2 X100 hx (hb hby at_327) (pc' := 329) rfl rfl ?_
              refine oI2 X100 hx (hb hby at_329) (pc' := 331) rfl rfl ?_
              refine oN X100 hx (hb hby at_331) (pc' := 334) rfl (tlt (by decide : (2 : Int32) < (3 : Int32))).2.1 ?_
              refine oA2 X100 hx (hb hby at_334) (pc' := 336) rfl rfl rfl ?_
              refine oI2 X100 hx (hb hby at_336) (pc' := 338) rfl rfl ?_
              refine own_pre (T' := T100) (f' := (mkF m 339 #[iv p1, iv p2, iv p3, iv p4, iv p5, iv p6, iv P1, iv P2, iv P3, iv (1 : Int32), iv (3 : Int32), iv q, rv b1, rv b5, rv o, iv (1 : Int32), iv (1 : Int32), iv (1 : Int32), iv (2 : Int32), iv (-1 : Int32), iv (2 : Int32), iv (-1 : Int32), iv P3, .unset] [(.int P3)])) (fun t k => own_ldI X100 hx hZ e100 (V4.ext EX99_h4) (by decide) rfl (g := (mkF m 338 #[iv p1, iv p2, iv p3, iv p4, iv p5, iv p6, iv P1, iv P2, iv P3, iv (1 : Int32), iv (3 : Int32), iv q, rv b1, rv b5, rv o, iv (1 : Int32), iv (1 : Int32), iv (1 : Int32), iv (2 : Int32), iv (-1 : Int32), iv (2 : Int32), iv (-1 : Int32), iv P3, .unset] [(.int (2 : Int32)), (.ref b1)])) rfl rfl (hb hby at_338) t k) ?_
              refine oG X100 hx (hb hby at_339) (pc' := 344) (by decide) (by decide) ?_
              refine own_pre (T' := T100) (f' := (mkF m 346 #[iv p1, iv p2, iv p3, iv p4, iv p5, iv p6, iv P1, iv P2, iv P3, iv (1 : Int32), iv (3 : Int32), iv q, rv b1, rv b5, rv o, iv (1 : Int32), iv (1 : Int32), iv (1 : Int32), iv (2 : Int32), iv (-1 : Int32), iv (2 : Int32), iv (-1 : Int32), iv P3, iv P3] [])) (fun t k => XS.istore X100.here hx rfl (hb hby at_344) rfl (l' := #[iv p1, iv p2, iv p3, iv p4, iv p5, iv p6, iv P1, iv P2, iv P3, iv (1 : Int32), iv (3 : Int32), iv q, rv b1, rv b5, rv o, iv (1 : Int32), iv (1 : Int32), iv (1 : Int32), iv (2 : Int32), iv (-1 : Int32), iv (2 : Int32), iv (-1 : Int32), iv P3, iv P3]) rfl k) ?_
              refine oI2 X100 hx (hb hby at_346) (pc' := 348) rfl rfl ?_
              refine oN0 X100 hx (hb hby at_348) (pc' := 351) rfl ((if0 _ _).trans (feq (by decide : ¬ ((1 : Int32) = (0 : Int32)))).1) ?_
              refine oI2 X100 hx (hb hby at_351) (pc' := 353) rfl rfl ?_
              refine oI2 X100 hx (hb hby at_353) (pc' := 355) rfl rfl ?_
              refine oN X100 hx (hb hby at_355) (pc' := 358) rfl (teq (by decide : (-1 : Int32) = (-1 : Int32))).2 ?_
              refine oI2 X100 hx (hb hby at_358) (pc' := 360) rfl rfl ?_
              refine oI2 X100 hx (hb hby at_360) (pc' := 362) rfl rfl ?_
              refine oN X100 hx (hb hby at_362) (pc' := 365) rfl (teq (rfl : P3 = P3)).2 ?_
              refine oC X100 hx (1 : Int32) (hb hby at_365) (pc' := 366) rfl rfl ?_
              refine oG X100 hx (hb hby at_366) (pc' := 370) (by decide) (by decide) ?_
              refine own_pre (T' := T100) (f' := (mkF m 372 #[iv p1, iv p2, iv p3, iv p4, iv p5, iv p6, iv P1, iv P2, iv P3, iv (1 : Int32), iv (3 : Int32), iv q, rv b1, rv b5, rv o, iv (1 : Int32), iv (1 : Int32), iv (1 : Int32), iv (2 : Int32), iv (-1 : Int32), iv (2 : Int32), iv (-1 : Int32), iv P3, iv P3] [])) (fun t k => XS.istore X100.here hx rfl (hb hby at_370) rfl (l' := #[iv p1, iv p2, iv p3, iv p4, iv p5, iv p6, iv P1, iv P2, iv P3, iv (1 : Int32), iv (3 : Int32), iv q, rv b1, rv b5, rv o, iv (1 : Int32), iv (1 : Int32), iv (1 : Int32), iv (2 : Int32), iv (-1 : Int32), iv (2 : Int32), iv (-1 : Int32), iv P3, iv P3]) rfl k) ?_
              refine oI2 X100 hx (hb hby at_372) (pc' := 374) rfl rfl ?_
              refine oI2 X100 hx (hb hby at_374) (pc' := 376) rfl rfl ?_
              refine oN X100 hx (hb hby at_376) (pc' := 379) rfl (tlt (by decide : (2 : Int32) < (3 : Int32))).2.1 ?_
              refine oI2 X100 hx (hb hby at_379) (pc' := 381) rfl rfl ?_
              refine oN0 X100 hx (hb hby at_381) (pc' := 384) rfl ((if0 _ _).trans (feq (by decide : ¬ ((1 : Int32) = (0 : Int32)))).1) ?_
              refine oA2 X100 hx (hb hby at_384) (pc' := 386) rfl rfl rfl ?_
              obtain ⟨T101, L101, v101, Y101a, ⟨rfl, N101, B101⟩, st101⟩ := own_callV X100 hx hZ e100 (y := (⟨"com/example/orthonorm/orthonorm/sanskrit/Anchors", "take", "()I"⟩ : MethodName)) hown (hw _ (List.mem_of_getElem? (i := 53) rfl)) (hw _ (List.mem_of_getElem? (i := 54) rfl)) (hw _ (List.mem_of_getElem? (i := 56) rfl)) (hw _ (List.mem_of_getElem? (i := 55) rfl)) (hw _ (List.mem_of_getElem? (i := 57) rfl)) (hw _ (List.mem_of_getElem? (i := 4) rfl)) (by decide) 0 [] [] (own_take_2 l Z a0 hw [] w_NO_ANCHORS k_NO_ANCHORS h99 (own_F_ext F0 EX99_h0) h8 Fb o P O kP kO P1 P2 P3 (0 : Int32) (0 : Int32) (0 : Int32) (0 : Int32) (0 : Int32) p3 p4 p5 (0 : Int32) (0 : Int32) (0 : Int32) (0 : Int32) (0 : Int32) (3 : Int32) B99) (by decide) (by decide) (by decide) (by decide) (own_Ob_E B99.1) (g := (mkF m 386 #[iv p1, iv p2, iv p3, iv p4, iv p5, iv p6, iv P1, iv P2, iv P3, iv (1 : Int32), iv (3 : Int32), iv q, rv b1, rv b5, rv o, iv (1 : Int32), iv (1 : Int32), iv (1 : Int32), iv (2 : Int32), iv (-1 : Int32), iv (2 : Int32), iv (-1 : Int32), iv P3, iv P3] [(.ref o)])) rfl (by rw [hml]; rfl) (lenOf pd_4 rfl) rfl (by show 2 * 0 + _ ≤ _; exact Nat.le_of_eq rfl) (hb hby at_386)
              have X101 := Y101a.forget (fun y hy => Nat.le_trans hsz (N101 y hy))
              obtain ⟨h101, e101⟩ : ∃ y, T101.heap = y := ⟨_, rfl⟩
              rw [e101] at B101
              have EX101_h0 : Ext h0 h101 := own_extE EX8_h0 (own_Ob_X B101.1)
              have EX101_h4 : Ext h4 h101 := own_extE EX8_h4 (own_Ob_X B101.1)
              have EX101_h8 : Ext h8 h101 := own_Ob_X B101.1
              refine own_pre (T' := T101) (f' := (mkF m 389 #[iv p1, iv p2, iv p3, iv p4, iv p5, iv p6, iv P1, iv P2, iv P3, iv (1 : Int32), iv (3 : Int32), iv q, rv b1, rv b5, rv o, iv (1 : Int32), iv (1 : Int32), iv (1 : Int32), iv (2 : Int32), iv (-1 : Int32), iv (2 : Int32), iv (-1 : Int32), iv P3, iv P3] [(.int p5)])) (fun t k => st101 t k) ?_
              refine oA2 X101 hx (hb hby at_389) (pc' := 391) rfl rfl rfl ?_
              refine oI2 X101 hx (hb hby at_391) (pc' := 393) rfl rfl ?_
              refine own_pre (T' := T101) (f' := (mkF m 394 #[iv p1, iv p2, iv p3, iv p4, iv p5, iv p6, iv P1, iv P2, iv P3, iv (1 : Int32), iv (3 : Int32), iv q, rv b1, rv b5, rv o, iv (1 : Int32), iv (1 : Int32), iv (1 : Int32), iv (2 : Int32), iv (-1 : Int32), iv (2 : Int32), iv (-1 : Int32), iv P3, iv P3] [(.int p5), (.int p5)])) (fun t k => own_ldI X101 hx hZ e101 (V8.ext EX101_h8) (by decide) rfl (g := (mkF m 393 #[iv p1, iv p2, iv p3, iv p4, iv p5, iv p6, iv P1, iv P2, iv P3, iv (1 : Int32), iv (3 : Int32), iv q, rv b1, rv b5, rv o, iv (1 : Int32), iv (1 : Int32), iv (1 : Int32), iv (2 : Int32), iv (-1 : Int32), iv (2 : Int32), iv (-1 : Int32), iv P3, iv P3] [(.int (2 : Int32)), (.ref b5), (.int p5)])) rfl rfl (hb hby at_393) t k) ?_
              refine oN X101 hx (hb hby at_394) (pc' := 397) rfl (teq (rfl : p5 = p5)).2 ?_
              refine oC X101 hx (1 : Int32) (hb hby at_397) (pc' := 398) rfl rfl ?_
              refine oG X101 hx (hb hby at_398) (pc' := 402) (by decide) (by decide) ?_
              refine own_pre (T' := T101) (f' := (mkF m 404 #[iv p1, iv p2, iv p3, iv p4, iv p5, iv p6, iv P1, iv P2, iv P3, iv (1 : Int32), iv (3 : Int32), iv q, rv b1, rv b5, rv o, iv (1 : Int32), iv (1 : Int32), iv (1 : Int32), iv (2 : Int32), iv (-1 : Int32), iv (2 : Int32), iv (-1 : Int32), iv P3, iv P3] [])) (fun t k => XS.istore X101.here hx rfl (hb hby at_402) rfl (l' := #[iv p1, iv p2, iv p3, iv p4, iv p5, iv p6, iv P1, iv P2, iv P3, iv (1 : Int32), iv (3 : Int32), iv q, rv b1, rv b5, rv o, iv (1 : Int32), iv (1 : Int32), iv (1 : Int32), iv (2 : Int32), iv (-1 : Int32), iv (2 : Int32), iv (-1 : Int32), iv P3, iv P3]) rfl k) ?_
              refine oI2 X101 hx (hb hby at_404) (pc' := 406) rfl rfl ?_
              exact own_retZ X101 hx hlk hret (hb hby at_406) rfl (⟨rfl, Fr.nil _⟩) (by decide) (by decide)
        · refine oY X91 hx (hb hby at_242) (pc' := 248) (flt hc92).2.1 (by decide) (by decide) ?_
          refine oC X91 hx (2 : Int32) (hb hby at_248) (pc' := 249) rfl rfl ?_
          refine oI2 X91 hx (hb hby at_249) (pc' := 251) rfl rfl ?_
          refine oN X91 hx (hb hby at_251) (pc' := 254) rfl (tlt (by decide : (2 : Int32) < (3 : Int32))).2.1 ?_
          refine oI2 X91 hx (hb hby at_254) (pc' := 256) rfl rfl ?_
          refine oI2 X91 hx (hb hby at_256) (pc' := 258) rfl rfl ?_
          refine oY X91 hx (hb hby at_258) (pc' := 264) (flt (own_nl hP23 hc92)).2.1 (by decide) (by decide) ?_
          refine oI2 X91 hx (hb hby at_264) (pc' := 266) rfl rfl ?_
          refine oI2 X91 hx (hb hby at_266) (pc' := 268) rfl rfl ?_
          refine own_pre (T' := T91) (f' := (mkF m 269 #[iv p1, iv p2, iv p3, iv p4, iv p5, iv p6, iv P1, iv P2, iv P3, iv (1 : Int32), iv (3 : Int32), iv q, rv b1, rv b5, rv o, iv (1 : Int32), iv (1 : Int32), iv (0 : Int32), .unset, .unset, .unset, .unset, .unset, .unset] [(.int ((1 : Int32) + (0 : Int32)))])) (fun t k => XS.iadd X91.here hx rfl (hb hby at_268) rfl k) ?_
          rw [show ((1 : Int32) + (0 : Int32)) = (1 : Int32) from by decide]
          refine own_pre (T' := T91) (f' := (mkF m 271 #[iv p1, iv p2, iv p3, iv p4, iv p5, iv p6, iv P1, iv P2, iv P3, iv (1 : Int32), iv (3 : Int32), iv q, rv b1, rv b5, rv o, iv (1 : Int32), iv (1 : Int32), iv (0 : Int32), iv (1 : Int32), .unset, .unset, .unset, .unset, .unset] [])) (fun t k => XS.istore X91.here hx rfl (hb hby at_269) rfl (l' := #[iv p1, iv p2, iv p3, iv p4, iv p5, iv p6, iv P1, iv P2, iv P3, iv (1 : Int32), iv (3 : Int32), iv q, rv b1, rv b5, rv o, iv (1 : Int32), iv (1 : Int32), iv (0 : Int32), iv (1 : Int32), .unset, .unset, .unset, .unset, .unset]) rfl k) ?_
          refine oI2 X91 hx (hb hby at_271) (pc' := 273) rfl rfl ?_
          refine oI2 X91 hx (hb hby at_273) (pc' := 275) rfl rfl ?_
          refine oN X91 hx (hb hby at_275) (pc' := 278) rfl (tlt (by decide : (1 : Int32) < (3 : Int32))).2.1 ?_
          refine oA2 X91 hx (hb hby at_278) (pc' := 280) rfl rfl rfl ?_
          refine oI2 X91 hx (hb hby at_280) (pc' := 282) rfl rfl ?_
          refine own_pre (T' := T91) (f' := (mkF m 283 #[iv p1, iv p2, iv p3, iv p4, iv p5, iv p6, iv P1, iv P2, iv P3, iv (1 : Int32), iv (3 : Int32), iv q, rv b1, rv b5, rv o, iv (1 : Int32), iv (1 : Int32), iv (0 : Int32), iv (1 : Int32), .unset, .unset, .unset, .unset, .unset] [(.int P2)])) (fun t k => own_ldI X91 hx hZ e91 (V4.ext EX91_h4) (by decide) rfl (g := (mkF m 282 #[iv p1, iv p2, iv p3, iv p4, iv p5, iv p6, iv P1, iv P2, iv P3, iv (1 : Int32), iv (3 : Int32), iv q, rv b1, rv b5, rv o, iv (1 : Int32), iv (1 : Int32), iv (0 : Int32), iv (1 : Int32), .unset, .unset, .unset, .unset, .unset] [(.int (1 : Int32)), (.ref b1)])) rfl rfl (hb hby at_282) t k) ?_
          refine oI2 X91 hx (hb hby at_283) (pc' := 285) rfl rfl ?_
          by_cases hc102 : P2 = q
          · refine oN X91 hx (hb hby at_285) (pc' := 288) rfl (teq hc102).2 ?_
            refine oA2 X91 hx (hb hby at_288) (pc' := 290) rfl rfl rfl ?_
            refine oI2 X91 hx (hb hby at_290) (pc' := 292) rfl rfl ?_
            refine own_pre (T' := T91) (f' := (mkF m 293 #[iv p1, iv p2, iv p3, iv p4, iv p5, iv p6, iv P1, iv P2, iv P3, iv (1 : Int32), iv (3 : Int32), iv q, rv b1, rv b5, rv o, iv (1 : Int32), iv (1 : Int32), iv (0 : Int32), iv (1 : Int32), .unset, .unset, .unset, .unset, .unset] [(.int p4)])) (fun t k => own_ldI X91 hx hZ e91 (V8.ext EX91_h8) (by decide) rfl (g := (mkF m 292 #[iv p1, iv p2, iv p3, iv p4, iv p5, iv p6, iv P1, iv P2, iv P3, iv (1 : Int32), iv (3 : Int32), iv q, rv b1, rv b5, rv o, iv (1 : Int32), iv (1 : Int32), iv (0 : Int32), iv (1 : Int32), .unset, .unset, .unset, .unset, .unset] [(.int (1 : Int32)), (.ref b5)])) rfl rfl (hb hby at_292) t k) ?_
            refine own_pre (T' := T91) (f' := (mkF m 295 #[iv p1, iv p2, iv p3, iv p4, iv p5, iv p6, iv P1, iv P2, iv P3, iv (1 : Int32), iv (3 : Int32), iv q, rv b1, rv b5, rv o, iv (1 : Int32), iv (1 : Int32), iv (0 : Int32), iv (1 : Int32), iv p4, .unset, .unset, .unset, .unset] [])) (fun t k => XS.istore X91.here hx rfl (hb hby at_293) rfl (l' := #[iv p1, iv p2, iv p3, iv p4, iv p5, iv p6, iv P1, iv P2, iv P3, iv (1 : Int32), iv (3 : Int32), iv q, rv b1, rv b5, rv o, iv (1 : Int32), iv (1 : Int32), iv (0 : Int32), iv (1 : Int32), iv p4, .unset, .unset, .unset, .unset]) rfl k) ?_
            refine oI2 X91 hx (hb hby at_295) (pc' := 297) rfl rfl ?_
            refine oC X91 hx (1 : Int32) (hb hby at_297) (pc' := 298) rfl rfl ?_
            refine own_pre (T' := T91) (f' := (mkF m 299 #[iv p1, iv p2, iv p3, iv p4, iv p5, iv p6, iv P1, iv P2, iv P3, iv (1 : Int32), iv (3 : Int32), iv q, rv b1, rv b5, rv o, iv (1 : Int32), iv (1 : Int32), iv (0 : Int32), iv (1 : Int32), iv p4, .unset, .unset, .unset, .unset] [(.int ((1 : Int32) + (1 : Int32)))])) (fun t k => XS.iadd X91.here hx rfl (hb hby at_298) rfl k) ?_
            rw [show ((1 : Int32) + (1 : Int32)) = (2 : Int32) from by decide]
            refine own_pre (T' := T91) (f' := (mkF m 301 #[iv p1, iv p2, iv p3, iv p4, iv p5, iv p6, iv P1, iv P2, iv P3, iv (1 : Int32), iv (3 : Int32), iv q, rv b1, rv b5, rv o, iv (1 : Int32), iv (1 : Int32), iv (0 : Int32), iv (1 : Int32), iv p4, iv (2 : Int32), .unset, .unset, .unset] [])) (fun t k => XS.istore X91.here hx rfl (hb hby at_299) rfl (l' := #[iv p1, iv p2, iv p3, iv p4, iv p5, iv p6, iv P1, iv P2, iv P3, iv (1 : Int32), iv (3 : Int32), iv q, rv b1, rv b5, rv o, iv (1 : Int32), iv (1 : Int32), iv (0 : Int32), iv (1 : Int32), iv p4, iv (2 : Int32), .unset, .unset, .unset]) rfl k) ?_
            refine oG X91 hx (hb hby at_301) (pc' := 311) (by decide) (by decide) ?_
            refine oA2 X91 hx (hb hby at_311) (pc' := 313) rfl rfl rfl ?_
            refine oI2 X91 hx (hb hby at_313) (pc' := 315) rfl rfl ?_
            obtain ⟨T103, L103, v103, Y103a, ⟨rfl, N103, B103⟩, st103⟩ := own_callV X91 hx hZ e91 (y := (⟨"com/example/orthonorm/orthonorm/sanskrit/Anchors", "takeAt", "(I)I"⟩ : MethodName)) hown (hw _ (List.mem_of_getElem? (i := 17) rfl)) (hw _ (List.mem_of_getElem? (i := 18) rfl)) (hw _ (List.mem_of_getElem? (i := 20) rfl)) (hw _ (List.mem_of_getElem? (i := 19) rfl)) (hw _ (List.mem_of_getElem? (i := 21) rfl)) (hw _ (List.mem_of_getElem? (i := 4) rfl)) (by decide) 0 [(.int q)] [] (own_at_3_1_1_1 l Z a0 hw [] w_NO_ANCHORS k_NO_ANCHORS h91 (own_F_ext F0 EX91_h0) h8 Fb o P O kP kO P1 P2 P3 (0 : Int32) (0 : Int32) (0 : Int32) (0 : Int32) (0 : Int32) p3 p4 p5 (0 : Int32) (0 : Int32) (0 : Int32) (0 : Int32) (0 : Int32) B91 q hc92 hc102) (by decide) (by decide) (by decide) (by decide) (own_Ob_E B91.1) (g := (mkF m 315 #[iv p1, iv p2, iv p3, iv p4, iv p5, iv p6, iv P1, iv P2, iv P3, iv (1 : Int32), iv (3 : Int32), iv q, rv b1, rv b5, rv o, iv (1 : Int32), iv (1 : Int32), iv (0 : Int32), iv (1 : Int32), iv p4, iv (2 : Int32), .unset, .unset, .unset] [(.int q), (.ref o)])) rfl (by rw [hml]; rfl) (lenOf pd_3 rfl) rfl (by show 2 * 0 + _ ≤ _; exact Nat.le_of_eq rfl) (hb hby at_315)
            have X103 := Y103a.forget (fun y hy => Nat.le_trans hsz (N103 y hy))
            obtain ⟨h103, e103⟩ : ∃ y, T103.heap = y := ⟨_, rfl⟩
            rw [e103] at B103
            have EX103_h0 : Ext h0 h103 := own_extE EX8_h0 (own_Ob_X B103.1)
            have EX103_h4 : Ext h4 h103 := own_extE EX8_h4 (own_Ob_X B103.1)
            have EX103_h8 : Ext h8 h103 := own_Ob_X B103.1
            refine own_pre (T' := T103) (f' := (mkF m 318 #[iv p1, iv p2, iv p3, iv p4, iv p5, iv p6, iv P1, iv P2, iv P3, iv (1 : Int32), iv (3 : Int32), iv q, rv b1, rv b5, rv o, iv (1 : Int32), iv (1 : Int32), iv (0 : Int32), iv (1 : Int32), iv p4, iv (2 : Int32), .unset, .unset, .unset] [(.int p4)])) (fun t k => st103 t k) ?_
            refine own_pre (T' := T103) (f' := (mkF m 320 #[iv p1, iv p2, iv p3, iv p4, iv p5, iv p6, iv P1, iv P2, iv P3, iv (1 : Int32), iv (3 : Int32), iv q, rv b1, rv b5, rv o, iv (1 : Int32), iv (1 : Int32), iv (0 : Int32), iv (1 : Int32), iv p4, iv (2 : Int32), iv p4, .unset, .unset] [])) (fun t k => XS.istore X103.here hx rfl (hb hby at_318) rfl (l' := #[iv p1, iv p2, iv p3, iv p4, iv p5, iv p6, iv P1, iv P2, iv P3, iv (1 : Int32), iv (3 : Int32), iv q, rv b1, rv b5, rv o, iv (1 : Int32), iv (1 : Int32), iv (0 : Int32), iv (1 : Int32), iv p4, iv (2 : Int32), iv p4, .unset, .unset]) rfl k) ?_
            refine oA2 X103 hx (hb hby at_320) (pc' := 322) rfl rfl rfl ?_
            obtain ⟨T104, X104, e104, st104⟩ := own_pure (f := 0) (n := 0) (v := (some (.int P3))) (own_callV X103 hx hZ e103 (y := (⟨"com/example/orthonorm/orthonorm/sanskrit/Anchors", "nextPlace", "()I"⟩ : MethodName)) hown (hw _ (List.mem_of_getElem? (i := 26) rfl)) (hw _ (List.mem_of_getElem? (i := 27) rfl)) (hw _ (List.mem_of_getElem? (i := 29) rfl)) (hw _ (List.mem_of_getElem? (i := 28) rfl)) (hw _ (List.mem_of_getElem? (i := 30) rfl)) (hw _ (List.mem_of_getElem? (i := 4) rfl)) (by decide) 0 [] [] (own_next_3_2 l Z a0 hw [] w_NO_ANCHORS k_NO_ANCHORS h103 (own_F_ext F0 EX103_h0) h8 Fb o P O kP kO P1 P2 P3 (0 : Int32) (0 : Int32) (0 : Int32) (0 : Int32) (0 : Int32) p3 p4 p5 (0 : Int32) (0 : Int32) (0 : Int32) (0 : Int32) (0 : Int32) B103) (by decide) (by decide) (by decide) (by decide) (own_Ob_E B103.1) (g := (mkF m 322 #[iv p1, iv p2, iv p3, iv p4, iv p5, iv p6, iv P1, iv P2, iv P3, iv (1 : Int32), iv (3 : Int32), iv q, rv b1, rv b5, rv o, iv (1 : Int32), iv (1 : Int32), iv (0 : Int32), iv (1 : Int32), iv p4, iv (2 : Int32), iv p4, .unset, .unset] [(.ref o)])) rfl (by rw [hml]; rfl) (lenOf pd_4 rfl) rfl (by show 2 * 0 + _ ≤ _; exact Nat.le_of_eq rfl) (hb hby at_322))
            refine own_pre (T' := T104) (f' := (mkF m 325 #[iv p1, iv p2, iv p3, iv p4, iv p5, iv p6, iv P1, iv P2, iv P3, iv (1 : Int32), iv (3 : Int32), iv q, rv b1, rv b5, rv o, iv (1 : Int32), iv (1 : Int32), iv (0 : Int32), iv (1 : Int32), iv p4, iv (2 : Int32), iv p4, .unset, .unset] [(.int P3)])) (fun t k => st104 t k) ?_
            refine own_pre (T' := T104) (f' := (mkF m 327 #[iv p1, iv p2, iv p3, iv p4, iv p5, iv p6, iv P1, iv P2, iv P3, iv (1 : Int32), iv (3 : Int32), iv q, rv b1, rv b5, rv o, iv (1 : Int32), iv (1 : Int32), iv (0 : Int32), iv (1 : Int32), iv p4, iv (2 : Int32), iv p4, iv P3, .unset] [])) (fun t k => XS.istore X104.here hx rfl (hb hby at_325) rfl (l' := #[iv p1, iv p2, iv p3, iv p4, iv p5, iv p6, iv P1, iv P2, iv P3, iv (1 : Int32), iv (3 : Int32), iv q, rv b1, rv b5, rv o, iv (1 : Int32), iv (1 : Int32), iv (0 : Int32), iv (1 : Int32), iv p4, iv (2 : Int32), iv p4, iv P3, .unset]) rfl k) ?_
            refine oI2 X104 hx (hb hby at_327) (pc' := 329) rfl rfl ?_
            refine oI2 X104 hx (hb hby at_329) (pc' := 331) rfl rfl ?_
            refine oN X104 hx (hb hby at_331) (pc' := 334) rfl (tlt (by decide : (2 : Int32) < (3 : Int32))).2.1 ?_
            refine oA2 X104 hx (hb hby at_334) (pc' := 336) rfl rfl rfl ?_
            refine oI2 X104 hx (hb hby at_336) (pc' := 338) rfl rfl ?_
            refine own_pre (T' := T104) (f' := (mkF m 339 #[iv p1, iv p2, iv p3, iv p4, iv p5, iv p6, iv P1, iv P2, iv P3, iv (1 : Int32), iv (3 : Int32), iv q, rv b1, rv b5, rv o, iv (1 : Int32), iv (1 : Int32), iv (0 : Int32), iv (1 : Int32), iv p4, iv (2 : Int32), iv p4, iv P3, .unset] [(.int P3)])) (fun t k => own_ldI X104 hx hZ e104 (V4.ext EX103_h4) (by decide) rfl (g := (mkF m 338 #[iv p1, iv p2, iv p3, iv p4, iv p5, iv p6, iv P1, iv P2, iv P3, iv (1 : Int32), iv (3 : Int32), iv q, rv b1, rv b5, rv o, iv (1 : Int32), iv (1 : Int32), iv (0 : Int32), iv (1 : Int32), iv p4, iv (2 : Int32), iv p4, iv P3, .unset] [(.int (2 : Int32)), (.ref b1)])) rfl rfl (hb hby at_338) t k) ?_
            refine oG X104 hx (hb hby at_339) (pc' := 344) (by decide) (by decide) ?_
            refine own_pre (T' := T104) (f' := (mkF m 346 #[iv p1, iv p2, iv p3, iv p4, iv p5, iv p6, iv P1, iv P2, iv P3, iv (1 : Int32), iv (3 : Int32), iv q, rv b1, rv b5, rv o, iv (1 : Int32), iv (1 : Int32), iv (0 : Int32), iv (1 : Int32), iv p4, iv (2 : Int32), iv p4, iv P3, iv P3] [])) (fun t k => XS.istore X104.here hx rfl (hb hby at_344) rfl (l' := #[iv p1, iv p2, iv p3, iv p4, iv p5, iv p6, iv P1, iv P2, iv P3, iv (1 : Int32), iv (3 : Int32), iv q, rv b1, rv b5, rv o, iv (1 : Int32), iv (1 : Int32), iv (0 : Int32), iv (1 : Int32), iv p4, iv (2 : Int32), iv p4, iv P3, iv P3]) rfl k) ?_
            refine oI2 X104 hx (hb hby at_346) (pc' := 348) rfl rfl ?_
            refine oN0 X104 hx (hb hby at_348) (pc' := 351) rfl ((if0 _ _).trans (feq (by decide : ¬ ((1 : Int32) = (0 : Int32)))).1) ?_
            refine oI2 X104 hx (hb hby at_351) (pc' := 353) rfl rfl ?_
            refine oI2 X104 hx (hb hby at_353) (pc' := 355) rfl rfl ?_
            refine oN X104 hx (hb hby at_355) (pc' := 358) rfl (teq (rfl : p4 = p4)).2 ?_
            refine oI2 X104 hx (hb hby at_358) (pc' := 360) rfl rfl ?_
            refine oI2 X104 hx (hb hby at_360) (pc' := 362) rfl rfl ?_
            refine oN X104 hx (hb hby at_362) (pc' := 365) rfl (teq (rfl : P3 = P3)).2 ?_
            refine oC X104 hx (1 : Int32) (hb hby at_365) (pc' := 366) rfl rfl ?_
            refine oG X104 hx (hb hby at_366) (pc' := 370) (by decide) (by decide) ?_
            refine own_pre (T' := T104) (f' := (mkF m 372 #[iv p1, iv p2, iv p3, iv p4, iv p5, iv p6, iv P1, iv P2, iv P3, iv (1 : Int32), iv (3 : Int32), iv q, rv b1, rv b5, rv o, iv (1 : Int32), iv (1 : Int32), iv (0 : Int32), iv (1 : Int32), iv p4, iv (2 : Int32), iv p4, iv P3, iv P3] [])) (fun t k => XS.istore X104.here hx rfl (hb hby at_370) rfl (l' := #[iv p1, iv p2, iv p3, iv p4, iv p5, iv p6, iv P1, iv P2, iv P3, iv (1 : Int32), iv (3 : Int32), iv q, rv b1, rv b5, rv o, iv (1 : Int32), iv (1 : Int32), iv (0 : Int32), iv (1 : Int32), iv p4, iv (2 : Int32), iv p4, iv P3, iv P3]) rfl k) ?_
            refine oI2 X104 hx (hb hby at_372) (pc' := 374) rfl rfl ?_
            refine oI2 X104 hx (hb hby at_374) (pc' := 376) rfl rfl ?_
            refine oN X104 hx (hb hby at_376) (pc' := 379) rfl (tlt (by decide : (2 : Int32) < (3 : Int32))).2.1 ?_
            refine oI2 X104 hx (hb hby at_379) (pc' := 381) rfl rfl ?_
            refine oN0 X104 hx (hb hby at_381) (pc' := 384) rfl ((if0 _ _).trans (feq (by decide : ¬ ((1 : Int32) = (0 : Int32)))).1) ?_
            refine oA2 X104 hx (hb hby at_384) (pc' := 386) rfl rfl rfl ?_
            obtain ⟨T105, L105, v105, Y105a, ⟨rfl, N105, B105⟩, st105⟩ := own_callV X104 hx hZ e104 (y := (⟨"com/example/orthonorm/orthonorm/sanskrit/Anchors", "take", "()I"⟩ : MethodName)) hown (hw _ (List.mem_of_getElem? (i := 53) rfl)) (hw _ (List.mem_of_getElem? (i := 54) rfl)) (hw _ (List.mem_of_getElem? (i := 56) rfl)) (hw _ (List.mem_of_getElem? (i := 55) rfl)) (hw _ (List.mem_of_getElem? (i := 57) rfl)) (hw _ (List.mem_of_getElem? (i := 4) rfl)) (by decide) 0 [] [] (own_take_2 l Z a0 hw [] w_NO_ANCHORS k_NO_ANCHORS h103 (own_F_ext F0 EX103_h0) h8 Fb o P O kP kO P1 P2 P3 (0 : Int32) (0 : Int32) (0 : Int32) (0 : Int32) (0 : Int32) p3 p4 p5 (0 : Int32) (0 : Int32) (0 : Int32) (0 : Int32) (0 : Int32) (3 : Int32) B103) (by decide) (by decide) (by decide) (by decide) (own_Ob_E B103.1) (g := (mkF m 386 #[iv p1, iv p2, iv p3, iv p4, iv p5, iv p6, iv P1, iv P2, iv P3, iv (1 : Int32), iv (3 : Int32), iv q, rv b1, rv b5, rv o, iv (1 : Int32), iv (1 : Int32), iv (0 : Int32), iv (1 : Int32), iv p4, iv (2 : Int32), iv p4, iv P3, iv P3] [(.ref o)])) rfl (by rw [hml]; rfl) (lenOf pd_4 rfl) rfl (by show 2 * 0 + _ ≤ _; exact Nat.le_of_eq rfl) (hb hby at_386)
            have X105 := Y105a.forget (fun y hy => Nat.le_trans hsz (N105 y hy))
            obtain ⟨h105, e105⟩ : ∃ y, T105.heap = y := ⟨_, rfl⟩
            rw [e105] at B105
            have EX105_h0 : Ext h0 h105 := own_extE EX8_h0 (own_Ob_X B105.1)
            have EX105_h4 : Ext h4 h105 := own_extE EX8_h4 (own_Ob_X B105.1)
            have EX105_h8 : Ext h8 h105 := own_Ob_X B105.1
            refine own_pre (T' := T105) (f' := (mkF m 389 #[iv p1, iv p2, iv p3, iv p4, iv p5, iv p6, iv P1, iv P2, iv P3, iv (1 : Int32), iv (3 : Int32), iv q, rv b1, rv b5, rv o, iv (1 : Int32), iv (1 : Int32), iv (0 : Int32), iv (1 : Int32), iv p4, iv (2 : Int32), iv p4, iv P3, iv P3] [(.int p5)])) (fun t k => st105 t k) ?_
            refine oA2 X105 hx (hb hby at_389) (pc' := 391) rfl rfl rfl ?_
            refine oI2 X105 hx (hb hby at_391) (pc' := 393) rfl rfl ?_
            refine own_pre (T' := T105) (f' := (mkF m 394 #[iv p1, iv p2, iv p3, iv p4, iv p5, iv p6, iv P1, iv P2, iv P3, iv (1 : Int32), iv (3 : Int32), iv q, rv b1, rv b5, rv o, iv (1 : Int32), iv (1 : Int32), iv (0 : Int32), iv (1 : Int32), iv p4, iv (2 : Int32), iv p4, iv P3, iv P3] [(.int p5), (.int p5)])) (fun t k => own_ldI X105 hx hZ e105 (V8.ext EX105_h8) (by decide) rfl (g := (mkF m 393 #[iv p1, iv p2, iv p3, iv p4, iv p5, iv p6, iv P1, iv P2, iv P3, iv (1 : Int32), iv (3 : Int32), iv q, rv b1, rv b5, rv o, iv (1 : Int32), iv (1 : Int32), iv (0 : Int32), iv (1 : Int32), iv p4, iv (2 : Int32), iv p4, iv P3, iv P3] [(.int (2 : Int32)), (.ref b5), (.int p5)])) rfl rfl (hb hby at_393) t k) ?_
            refine oN X105 hx (hb hby at_394) (pc' := 397) rfl (teq (rfl : p5 = p5)).2 ?_
            refine oC X105 hx (1 : Int32) (hb hby at_397) (pc' := 398) rfl rfl ?_
            refine oG X105 hx (hb hby at_398) (pc' := 402) (by decide) (by decide) ?_
            refine own_pre (T' := T105) (f' := (mkF m 404 #[iv p1, iv p2, iv p3, iv p4, iv p5, iv p6, iv P1, iv P2, iv P3, iv (1 : Int32), iv (3 : Int32), iv q, rv b1, rv b5, rv o, iv (1 : Int32), iv (1 : Int32), iv (0 : Int32), iv (1 : Int32), iv p4, iv (2 : Int32), iv p4, iv P3, iv P3] [])) (fun t k => XS.istore X105.here hx rfl (hb hby at_402) rfl (l' := #[iv p1, iv p2, iv p3, iv p4, iv p5, iv p6, iv P1, iv P2, iv P3, iv (1 : Int32), iv (3 : Int32), iv q, rv b1, rv b5, rv o, iv (1 : Int32), iv (1 : Int32), iv (0 : Int32), iv (1 : Int32), iv p4, iv (2 : Int32), iv p4, iv P3, iv P3]) rfl k) ?_
            refine oI2 X105 hx (hb hby at_404) (pc' := 406) rfl rfl ?_
            exact own_retZ X105 hx hlk hret (hb hby at_406) rfl (⟨rfl, Fr.nil _⟩) (by decide) (by decide)
          · refine oY X91 hx (hb hby at_285) (pc' := 304) (feq hc102).2 (by decide) (by decide) ?_
            refine oC X91 hx (-1 : Int32) (hb hby at_304) (pc' := 305) rfl rfl ?_
            refine own_pre (T' := T91) (f' := (mkF m 307 #[iv p1, iv p2, iv p3, iv p4, iv p5, iv p6, iv P1, iv P2, iv P3, iv (1 : Int32), iv (3 : Int32), iv q, rv b1, rv b5, rv o, iv (1 : Int32), iv (1 : Int32), iv (0 : Int32), iv (1 : Int32), iv (-1 : Int32), .unset, .unset, .unset, .unset] [])) (fun t k => XS.istore X91.here hx rfl (hb hby at_305) rfl (l' := #[iv p1, iv p2, iv p3, iv p4, iv p5, iv p6, iv P1, iv P2, iv P3, iv (1 : Int32), iv (3 : Int32), iv q, rv b1, rv b5, rv o, iv (1 : Int32), iv (1 : Int32), iv (0 : Int32), iv (1 : Int32), iv (-1 : Int32), .unset, .unset, .unset, .unset]) rfl k) ?_
            refine oI2 X91 hx (hb hby at_307) (pc' := 309) rfl rfl ?_
            refine own_pre (T' := T91) (f' := (mkF m 311 #[iv p1, iv p2, iv p3, iv p4, iv p5, iv p6, iv P1, iv P2, iv P3, iv (1 : Int32), iv (3 : Int32), iv q, rv b1, rv b5, rv o, iv (1 : Int32), iv (1 : Int32), iv (0 : Int32), iv (1 : Int32), iv (-1 : Int32), iv (1 : Int32), .unset, .unset, .unset] [])) (fun t k => XS.istore X91.here hx rfl (hb hby at_309) rfl (l' := #[iv p1, iv p2, iv p3, iv p4, iv p5, iv p6, iv P1, iv P2, iv P3, iv (1 : Int32), iv (3 : Int32), iv q, rv b1, rv b5, rv o, iv (1 : Int32), iv (1 : Int32), iv (0 : Int32), iv (1 : Int32), iv (-1 : Int32), iv (1 : Int32), .unset, .unset, .unset]) rfl k) ?_
            refine oA2 X91 hx (hb hby at_311) (pc' := 313) rfl rfl rfl ?_
            refine oI2 X91 hx (hb hby at_313) (pc' := 315) rfl rfl ?_
            obtain ⟨T106, X106, e106, st106⟩ := own_pure (f := 0) (n := 0) (v := (some (.int (-1 : Int32)))) (own_callV X91 hx hZ e91 (y := (⟨"com/example/orthonorm/orthonorm/sanskrit/Anchors", "takeAt", "(I)I"⟩ : MethodName)) hown (hw _ (List.mem_of_getElem? (i := 17) rfl)) (hw _ (List.mem_of_getElem? (i := 18) rfl)) (hw _ (List.mem_of_getElem? (i := 20) rfl)) (hw _ (List.mem_of_getElem? (i := 19) rfl)) (hw _ (List.mem_of_getElem? (i := 21) rfl)) (hw _ (List.mem_of_getElem? (i := 4) rfl)) (by decide) 0 [(.int q)] [] (own_at_3_1_1_0 l Z a0 hw [] w_NO_ANCHORS k_NO_ANCHORS h91 (own_F_ext F0 EX91_h0) h8 Fb o P O kP kO P1 P2 P3 (0 : Int32) (0 : Int32) (0 : Int32) (0 : Int32) (0 : Int32) p3 p4 p5 (0 : Int32) (0 : Int32) (0 : Int32) (0 : Int32) (0 : Int32) B91 q hc92 hc102) (by decide) (by decide) (by decide) (by decide) (own_Ob_E B91.1) (g := (mkF m 315 #[iv p1, iv p2, iv p3, iv p4, iv p5, iv p6, iv P1, iv P2, iv P3, iv (1 : Int32), iv (3 : Int32), iv q, rv b1, rv b5, rv o, iv (1 : Int32), iv (1 : Int32), iv (0 : Int32), iv (1 : Int32), iv (-1 : Int32), iv (1 : Int32), .unset, .unset, .unset] [(.int q), (.ref o)])) rfl (by rw [hml]; rfl) (lenOf pd_3 rfl) rfl (by show 2 * 0 + _ ≤ _; exact Nat.le_of_eq rfl) (hb hby at_315))
            refine own_pre (T' := T106) (f' := (mkF m 318 #[iv p1, iv p2, iv p3, iv p4, iv p5, iv p6, iv P1, iv P2, iv P3, iv (1 : Int32), iv (3 : Int32), iv q, rv b1, rv b5, rv o, iv (1 : Int32), iv (1 : Int32), iv (0 : Int32), iv (1 : Int32), iv (-1 : Int32), iv (1 : Int32), .unset, .unset, .unset] [(.int (-1 : Int32))])) (fun t k => st106 t k) ?_
            refine own_pre (T' := T106) (f' := (mkF m 320 #[iv p1, iv p2, iv p3, iv p4, iv p5, iv p6, iv P1, iv P2, iv P3, iv (1 : Int32), iv (3 : Int32), iv q, rv b1, rv b5, rv o, iv (1 : Int32), iv (1 : Int32), iv (0 : Int32), iv (1 : Int32), iv (-1 : Int32), iv (1 : Int32), iv (-1 : Int32), .unset, .unset] [])) (fun t k => XS.istore X106.here hx rfl (hb hby at_318) rfl (l' := #[iv p1, iv p2, iv p3, iv p4, iv p5, iv p6, iv P1, iv P2, iv P3, iv (1 : Int32), iv (3 : Int32), iv q, rv b1, rv b5, rv o, iv (1 : Int32), iv (1 : Int32), iv (0 : Int32), iv (1 : Int32), iv (-1 : Int32), iv (1 : Int32), iv (-1 : Int32), .unset, .unset]) rfl k) ?_
            refine oA2 X106 hx (hb hby at_320) (pc' := 322) rfl rfl rfl ?_
            obtain ⟨T107, X107, e107, st107⟩ := own_pure (f := 0) (n := 0) (v := (some (.int P2))) (own_callV X106 hx hZ e106 (y := (⟨"com/example/orthonorm/orthonorm/sanskrit/Anchors", "nextPlace", "()I"⟩ : MethodName)) hown (hw _ (List.mem_of_getElem? (i := 26) rfl)) (hw _ (List.mem_of_getElem? (i := 27) rfl)) (hw _ (List.mem_of_getElem? (i := 29) rfl)) (hw _ (List.mem_of_getElem? (i := 28) rfl)) (hw _ (List.mem_of_getElem? (i := 30) rfl)) (hw _ (List.mem_of_getElem? (i := 4) rfl)) (by decide) 0 [] [] (own_next_3_1 l Z a0 hw [] w_NO_ANCHORS k_NO_ANCHORS h91 (own_F_ext F0 EX91_h0) h8 Fb o P O kP kO P1 P2 P3 (0 : Int32) (0 : Int32) (0 : Int32) (0 : Int32) (0 : Int32) p3 p4 p5 (0 : Int32) (0 : Int32) (0 : Int32) (0 : Int32) (0 : Int32) B91) (by decide) (by decide) (by decide) (by decide) (own_Ob_E B91.1) (g := (mkF m 322 #[iv p1, iv p2, iv p3, iv p4, iv p5, iv p6, iv P1, iv P2, iv P3, iv (1 : Int32), iv (3 : Int32), iv q, rv b1, rv b5, rv o, iv (1 : Int32), iv (1 : Int32), iv (0 : Int32), iv (1 : Int32), iv (-1 : Int32), iv (1 : Int32), iv (-1 : Int32), .unset, .unset] [(.ref o)])) rfl (by rw [hml]; rfl) (lenOf pd_4 rfl) rfl (by show 2 * 0 + _ ≤ _; exact Nat.le_of_eq rfl) (hb hby at_322))
            refine own_pre (T' := T107) (f' := (mkF m 325 #[iv p1, iv p2, iv p3, iv p4, iv p5, iv p6, iv P1, iv P2, iv P3, iv (1 : Int32), iv (3 : Int32), iv q, rv b1, rv b5, rv o, iv (1 : Int32), iv (1 : Int32), iv (0 : Int32), iv (1 : Int32), iv (-1 : Int32), iv (1 : Int32), iv (-1 : Int32), .unset, .unset] [(.int P2)])) (fun t k => st107 t k) ?_
            refine own_pre (T' := T107) (f' := (mkF m 327 #[iv p1, iv p2, iv p3, iv p4, iv p5, iv p6, iv P1, iv P2, iv P3, iv (1 : Int32), iv (3 : Int32), iv q, rv b1, rv b5, rv o, iv (1 : Int32), iv (1 : Int32), iv (0 : Int32), iv (1 : Int32), iv (-1 : Int32), iv (1 : Int32), iv (-1 : Int32), iv P2, .unset] [])) (fun t k => XS.istore X107.here hx rfl (hb hby at_325) rfl (l' := #[iv p1, iv p2, iv p3, iv p4, iv p5, iv p6, iv P1, iv P2, iv P3, iv (1 : Int32), iv (3 : Int32), iv q, rv b1, rv b5, rv o, iv (1 : Int32), iv (1 : Int32), iv (0 : Int32), iv (1 : Int32), iv (-1 : Int32), iv (1 : Int32), iv (-1 : Int32), iv P2, .unset]) rfl k) ?_
            refine oI2 X107 hx (hb hby at_327) (pc' := 329) rfl rfl ?_
            refine oI2 X107 hx (hb hby at_329) (pc' := 331) rfl rfl ?_
            refine oN X107 hx (hb hby at_331) (pc' := 334) rfl (tlt (by decide : (1 : Int32) < (3 : Int32))).2.1 ?_
            refine oA2 X107 hx (hb hby at_334) (pc' := 336) rfl rfl rfl ?_
            refine oI2 X107 hx (hb hby at_336) (pc' := 338) rfl rfl ?_
            refine own_pre (T' := T107) (f' := (mkF m 339 #[iv p1, iv p2, iv p3, iv p4, iv p5, iv p6, iv P1, iv P2, iv P3, iv (1 : Int32), iv (3 : Int32), iv q, rv b1, rv b5, rv o, iv (1 : Int32), iv (1 : Int32), iv (0 : Int32), iv (1 : Int32), iv (-1 : Int32), iv (1 : Int32), iv (-1 : Int32), iv P2, .unset] [(.int P2)])) (fun t k => own_ldI X107 hx hZ e107 (V4.ext EX91_h4) (by decide) rfl (g := (mkF m 338 #[iv p1, iv p2, iv p3, iv p4, iv p5, iv p6, iv P1, iv P2, iv P3, iv (1 : Int32), iv (3 : Int32), iv q, rv b1, rv b5, rv o, iv (1 : Int32), iv (1 : Int32), iv (0 : Int32), iv (1 : Int32), iv (-1 : Int32), iv (1 : Int32), iv (-1 : Int32), iv P2, .unset] [(.int (1 : Int32)), (.ref b1)])) rfl rfl (hb hby at_338) t k) ?_
            refine oG X107 hx (hb hby at_339) (pc' := 344) (by decide) (by decide) ?_
            refine own_pre (T' := T107) (f' := (mkF m 346 #[iv p1, iv p2, iv p3, iv p4, iv p5, iv p6, iv P1, iv P2, iv P3, iv (1 : Int32), iv (3 : Int32), iv q, rv b1, rv b5, rv o, iv (1 : Int32), iv (1 : Int32), iv (0 : Int32), iv (1 : Int32), iv (-1 : Int32), iv (1 : Int32), iv (-1 : Int32), iv P2, iv P2] [])) (fun t k => XS.istore X107.here hx rfl (hb hby at_344) rfl (l' := #[iv p1, iv p2, iv p3, iv p4, iv p5, iv p6, iv P1, iv P2, iv P3, iv (1 : Int32), iv (3 : Int32), iv q, rv b1, rv b5, rv o, iv (1 : Int32), iv (1 : Int32), iv (0 : Int32), iv (1 : Int32), iv (-1 : Int32), iv (1 : Int32), iv (-1 : Int32), iv P2, iv P2]) rfl k) ?_
            refine oI2 X107 hx (hb hby at_346) (pc' := 348) rfl rfl ?_
            refine oN0 X107 hx (hb hby at_348) (pc' := 351) rfl ((if0 _ _).trans (feq (by decide : ¬ ((1 : Int32) = (0 : Int32)))).1) ?_
            refine oI2 X107 hx (hb hby at_351) (pc' := 353) rfl rfl ?_
            refine oI2 X107 hx (hb hby at_353) (pc' := 355) rfl rfl ?_
            refine oN X107 hx (hb hby at_355) (pc' := 358) rfl (teq (by decide : (-1 : Int32) = (-1 : Int32))).2 ?_
            refine oI2 X107 hx (hb hby at_358) (pc' := 360) rfl rfl ?_
            refine oI2 X107 hx (hb hby at_360) (pc' := 362) rfl rfl ?_
            refine oN X107 hx (hb hby at_362) (pc' := 365) rfl (teq (rfl : P2 = P2)).2 ?_
            refine oC X107 hx (1 : Int32) (hb hby at_365) (pc' := 366) rfl rfl ?_
            refine oG X107 hx (hb hby at_366) (pc' := 370) (by decide) (by decide) ?_
            refine own_pre (T' := T107) (f' := (mkF m 372 #[iv p1, iv p2, iv p3, iv p4, iv p5, iv p6, iv P1, iv P2, iv P3, iv (1 : Int32), iv (3 : Int32), iv q, rv b1, rv b5, rv o, iv (1 : Int32), iv (1 : Int32), iv (0 : Int32), iv (1 : Int32), iv (-1 : Int32), iv (1 : Int32), iv (-1 : Int32), iv P2, iv P2] [])) (fun t k => XS.istore X107.here hx rfl (hb hby at_370) rfl (l' := #[iv p1, iv p2, iv p3, iv p4, iv p5, iv p6, iv P1, iv P2, iv P3, iv (1 : Int32), iv (3 : Int32), iv q, rv b1, rv b5, rv o, iv (1 : Int32), iv (1 : Int32), iv (0 : Int32), iv (1 : Int32), iv (-1 : Int32), iv (1 : Int32), iv (-1 : Int32), iv P2, iv P2]) rfl k) ?_
            refine oI2 X107 hx (hb hby at_372) (pc' := 374) rfl rfl ?_
            refine oI2 X107 hx (hb hby at_374) (pc' := 376) rfl rfl ?_
            refine oN X107 hx (hb hby at_376) (pc' := 379) rfl (tlt (by decide : (1 : Int32) < (3 : Int32))).2.1 ?_
            refine oI2 X107 hx (hb hby at_379) (pc' := 381) rfl rfl ?_
            refine oN0 X107 hx (hb hby at_381) (pc' := 384) rfl ((if0 _ _).trans (feq (by decide : ¬ ((1 : Int32) = (0 : Int32)))).1) ?_
            refine oA2 X107 hx (hb hby at_384) (pc' := 386) rfl rfl rfl ?_
            obtain ⟨T108, L108, v108, Y108a, ⟨rfl, N108, B108⟩, st108⟩ := own_callV X107 hx hZ e107 (y := (⟨"com/example/orthonorm/orthonorm/sanskrit/Anchors", "take", "()I"⟩ : MethodName)) hown (hw _ (List.mem_of_getElem? (i := 53) rfl)) (hw _ (List.mem_of_getElem? (i := 54) rfl)) (hw _ (List.mem_of_getElem? (i := 56) rfl)) (hw _ (List.mem_of_getElem? (i := 55) rfl)) (hw _ (List.mem_of_getElem? (i := 57) rfl)) (hw _ (List.mem_of_getElem? (i := 4) rfl)) (by decide) 0 [] [] (own_take_1 l Z a0 hw [] w_NO_ANCHORS k_NO_ANCHORS h91 (own_F_ext F0 EX91_h0) h8 Fb o P O kP kO P1 P2 P3 (0 : Int32) (0 : Int32) (0 : Int32) (0 : Int32) (0 : Int32) p3 p4 p5 (0 : Int32) (0 : Int32) (0 : Int32) (0 : Int32) (0 : Int32) (3 : Int32) B91) (by decide) (by decide) (by decide) (by decide) (own_Ob_E B91.1) (g := (mkF m 386 #[iv p1, iv p2, iv p3, iv p4, iv p5, iv p6, iv P1, iv P2, iv P3, iv (1 : Int32), iv (3 : Int32), iv q, rv b1, rv b5, rv o, iv (1 : Int32), iv (1 : Int32), iv (0 : Int32), iv (1 : Int32), iv (-1 : Int32), iv (1 : Int32), iv (-1 : Int32), iv P2, iv P2] [(.ref o)])) rfl (by rw [hml]; rfl) (lenOf pd_4 rfl) rfl (by show 2 * 0 + _ ≤ _; exact Nat.le_of_eq rfl) (hb hby at_386)
            have X108 := Y108a.forget (fun y hy => Nat.le_trans hsz (N108 y hy))
            obtain ⟨h108, e108⟩ : ∃ y, T108.heap = y := ⟨_, rfl⟩
            rw [e108] at B108
            have EX108_h0 : Ext h0 h108 := own_extE EX8_h0 (own_Ob_X B108.1)
            have EX108_h4 : Ext h4 h108 := own_extE EX8_h4 (own_Ob_X B108.1)
            have EX108_h8 : Ext h8 h108 := own_Ob_X B108.1
            refine own_pre (T' := T108) (f' := (mkF m 389 #[iv p1, iv p2, iv p3, iv p4, iv p5, iv p6, iv P1, iv P2, iv P3, iv (1 : Int32), iv (3 : Int32), iv q, rv b1, rv b5, rv o, iv (1 : Int32), iv (1 : Int32), iv (0 : Int32), iv (1 : Int32), iv (-1 : Int32), iv (1 : Int32), iv (-1 : Int32), iv P2, iv P2] [(.int p4)])) (fun t k => st108 t k) ?_
            refine oA2 X108 hx (hb hby at_389) (pc' := 391) rfl rfl rfl ?_
            refine oI2 X108 hx (hb hby at_391) (pc' := 393) rfl rfl ?_
            refine own_pre (T' := T108) (f' := (mkF m 394 #[iv p1, iv p2, iv p3, iv p4, iv p5, iv p6, iv P1, iv P2, iv P3, iv (1 : Int32), iv (3 : Int32), iv q, rv b1, rv b5, rv o, iv (1 : Int32), iv (1 : Int32), iv (0 : Int32), iv (1 : Int32), iv (-1 : Int32), iv (1 : Int32), iv (-1 : Int32), iv P2, iv P2] [(.int p4), (.int p4)])) (fun t k => own_ldI X108 hx hZ e108 (V8.ext EX108_h8) (by decide) rfl (g := (mkF m 393 #[iv p1, iv p2, iv p3, iv p4, iv p5, iv p6, iv P1, iv P2, iv P3, iv (1 : Int32), iv (3 : Int32), iv q, rv b1, rv b5, rv o, iv (1 : Int32), iv (1 : Int32), iv (0 : Int32), iv (1 : Int32), iv (-1 : Int32), iv (1 : Int32), iv (-1 : Int32), iv P2, iv P2] [(.int (1 : Int32)), (.ref b5), (.int p4)])) rfl rfl (hb hby at_393) t k) ?_
            refine oN X108 hx (hb hby at_394) (pc' := 397) rfl (teq (rfl : p4 = p4)).2 ?_
            refine oC X108 hx (1 : Int32) (hb hby at_397) (pc' := 398) rfl rfl ?_
            refine oG X108 hx (hb hby at_398) (pc' := 402) (by decide) (by decide) ?_
            refine own_pre (T' := T108) (f' := (mkF m 404 #[iv p1, iv p2, iv p3, iv p4, iv p5, iv p6, iv P1, iv P2, iv P3, iv (1 : Int32), iv (3 : Int32), iv q, rv b1, rv b5, rv o, iv (1 : Int32), iv (1 : Int32), iv (0 : Int32), iv (1 : Int32), iv (-1 : Int32), iv (1 : Int32), iv (-1 : Int32), iv P2, iv P2] [])) (fun t k => XS.istore X108.here hx rfl (hb hby at_402) rfl (l' := #[iv p1, iv p2, iv p3, iv p4, iv p5, iv p6, iv P1, iv P2, iv P3, iv (1 : Int32), iv (3 : Int32), iv q, rv b1, rv b5, rv o, iv (1 : Int32), iv (1 : Int32), iv (0 : Int32), iv (1 : Int32), iv (-1 : Int32), iv (1 : Int32), iv (-1 : Int32), iv P2, iv P2]) rfl k) ?_
            refine oI2 X108 hx (hb hby at_404) (pc' := 406) rfl rfl ?_
            exact own_retZ X108 hx hlk hret (hb hby at_406) rfl (⟨rfl, Fr.nil _⟩) (by decide) (by decide)
  refine oI1 X0 hx (hb hby at_0) (pc' := 1) rfl rfl ?_
  refine own_pre (T' := s₁) (f' := (mkF m 3 #[iv p1, iv p2, iv p3, iv p4, iv p5, iv p6, .unset, .unset, .unset, .unset, .unset, .unset, .unset, .unset, .unset, .unset, .unset, .unset, .unset, .unset, .unset, .unset, .unset, .unset] [(.int (1073741823 : Int32)), (.int p1)])) (fun t k => X0.ldcInt hx hown (mvT hZ (hw _ (List.mem_of_getElem? (i := 0) rfl))) (g := (mkF m 1 #[iv p1, iv p2, iv p3, iv p4, iv p5, iv p6, .unset, .unset, .unset, .unset, .unset, .unset, .unset, .unset, .unset, .unset, .unset, .unset, .unset, .unset, .unset, .unset, .unset, .unset] [(.int p1)])) rfl (hb hby at_1) t k) ?_
  refine own_pre (T' := s₁) (f' := (mkF m 4 #[iv p1, iv p2, iv p3, iv p4, iv p5, iv p6, .unset, .unset, .unset, .unset, .unset, .unset, .unset, .unset, .unset, .unset, .unset, .unset, .unset, .unset, .unset, .unset, .unset, .unset] [(.int (p1 &&& (1073741823 : Int32)))])) (fun t k => XS.iand X0.here hx rfl (hb hby at_3) rfl k) ?_
  refine own_pre (T' := s₁) (f' := (mkF m 6 #[iv p1, iv p2, iv p3, iv p4, iv p5, iv p6, iv (p1 &&& (1073741823 : Int32)), .unset, .unset, .unset, .unset, .unset, .unset, .unset, .unset, .unset, .unset, .unset, .unset, .unset, .unset, .unset, .unset, .unset] [])) (fun t k => XS.istore X0.here hx rfl (hb hby at_4) rfl (l' := #[iv p1, iv p2, iv p3, iv p4, iv p5, iv p6, iv (p1 &&& (1073741823 : Int32)), .unset, .unset, .unset, .unset, .unset, .unset, .unset, .unset, .unset, .unset, .unset, .unset, .unset, .unset, .unset, .unset, .unset]) rfl k) ?_
  refine oI2 X0 hx (hb hby at_6) (pc' := 8) rfl rfl ?_
  refine oC X0 hx (1 : Int32) (hb hby at_8) (pc' := 9) rfl rfl ?_
  refine own_pre (T' := s₁) (f' := (mkF m 10 #[iv p1, iv p2, iv p3, iv p4, iv p5, iv p6, iv (p1 &&& (1073741823 : Int32)), .unset, .unset, .unset, .unset, .unset, .unset, .unset, .unset, .unset, .unset, .unset, .unset, .unset, .unset, .unset, .unset, .unset] [(.int ((p1 &&& (1073741823 : Int32)) + (1 : Int32)))])) (fun t k => XS.iadd X0.here hx rfl (hb hby at_9) rfl k) ?_
  refine oI1 X0 hx (hb hby at_10) (pc' := 11) rfl rfl ?_
  refine oC X0 hx (3 : Int32) (hb hby at_11) (pc' := 12) rfl rfl ?_
  refine own_pre (T' := s₁) (f' := (mkF m 13 #[iv p1, iv p2, iv p3, iv p4, iv p5, iv p6, iv (p1 &&& (1073741823 : Int32)), .unset, .unset, .unset, .unset, .unset, .unset, .unset, .unset, .unset, .unset, .unset, .unset, .unset, .unset, .unset, .unset, .unset] [(.int (p2 &&& (3 : Int32))), (.int ((p1 &&& (1073741823 : Int32)) + (1 : Int32)))])) (fun t k => XS.iand X0.here hx rfl (hb hby at_12) rfl k) ?_
  refine own_pre (T' := s₁) (f' := (mkF m 14 #[iv p1, iv p2, iv p3, iv p4, iv p5, iv p6, iv (p1 &&& (1073741823 : Int32)), .unset, .unset, .unset, .unset, .unset, .unset, .unset, .unset, .unset, .unset, .unset, .unset, .unset, .unset, .unset, .unset, .unset] [(.int (((p1 &&& (1073741823 : Int32)) + (1 : Int32)) + (p2 &&& (3 : Int32))))])) (fun t k => XS.iadd X0.here hx rfl (hb hby at_13) rfl k) ?_
  refine own_pre (T' := s₁) (f' := (mkF m 16 #[iv p1, iv p2, iv p3, iv p4, iv p5, iv p6, iv (p1 &&& (1073741823 : Int32)), iv (((p1 &&& (1073741823 : Int32)) + (1 : Int32)) + (p2 &&& (3 : Int32))), .unset, .unset, .unset, .unset, .unset, .unset, .unset, .unset, .unset, .unset, .unset, .unset, .unset, .unset, .unset, .unset] [])) (fun t k => XS.istore X0.here hx rfl (hb hby at_14) rfl (l' := #[iv p1, iv p2, iv p3, iv p4, iv p5, iv p6, iv (p1 &&& (1073741823 : Int32)), iv (((p1 &&& (1073741823 : Int32)) + (1 : Int32)) + (p2 &&& (3 : Int32))), .unset, .unset, .unset, .unset, .unset, .unset, .unset, .unset, .unset, .unset, .unset, .unset, .unset, .unset, .unset, .unset]) rfl k) ?_
  refine oI2 X0 hx (hb hby at_16) (pc' := 18) rfl rfl ?_
  refine oC X0 hx (1 : Int32) (hb hby at_18) (pc' := 19) rfl rfl ?_
  refine own_pre (T' := s₁) (f' := (mkF m 20 #[iv p1, iv p2, iv p3, iv p4, iv p5, iv p6, iv (p1 &&& (1073741823 : Int32)), iv (((p1 &&& (1073741823 : Int32)) + (1 : Int32)) + (p2 &&& (3 : Int32))), .unset, .unset, .unset, .unset, .unset, .unset, .unset, .unset, .unset, .unset, .unset, .unset, .unset, .unset, .unset, .unset] [(.int ((((p1 &&& (1073741823 : Int32)) + (1 : Int32)) + (p2 &&& (3 : Int32))) + (1 : Int32)))])) (fun t k => XS.iadd X0.here hx rfl (hb hby at_19) rfl k) ?_
  refine oI1 X0 hx (hb hby at_20) (pc' := 21) rfl rfl ?_
  refine oC X0 hx (2 : Int32) (hb hby at_21) (pc' := 22) rfl rfl ?_
  refine own_pre (T' := s₁) (f' := (mkF m 23 #[iv p1, iv p2, iv p3, iv p4, iv p5, iv p6, iv (p1 &&& (1073741823 : Int32)), iv (((p1 &&& (1073741823 : Int32)) + (1 : Int32)) + (p2 &&& (3 : Int32))), .unset, .unset, .unset, .unset, .unset, .unset, .unset, .unset, .unset, .unset, .unset, .unset, .unset, .unset, .unset, .unset] [(.int ((p2.toUInt32 >>> ((2 : Int32) &&& 31).toUInt32).toInt32)), (.int ((((p1 &&& (1073741823 : Int32)) + (1 : Int32)) + (p2 &&& (3 : Int32))) + (1 : Int32)))])) (fun t k => XS.iushr X0.here hx rfl (hb hby at_22) rfl k) ?_
  refine oC X0 hx (3 : Int32) (hb hby at_23) (pc' := 24) rfl rfl ?_
  refine own_pre (T' := s₁) (f' := (mkF m 25 #[iv p1, iv p2, iv p3, iv p4, iv p5, iv p6, iv (p1 &&& (1073741823 : Int32)), iv (((p1 &&& (1073741823 : Int32)) + (1 : Int32)) + (p2 &&& (3 : Int32))), .unset, .unset, .unset, .unset, .unset, .unset, .unset, .unset, .unset, .unset, .unset, .unset, .unset, .unset, .unset, .unset] [(.int (((p2.toUInt32 >>> ((2 : Int32) &&& 31).toUInt32).toInt32) &&& (3 : Int32))), (.int ((((p1 &&& (1073741823 : Int32)) + (1 : Int32)) + (p2 &&& (3 : Int32))) + (1 : Int32)))])) (fun t k => XS.iand X0.here hx rfl (hb hby at_24) rfl k) ?_
  refine own_pre (T' := s₁) (f' := (mkF m 26 #[iv p1, iv p2, iv p3, iv p4, iv p5, iv p6, iv (p1 &&& (1073741823 : Int32)), iv (((p1 &&& (1073741823 : Int32)) + (1 : Int32)) + (p2 &&& (3 : Int32))), .unset, .unset, .unset, .unset, .unset, .unset, .unset, .unset, .unset, .unset, .unset, .unset, .unset, .unset, .unset, .unset] [(.int (((((p1 &&& (1073741823 : Int32)) + (1 : Int32)) + (p2 &&& (3 : Int32))) + (1 : Int32)) + (((p2.toUInt32 >>> ((2 : Int32) &&& 31).toUInt32).toInt32) &&& (3 : Int32))))])) (fun t k => XS.iadd X0.here hx rfl (hb hby at_25) rfl k) ?_
  refine own_pre (T' := s₁) (f' := (mkF m 28 #[iv p1, iv p2, iv p3, iv p4, iv p5, iv p6, iv (p1 &&& (1073741823 : Int32)), iv (((p1 &&& (1073741823 : Int32)) + (1 : Int32)) + (p2 &&& (3 : Int32))), iv (((((p1 &&& (1073741823 : Int32)) + (1 : Int32)) + (p2 &&& (3 : Int32))) + (1 : Int32)) + (((p2.toUInt32 >>> ((2 : Int32) &&& 31).toUInt32).toInt32) &&& (3 : Int32))), .unset, .unset, .unset, .unset, .unset, .unset, .unset, .unset, .unset, .unset, .unset, .unset, .unset, .unset, .unset] [])) (fun t k => XS.istore X0.here hx rfl (hb hby at_26) rfl (l' := #[iv p1, iv p2, iv p3, iv p4, iv p5, iv p6, iv (p1 &&& (1073741823 : Int32)), iv (((p1 &&& (1073741823 : Int32)) + (1 : Int32)) + (p2 &&& (3 : Int32))), iv (((((p1 &&& (1073741823 : Int32)) + (1 : Int32)) + (p2 &&& (3 : Int32))) + (1 : Int32)) + (((p2.toUInt32 >>> ((2 : Int32) &&& 31).toUInt32).toInt32) &&& (3 : Int32))), .unset, .unset, .unset, .unset, .unset, .unset, .unset, .unset, .unset, .unset, .unset, .unset, .unset, .unset, .unset]) rfl k) ?_
  refine oI1 X0 hx (hb hby at_28) (pc' := 29) rfl rfl ?_
  refine oC X0 hx (4 : Int32) (hb hby at_29) (pc' := 30) rfl rfl ?_
  refine own_pre (T' := s₁) (f' := (mkF m 31 #[iv p1, iv p2, iv p3, iv p4, iv p5, iv p6, iv (p1 &&& (1073741823 : Int32)), iv (((p1 &&& (1073741823 : Int32)) + (1 : Int32)) + (p2 &&& (3 : Int32))), iv (((((p1 &&& (1073741823 : Int32)) + (1 : Int32)) + (p2 &&& (3 : Int32))) + (1 : Int32)) + (((p2.toUInt32 >>> ((2 : Int32) &&& 31).toUInt32).toInt32) &&& (3 : Int32))), .unset, .unset, .unset, .unset, .unset, .unset, .unset, .unset, .unset, .unset, .unset, .unset, .unset, .unset, .unset] [(.int ((p2.toUInt32 >>> ((4 : Int32) &&& 31).toUInt32).toInt32))])) (fun t k => XS.iushr X0.here hx rfl (hb hby at_30) rfl k) ?_
  refine oC X0 hx (1 : Int32) (hb hby at_31) (pc' := 32) rfl rfl ?_
  refine own_pre (T' := s₁) (f' := (mkF m 33 #[iv p1, iv p2, iv p3, iv p4, iv p5, iv p6, iv (p1 &&& (1073741823 : Int32)), iv (((p1 &&& (1073741823 : Int32)) + (1 : Int32)) + (p2 &&& (3 : Int32))), iv (((((p1 &&& (1073741823 : Int32)) + (1 : Int32)) + (p2 &&& (3 : Int32))) + (1 : Int32)) + (((p2.toUInt32 >>> ((2 : Int32) &&& 31).toUInt32).toInt32) &&& (3 : Int32))), .unset, .unset, .unset, .unset, .unset, .unset, .unset, .unset, .unset, .unset, .unset, .unset, .unset, .unset, .unset] [(.int (((p2.toUInt32 >>> ((4 : Int32) &&& 31).toUInt32).toInt32) &&& (1 : Int32)))])) (fun t k => XS.iand X0.here hx rfl (hb hby at_32) rfl k) ?_
  by_cases hc109 : (((p2.toUInt32 >>> ((4 : Int32) &&& 31).toUInt32).toInt32) &&& (1 : Int32)) = (0 : Int32)
  · refine oY0 X0 hx (hb hby at_33) (pc' := 40) ((if0 _ _).trans (teq hc109).1) (by decide) (by decide) ?_
    refine oC X0 hx (0 : Int32) (hb hby at_40) (pc' := 41) rfl rfl ?_
    refine own_pre (T' := s₁) (f' := (mkF m 43 #[iv p1, iv p2, iv p3, iv p4, iv p5, iv p6, iv (p1 &&& (1073741823 : Int32)), iv (((p1 &&& (1073741823 : Int32)) + (1 : Int32)) + (p2 &&& (3 : Int32))), iv (((((p1 &&& (1073741823 : Int32)) + (1 : Int32)) + (p2 &&& (3 : Int32))) + (1 : Int32)) + (((p2.toUInt32 >>> ((2 : Int32) &&& 31).toUInt32).toInt32) &&& (3 : Int32))), iv (0 : Int32), .unset, .unset, .unset, .unset, .unset, .unset, .unset, .unset, .unset, .unset, .unset, .unset, .unset, .unset] [])) (fun t k => XS.istore X0.here hx rfl (hb hby at_41) rfl (l' := #[iv p1, iv p2, iv p3, iv p4, iv p5, iv p6, iv (p1 &&& (1073741823 : Int32)), iv (((p1 &&& (1073741823 : Int32)) + (1 : Int32)) + (p2 &&& (3 : Int32))), iv (((((p1 &&& (1073741823 : Int32)) + (1 : Int32)) + (p2 &&& (3 : Int32))) + (1 : Int32)) + (((p2.toUInt32 >>> ((2 : Int32) &&& 31).toUInt32).toInt32) &&& (3 : Int32))), iv (0 : Int32), .unset, .unset, .unset, .unset, .unset, .unset, .unset, .unset, .unset, .unset, .unset, .unset, .unset, .unset]) rfl k) ?_
    refine oI1 X0 hx (hb hby at_43) (pc' := 44) rfl rfl ?_
    refine oC X0 hx (5 : Int32) (hb hby at_44) (pc' := 45) rfl rfl ?_
    refine own_pre (T' := s₁) (f' := (mkF m 46 #[iv p1, iv p2, iv p3, iv p4, iv p5, iv p6, iv (p1 &&& (1073741823 : Int32)), iv (((p1 &&& (1073741823 : Int32)) + (1 : Int32)) + (p2 &&& (3 : Int32))), iv (((((p1 &&& (1073741823 : Int32)) + (1 : Int32)) + (p2 &&& (3 : Int32))) + (1 : Int32)) + (((p2.toUInt32 >>> ((2 : Int32) &&& 31).toUInt32).toInt32) &&& (3 : Int32))), iv (0 : Int32), .unset, .unset, .unset, .unset, .unset, .unset, .unset, .unset, .unset, .unset, .unset, .unset, .unset, .unset] [(.int ((p2.toUInt32 >>> ((5 : Int32) &&& 31).toUInt32).toInt32))])) (fun t k => XS.iushr X0.here hx rfl (hb hby at_45) rfl k) ?_
    refine oC X0 hx (3 : Int32) (hb hby at_46) (pc' := 47) rfl rfl ?_
    refine own_pre (T' := s₁) (f' := (mkF m 48 #[iv p1, iv p2, iv p3, iv p4, iv p5, iv p6, iv (p1 &&& (1073741823 : Int32)), iv (((p1 &&& (1073741823 : Int32)) + (1 : Int32)) + (p2 &&& (3 : Int32))), iv (((((p1 &&& (1073741823 : Int32)) + (1 : Int32)) + (p2 &&& (3 : Int32))) + (1 : Int32)) + (((p2.toUInt32 >>> ((2 : Int32) &&& 31).toUInt32).toInt32) &&& (3 : Int32))), iv (0 : Int32), .unset, .unset, .unset, .unset, .unset, .unset, .unset, .unset, .unset, .unset, .unset, .unset, .unset, .unset] [(.int (((p2.toUInt32 >>> ((5 : Int32) &&& 31).toUInt32).toInt32) &&& (3 : Int32)))])) (fun t k => XS.iand X0.here hx rfl (hb hby at_47) rfl k) ?_
    refine own_pre (T' := s₁) (f' := (mkF m 50 #[iv p1, iv p2, iv p3, iv p4, iv p5, iv p6, iv (p1 &&& (1073741823 : Int32)), iv (((p1 &&& (1073741823 : Int32)) + (1 : Int32)) + (p2 &&& (3 : Int32))), iv (((((p1 &&& (1073741823 : Int32)) + (1 : Int32)) + (p2 &&& (3 : Int32))) + (1 : Int32)) + (((p2.toUInt32 >>> ((2 : Int32) &&& 31).toUInt32).toInt32) &&& (3 : Int32))), iv (0 : Int32), iv (((p2.toUInt32 >>> ((5 : Int32) &&& 31).toUInt32).toInt32) &&& (3 : Int32)), .unset, .unset, .unset, .unset, .unset, .unset, .unset, .unset, .unset, .unset, .unset, .unset, .unset] [])) (fun t k => XS.istore X0.here hx rfl (hb hby at_48) rfl (l' := #[iv p1, iv p2, iv p3, iv p4, iv p5, iv p6, iv (p1 &&& (1073741823 : Int32)), iv (((p1 &&& (1073741823 : Int32)) + (1 : Int32)) + (p2 &&& (3 : Int32))), iv (((((p1 &&& (1073741823 : Int32)) + (1 : Int32)) + (p2 &&& (3 : Int32))) + (1 : Int32)) + (((p2.toUInt32 >>> ((2 : Int32) &&& 31).toUInt32).toInt32) &&& (3 : Int32))), iv (0 : Int32), iv (((p2.toUInt32 >>> ((5 : Int32) &&& 31).toUInt32).toInt32) &&& (3 : Int32)), .unset, .unset, .unset, .unset, .unset, .unset, .unset, .unset, .unset, .unset, .unset, .unset, .unset]) rfl k) ?_
    refine oI2 X0 hx (hb hby at_50) (pc' := 52) rfl rfl ?_
    refine oC X0 hx (4 : Int32) (hb hby at_52) (pc' := 53) rfl rfl ?_
    refine own_pre (T' := s₁) (f' := (mkF m 54 #[iv p1, iv p2, iv p3, iv p4, iv p5, iv p6, iv (p1 &&& (1073741823 : Int32)), iv (((p1 &&& (1073741823 : Int32)) + (1 : Int32)) + (p2 &&& (3 : Int32))), iv (((((p1 &&& (1073741823 : Int32)) + (1 : Int32)) + (p2 &&& (3 : Int32))) + (1 : Int32)) + (((p2.toUInt32 >>> ((2 : Int32) &&& 31).toUInt32).toInt32) &&& (3 : Int32))), iv (0 : Int32), iv (((p2.toUInt32 >>> ((5 : Int32) &&& 31).toUInt32).toInt32) &&& (3 : Int32)), .unset, .unset, .unset, .unset, .unset, .unset, .unset, .unset, .unset, .unset, .unset, .unset, .unset] [(.int ((p6.toUInt32 >>> ((4 : Int32) &&& 31).toUInt32).toInt32))])) (fun t k => XS.iushr X0.here hx rfl (hb hby at_53) rfl k) ?_
    refine oC X0 hx (1 : Int32) (hb hby at_54) (pc' := 55) rfl rfl ?_
    refine own_pre (T' := s₁) (f' := (mkF m 56 #[iv p1, iv p2, iv p3, iv p4, iv p5, iv p6, iv (p1 &&& (1073741823 : Int32)), iv (((p1 &&& (1073741823 : Int32)) + (1 : Int32)) + (p2 &&& (3 : Int32))), iv (((((p1 &&& (1073741823 : Int32)) + (1 : Int32)) + (p2 &&& (3 : Int32))) + (1 : Int32)) + (((p2.toUInt32 >>> ((2 : Int32) &&& 31).toUInt32).toInt32) &&& (3 : Int32))), iv (0 : Int32), iv (((p2.toUInt32 >>> ((5 : Int32) &&& 31).toUInt32).toInt32) &&& (3 : Int32)), .unset, .unset, .unset, .unset, .unset, .unset, .unset, .unset, .unset, .unset, .unset, .unset, .unset] [(.int (((p6.toUInt32 >>> ((4 : Int32) &&& 31).toUInt32).toInt32) &&& (1 : Int32)))])) (fun t k => XS.iand X0.here hx rfl (hb hby at_55) rfl k) ?_
    by_cases hc110 : (((p6.toUInt32 >>> ((4 : Int32) &&& 31).toUInt32).toInt32) &&& (1 : Int32)) = (0 : Int32)
    · refine oY0 X0 hx (hb hby at_56) (pc' := 64) ((if0 _ _).trans (teq hc110).1) (by decide) (by decide) ?_
      refine oI2 X0 hx (hb hby at_64) (pc' := 66) rfl rfl ?_
      refine oC X0 hx (2 : Int32) (hb hby at_66) (pc' := 67) rfl rfl ?_
      refine own_pre (T' := s₁) (f' := (mkF m 68 #[iv p1, iv p2, iv p3, iv p4, iv p5, iv p6, iv (p1 &&& (1073741823 : Int32)), iv (((p1 &&& (1073741823 : Int32)) + (1 : Int32)) + (p2 &&& (3 : Int32))), iv (((((p1 &&& (1073741823 : Int32)) + (1 : Int32)) + (p2 &&& (3 : Int32))) + (1 : Int32)) + (((p2.toUInt32 >>> ((2 : Int32) &&& 31).toUInt32).toInt32) &&& (3 : Int32))), iv (0 : Int32), iv (((p2.toUInt32 >>> ((5 : Int32) &&& 31).toUInt32).toInt32) &&& (3 : Int32)), .unset, .unset, .unset, .unset, .unset, .unset, .unset, .unset, .unset, .unset, .unset, .unset, .unset] [(.int ((p1 &&& (1073741823 : Int32)) - (2 : Int32)))])) (fun t k => XS.isub X0.here hx rfl (hb hby at_67) rfl k) ?_
      refine oI2 X0 hx (hb hby at_68) (pc' := 70) rfl rfl ?_
      refine own_pre (T' := s₁) (f' := (mkF m 72 #[iv p1, iv p2, iv p3, iv p4, iv p5, iv p6, iv (p1 &&& (1073741823 : Int32)), iv (((p1 &&& (1073741823 : Int32)) + (1 : Int32)) + (p2 &&& (3 : Int32))), iv (((((p1 &&& (1073741823 : Int32)) + (1 : Int32)) + (p2 &&& (3 : Int32))) + (1 : Int32)) + (((p2.toUInt32 >>> ((2 : Int32) &&& 31).toUInt32).toInt32) &&& (3 : Int32))), iv (0 : Int32), iv (((p2.toUInt32 >>> ((5 : Int32) &&& 31).toUInt32).toInt32) &&& (3 : Int32)), .unset, .unset, .unset, .unset, .unset, .unset, .unset, .unset, .unset, .unset, .unset, .unset, .unset] [(.int (15 : Int32)), (.int p6), (.int ((p1 &&& (1073741823 : Int32)) - (2 : Int32)))])) (fun t k => XS.bipush X0.here hx rfl (hb hby at_70) k) ?_
      refine own_pre (T' := s₁) (f' := (mkF m 73 #[iv p1, iv p2, iv p3, iv p4, iv p5, iv p6, iv (p1 &&& (1073741823 : Int32)), iv (((p1 &&& (1073741823 : Int32)) + (1 : Int32)) + (p2 &&& (3 : Int32))), iv (((((p1 &&& (1073741823 : Int32)) + (1 : Int32)) + (p2 &&& (3 : Int32))) + (1 : Int32)) + (((p2.toUInt32 >>> ((2 : Int32) &&& 31).toUInt32).toInt32) &&& (3 : Int32))), iv (0 : Int32), iv (((p2.toUInt32 >>> ((5 : Int32) &&& 31).toUInt32).toInt32) &&& (3 : Int32)), .unset, .unset, .unset, .unset, .unset, .unset, .unset, .unset, .unset, .unset, .unset, .unset, .unset] [(.int (p6 &&& (15 : Int32))), (.int ((p1 &&& (1073741823 : Int32)) - (2 : Int32)))])) (fun t k => XS.iand X0.here hx rfl (hb hby at_72) rfl k) ?_
      refine own_pre (T' := s₁) (f' := (mkF m 74 #[iv p1, iv p2, iv p3, iv p4, iv p5, iv p6, iv (p1 &&& (1073741823 : Int32)), iv (((p1 &&& (1073741823 : Int32)) + (1 : Int32)) + (p2 &&& (3 : Int32))), iv (((((p1 &&& (1073741823 : Int32)) + (1 : Int32)) + (p2 &&& (3 : Int32))) + (1 : Int32)) + (((p2.toUInt32 >>> ((2 : Int32) &&& 31).toUInt32).toInt32) &&& (3 : Int32))), iv (0 : Int32), iv (((p2.toUInt32 >>> ((5 : Int32) &&& 31).toUInt32).toInt32) &&& (3 : Int32)), .unset, .unset, .unset, .unset, .unset, .unset, .unset, .unset, .unset, .unset, .unset, .unset, .unset] [(.int (((p1 &&& (1073741823 : Int32)) - (2 : Int32)) + (p6 &&& (15 : Int32))))])) (fun t k => XS.iadd X0.here hx rfl (hb hby at_73) rfl k) ?_
      refine own_pre (T' := s₁) (f' := (mkF m 76 #[iv p1, iv p2, iv p3, iv p4, iv p5, iv p6, iv (p1 &&& (1073741823 : Int32)), iv (((p1 &&& (1073741823 : Int32)) + (1 : Int32)) + (p2 &&& (3 : Int32))), iv (((((p1 &&& (1073741823 : Int32)) + (1 : Int32)) + (p2 &&& (3 : Int32))) + (1 : Int32)) + (((p2.toUInt32 >>> ((2 : Int32) &&& 31).toUInt32).toInt32) &&& (3 : Int32))), iv (0 : Int32), iv (((p2.toUInt32 >>> ((5 : Int32) &&& 31).toUInt32).toInt32) &&& (3 : Int32)), iv (((p1 &&& (1073741823 : Int32)) - (2 : Int32)) + (p6 &&& (15 : Int32))), .unset, .unset, .unset, .unset, .unset, .unset, .unset, .unset, .unset, .unset, .unset, .unset] [])) (fun t k => XS.istore X0.here hx rfl (hb hby at_74) rfl (l' := #[iv p1, iv p2, iv p3, iv p4, iv p5, iv p6, iv (p1 &&& (1073741823 : Int32)), iv (((p1 &&& (1073741823 : Int32)) + (1 : Int32)) + (p2 &&& (3 : Int32))), iv (((((p1 &&& (1073741823 : Int32)) + (1 : Int32)) + (p2 &&& (3 : Int32))) + (1 : Int32)) + (((p2.toUInt32 >>> ((2 : Int32) &&& 31).toUInt32).toInt32) &&& (3 : Int32))), iv (0 : Int32), iv (((p2.toUInt32 >>> ((5 : Int32) &&& 31).toUInt32).toInt32) &&& (3 : Int32)), iv (((p1 &&& (1073741823 : Int32)) - (2 : Int32)) + (p6 &&& (15 : Int32))), .unset, .unset, .unset, .unset, .unset, .unset, .unset, .unset, .unset, .unset, .unset, .unset]) rfl k) ?_
      exact jn (p1 &&& (1073741823 : Int32)) (((p1 &&& (1073741823 : Int32)) + (1 : Int32)) + (p2 &&& (3 : Int32))) (((((p1 &&& (1073741823 : Int32)) + (1 : Int32)) + (p2 &&& (3 : Int32))) + (1 : Int32)) + (((p2.toUInt32 >>> ((2 : Int32) &&& 31).toUInt32).toInt32) &&& (3 : Int32))) (((p1 &&& (1073741823 : Int32)) - (2 : Int32)) + (p6 &&& (15 : Int32))) (0 : Int32) (((p2.toUInt32 >>> ((5 : Int32) &&& 31).toUInt32).toInt32) &&& (3 : Int32)) s₁ X0 e0 (own_chain p1 p2 ((p2.toUInt32 >>> ((2 : Int32) &&& 31).toUInt32).toInt32)).1 (own_chain p1 p2 ((p2.toUInt32 >>> ((2 : Int32) &&& 31).toUInt32).toInt32)).2 (Or.inl rfl) (own_m4 ((p2.toUInt32 >>> ((5 : Int32) &&& 31).toUInt32).toInt32))
    · refine oN0 X0 hx (hb hby at_56) (pc' := 59) rfl ((if0 _ _).trans (feq hc110).1) ?_
      refine oI2 X0 hx (hb hby at_59) (pc' := 61) rfl rfl ?_
      refine oG X0 hx (hb hby at_61) (pc' := 74) (by decide) (by decide) ?_
      refine own_pre (T' := s₁) (f' := (mkF m 76 #[iv p1, iv p2, iv p3, iv p4, iv p5, iv p6, iv (p1 &&& (1073741823 : Int32)), iv (((p1 &&& (1073741823 : Int32)) + (1 : Int32)) + (p2 &&& (3 : Int32))), iv (((((p1 &&& (1073741823 : Int32)) + (1 : Int32)) + (p2 &&& (3 : Int32))) + (1 : Int32)) + (((p2.toUInt32 >>> ((2 : Int32) &&& 31).toUInt32).toInt32) &&& (3 : Int32))), iv (0 : Int32), iv (((p2.toUInt32 >>> ((5 : Int32) &&& 31).toUInt32).toInt32) &&& (3 : Int32)), iv p6, .unset, .unset, .unset, .unset, .unset, .unset, .unset, .unset, .unset, .unset, .unset, .unset] [])) (fun t k => XS.istore X0.here hx rfl (hb hby at_74) rfl (l' := #[iv p1, iv p2, iv p3, iv p4, iv p5, iv p6, iv (p1 &&& (1073741823 : Int32)), iv (((p1 &&& (1073741823 : Int32)) + (1 : Int32)) + (p2 &&& (3 : Int32))), iv (((((p1 &&& (1073741823 : Int32)) + (1 : Int32)) + (p2 &&& (3 : Int32))) + (1 : Int32)) + (((p2.toUInt32 >>> ((2 : Int32) &&& 31).toUInt32).toInt32) &&& (3 : Int32))), iv (0 : Int32), iv (((p2.toUInt32 >>> ((5 : Int32) &&& 31).toUInt32).toInt32) &&& (3 : Int32)), iv p6, .unset, .unset, .unset, .unset, .unset, .unset, .unset, .unset, .unset, .unset, .unset, .unset]) rfl k) ?_
      exact jn (p1 &&& (1073741823 : Int32)) (((p1 &&& (1073741823 : Int32)) + (1 : Int32)) + (p2 &&& (3 : Int32))) (((((p1 &&& (1073741823 : Int32)) + (1 : Int32)) + (p2 &&& (3 : Int32))) + (1 : Int32)) + (((p2.toUInt32 >>> ((2 : Int32) &&& 31).toUInt32).toInt32) &&& (3 : Int32))) p6 (0 : Int32) (((p2.toUInt32 >>> ((5 : Int32) &&& 31).toUInt32).toInt32) &&& (3 : Int32)) s₁ X0 e0 (own_chain p1 p2 ((p2.toUInt32 >>> ((2 : Int32) &&& 31).toUInt32).toInt32)).1 (own_chain p1 p2 ((p2.toUInt32 >>> ((2 : Int32) &&& 31).toUInt32).toInt32)).2 (Or.inl rfl) (own_m4 ((p2.toUInt32 >>> ((5 : Int32) &&& 31).toUInt32).toInt32))
  · refine oN0 X0 hx (hb hby at_33) (pc' := 36) rfl ((if0 _ _).trans (feq hc109).1) ?_
    refine oC X0 hx (1 : Int32) (hb hby at_36) (pc' := 37) rfl rfl ?_
    refine oG X0 hx (hb hby at_37) (pc' := 41) (by decide) (by decide) ?_
    refine own_pre (T' := s₁) (f' := (mkF m 43 #[iv p1, iv p2, iv p3, iv p4, iv p5, iv p6, iv (p1 &&& (1073741823 : Int32)), iv (((p1 &&& (1073741823 : Int32)) + (1 : Int32)) + (p2 &&& (3 : Int32))), iv (((((p1 &&& (1073741823 : Int32)) + (1 : Int32)) + (p2 &&& (3 : Int32))) + (1 : Int32)) + (((p2.toUInt32 >>> ((2 : Int32) &&& 31).toUInt32).toInt32) &&& (3 : Int32))), iv (1 : Int32), .unset, .unset, .unset, .unset, .unset, .unset, .unset, .unset, .unset, .unset, .unset, .unset, .unset, .unset] [])) (fun t k => XS.istore X0.here hx rfl (hb hby at_41) rfl (l' := #[iv p1, iv p2, iv p3, iv p4, iv p5, iv p6, iv (p1 &&& (1073741823 : Int32)), iv (((p1 &&& (1073741823 : Int32)) + (1 : Int32)) + (p2 &&& (3 : Int32))), iv (((((p1 &&& (1073741823 : Int32)) + (1 : Int32)) + (p2 &&& (3 : Int32))) + (1 : Int32)) + (((p2.toUInt32 >>> ((2 : Int32) &&& 31).toUInt32).toInt32) &&& (3 : Int32))), iv (1 : Int32), .unset, .unset, .unset, .unset, .unset, .unset, .unset, .unset, .unset, .unset, .unset, .unset, .unset, .unset]) rfl k) ?_
    refine oI1 X0 hx (hb hby at_43) (pc' := 44) rfl rfl ?_
    refine oC X0 hx (5 : Int32) (hb hby at_44) (pc' := 45) rfl rfl ?_
    refine own_pre (T' := s₁) (f' := (mkF m 46 #[iv p1, iv p2, iv p3, iv p4, iv p5, iv p6, iv (p1 &&& (1073741823 : Int32)), iv (((p1 &&& (1073741823 : Int32)) + (1 : Int32)) + (p2 &&& (3 : Int32))), iv (((((p1 &&& (1073741823 : Int32)) + (1 : Int32)) + (p2 &&& (3 : Int32))) + (1 : Int32)) + (((p2.toUInt32 >>> ((2 : Int32) &&& 31).toUInt32).toInt32) &&& (3 : Int32))), iv (1 : Int32), .unset, .unset, .unset, .unset, .unset, .unset, .unset, .unset, .unset, .unset, .unset, .unset, .unset, .unset] [(.int ((p2.toUInt32 >>> ((5 : Int32) &&& 31).toUInt32).toInt32))])) (fun t k => XS.iushr X0.here hx rfl (hb hby at_45) rfl k) ?_
    refine oC X0 hx (3 : Int32) (hb hby at_46) (pc' := 47) rfl rfl ?_
    refine own_pre (T' := s₁) (f' := (mkF m 48 #[iv p1, iv p2, iv p3, iv p4, iv p5, iv p6, iv (p1 &&& (1073741823 : Int32)), iv (((p1 &&& (1073741823 : Int32)) + (1 : Int32)) + (p2 &&& (3 : Int32))), iv (((((p1 &&& (1073741823 : Int32)) + (1 : Int32)) + (p2 &&& (3 : Int32))) + (1 : Int32)) + (((p2.toUInt32 >>> ((2 : Int32) &&& 31).toUInt32).toInt32) &&& (3 : Int32))), iv (1 : Int32), .unset, .unset, .unset, .unset, .unset, .unset, .unset, .unset, .unset, .unset, .unset, .unset, .unset, .unset] [(.int (((p2.toUInt32 >>> ((5 : Int32) &&& 31).toUInt32).toInt32) &&& (3 : Int32)))])) (fun t k => XS.iand X0.here hx rfl (hb hby at_47) rfl k) ?_
    refine own_pre (T' := s₁) (f' := (mkF m 50 #[iv p1, iv p2, iv p3, iv p4, iv p5, iv p6, iv (p1 &&& (1073741823 : Int32)), iv (((p1 &&& (1073741823 : Int32)) + (1 : Int32)) + (p2 &&& (3 : Int32))), iv (((((p1 &&& (1073741823 : Int32)) + (1 : Int32)) + (p2 &&& (3 : Int32))) + (1 : Int32)) + (((p2.toUInt32 >>> ((2 : Int32) &&& 31).toUInt32).toInt32) &&& (3 : Int32))), iv (1 : Int32), iv (((p2.toUInt32 >>> ((5 : Int32) &&& 31).toUInt32).toInt32) &&& (3 : Int32)), .unset, .unset, .unset, .unset, .unset, .unset, .unset, .unset, .unset, .unset, .unset, .unset, .unset] [])) (fun t k => XS.istore X0.here hx rfl (hb hby at_48) rfl (l' := #[iv p1, iv p2, iv p3, iv p4, iv p5, iv p6, iv (p1 &&& (1073741823 : Int32)), iv (((p1 &&& (1073741823 : Int32)) + (1 : Int32)) + (p2 &&& (3 : Int32))), iv (((((p1 &&& (1073741823 : Int32)) + (1 : Int32)) + (p2 &&& (3 : Int32))) + (1 : Int32)) + (((p2.toUInt32 >>> ((2 : Int32) &&& 31).toUInt32).toInt32) &&& (3 : Int32))), iv (1 : Int32), iv (((p2.toUInt32 >>> ((5 : Int32) &&& 31).toUInt32).toInt32) &&& (3 : Int32)), .unset, .unset, .unset, .unset, .unset, .unset, .unset, .unset, .unset, .unset, .unset, .unset, .unset]) rfl k) ?_
    refine oI2 X0 hx (hb hby at_50) (pc' := 52) rfl rfl ?_
    refine oC X0 hx (4 : Int32) (hb hby at_52) (pc' := 53) rfl rfl ?_
    refine own_pre (T' := s₁) (f' := (mkF m 54 #[iv p1, iv p2, iv p3, iv p4, iv p5, iv p6, iv (p1 &&& (1073741823 : Int32)), iv (((p1 &&& (1073741823 : Int32)) + (1 : Int32)) + (p2 &&& (3 : Int32))), iv (((((p1 &&& (1073741823 : Int32)) + (1 : Int32)) + (p2 &&& (3 : Int32))) + (1 : Int32)) + (((p2.toUInt32 >>> ((2 : Int32) &&& 31).toUInt32).toInt32) &&& (3 : Int32))), iv (1 : Int32), iv (((p2.toUInt32 >>> ((5 : Int32) &&& 31).toUInt32).toInt32) &&& (3 : Int32)), .unset, .unset, .unset, .unset, .unset, .unset, .unset, .unset, .unset, .unset, .unset, .unset, .unset] [(.int ((p6.toUInt32 >>> ((4 : Int32) &&& 31).toUInt32).toInt32))])) (fun t k => XS.iushr X0.here hx rfl (hb hby at_53) rfl k) ?_
    refine oC X0 hx (1 : Int32) (hb hby at_54) (pc' := 55) rfl rfl ?_
    refine own_pre (T' := s₁) (f' := (mkF m 56 #[iv p1, iv p2, iv p3, iv p4, iv p5, iv p6, iv (p1 &&& (1073741823 : Int32)), iv (((p1 &&& (1073741823 : Int32)) + (1 : Int32)) + (p2 &&& (3 : Int32))), iv (((((p1 &&& (1073741823 : Int32)) + (1 : Int32)) + (p2 &&& (3 : Int32))) + (1 : Int32)) + (((p2.toUInt32 >>> ((2 : Int32) &&& 31).toUInt32).toInt32) &&& (3 : Int32))), iv (1 : Int32), iv (((p2.toUInt32 >>> ((5 : Int32) &&& 31).toUInt32).toInt32) &&& (3 : Int32)), .unset, .unset, .unset, .unset, .unset, .unset, .unset, .unset, .unset, .unset, .unset, .unset, .unset] [(.int (((p6.toUInt32 >>> ((4 : Int32) &&& 31).toUInt32).toInt32) &&& (1 : Int32)))])) (fun t k => XS.iand X0.here hx rfl (hb hby at_55) rfl k) ?_
    by_cases hc111 : (((p6.toUInt32 >>> ((4 : Int32) &&& 31).toUInt32).toInt32) &&& (1 : Int32)) = (0 : Int32)
    · refine oY0 X0 hx (hb hby at_56) (pc' := 64) ((if0 _ _).trans (teq hc111).1) (by decide) (by decide) ?_
      refine oI2 X0 hx (hb hby at_64) (pc' := 66) rfl rfl ?_
      refine oC X0 hx (2 : Int32) (hb hby at_66) (pc' := 67) rfl rfl ?_
      refine own_pre (T' := s₁) (f' := (mkF m 68 #[iv p1, iv p2, iv p3, iv p4, iv p5, iv p6, iv (p1 &&& (1073741823 : Int32)), iv (((p1 &&& (1073741823 : Int32)) + (1 : Int32)) + (p2 &&& (3 : Int32))), iv (((((p1 &&& (1073741823 : Int32)) + (1 : Int32)) + (p2 &&& (3 : Int32))) + (1 : Int32)) + (((p2.toUInt32 >>> ((2 : Int32) &&& 31).toUInt32).toInt32) &&& (3 : Int32))), iv (1 : Int32), iv (((p2.toUInt32 >>> ((5 : Int32) &&& 31).toUInt32).toInt32) &&& (3 : Int32)), .unset, .unset, .unset, .unset, .unset, .unset, .unset, .unset, .unset, .unset, .unset, .unset, .unset] [(.int ((p1 &&& (1073741823 : Int32)) - (2 : Int32)))])) (fun t k => XS.isub X0.here hx rfl (hb hby at_67) rfl k) ?_
      refine oI2 X0 hx (hb hby at_68) (pc' := 70) rfl rfl ?_
      refine own_pre (T' := s₁) (f' := (mkF m 72 #[iv p1, iv p2, iv p3, iv p4, iv p5, iv p6, iv (p1 &&& (1073741823 : Int32)), iv (((p1 &&& (1073741823 : Int32)) + (1 : Int32)) + (p2 &&& (3 : Int32))), iv (((((p1 &&& (1073741823 : Int32)) + (1 : Int32)) + (p2 &&& (3 : Int32))) + (1 : Int32)) + (((p2.toUInt32 >>> ((2 : Int32) &&& 31).toUInt32).toInt32) &&& (3 : Int32))), iv (1 : Int32), iv (((p2.toUInt32 >>> ((5 : Int32) &&& 31).toUInt32).toInt32) &&& (3 : Int32)), .unset, .unset, .unset, .unset, .unset, .unset, .unset, .unset, .unset, .unset, .unset, .unset, .unset] [(.int (15 : Int32)), (.int p6), (.int ((p1 &&& (1073741823 : Int32)) - (2 : Int32)))])) (fun t k => XS.bipush X0.here hx rfl (hb hby at_70) k) ?_
      refine own_pre (T' := s₁) (f' := (mkF m 73 #[iv p1, iv p2, iv p3, iv p4, iv p5, iv p6, iv (p1 &&& (1073741823 : Int32)), iv (((p1 &&& (1073741823 : Int32)) + (1 : Int32)) + (p2 &&& (3 : Int32))), iv (((((p1 &&& (1073741823 : Int32)) + (1 : Int32)) + (p2 &&& (3 : Int32))) + (1 : Int32)) + (((p2.toUInt32 >>> ((2 : Int32) &&& 31).toUInt32).toInt32) &&& (3 : Int32))), iv (1 : Int32), iv (((p2.toUInt32 >>> ((5 : Int32) &&& 31).toUInt32).toInt32) &&& (3 : Int32)), .unset, .unset, .unset, .unset, .unset, .unset, .unset, .unset, .unset, .unset, .unset, .unset, .unset] [(.int (p6 &&& (15 : Int32))), (.int ((p1 &&& (1073741823 : Int32)) - (2 : Int32)))])) (fun t k => XS.iand X0.here hx rfl (hb hby at_72) rfl k) ?_
      refine own_pre (T' := s₁) (f' := (mkF m 74 #[iv p1, iv p2, iv p3, iv p4, iv p5, iv p6, iv (p1 &&& (1073741823 : Int32)), iv (((p1 &&& (1073741823 : Int32)) + (1 : Int32)) + (p2 &&& (3 : Int32))), iv (((((p1 &&& (1073741823 : Int32)) + (1 : Int32)) + (p2 &&& (3 : Int32))) + (1 : Int32)) + (((p2.toUInt32 >>> ((2 : Int32) &&& 31).toUInt32).toInt32) &&& (3 : Int32))), iv (1 : Int32), iv (((p2.toUInt32 >>> ((5 : Int32) &&& 31).toUInt32).toInt32) &&& (3 : Int32)), .unset, .unset, .unset, .unset, .unset, .unset, .unset, .unset, .unset, .unset, .unset, .unset, .unset] [(.int (((p1 &&& (1073741823 : Int32)) - (2 : Int32)) + (p6 &&& (15 : Int32))))])) (fun t k => XS.iadd X0.here hx rfl (hb hby at_73) rfl k) ?_
      refine own_pre (T' := s₁) (f' := (mkF m 76 #[iv p1, iv p2, iv p3, iv p4, iv p5, iv p6, iv (p1 &&& (1073741823 : Int32)), iv (((p1 &&& (1073741823 : Int32)) + (1 : Int32)) + (p2 &&& (3 : Int32))), iv (((((p1 &&& (1073741823 : Int32)) + (1 : Int32)) + (p2 &&& (3 : Int32))) + (1 : Int32)) + (((p2.toUInt32 >>> ((2 : Int32) &&& 31).toUInt32).toInt32) &&& (3 : Int32))), iv (1 : Int32), iv (((p2.toUInt32 >>> ((5 : Int32) &&& 31).toUInt32).toInt32) &&& (3 : Int32)), iv (((p1 &&& (1073741823 : Int32)) - (2 : Int32)) + (p6 &&& (15 : Int32))), .unset, .unset, .unset, .unset, .unset, .unset, .unset, .unset, .unset, .unset, .unset, .unset] [])) (fun t k => XS.istore X0.here hx rfl (hb hby at_74) rfl (l' := #[iv p1, iv p2, iv p3, iv p4, iv p5, iv p6, iv (p1 &&& (1073741823 : Int32)), iv (((p1 &&& (1073741823 : Int32)) + (1 : Int32)) + (p2 &&& (3 : Int32))), iv (((((p1 &&& (1073741823 : Int32)) + (1 : Int32)) + (p2 &&& (3 : Int32))) + (1 : Int32)) + (((p2.toUInt32 >>> ((2 : Int32) &&& 31).toUInt32).toInt32) &&& (3 : Int32))), iv (1 : Int32), iv (((p2.toUInt32 >>> ((5 : Int32) &&& 31).toUInt32).toInt32) &&& (3 : Int32)), iv (((p1 &&& (1073741823 : Int32)) - (2 : Int32)) + (p6 &&& (15 : Int32))), .unset, .unset, .unset, .unset, .unset, .unset, .unset, .unset, .unset, .unset, .unset, .unset]) rfl k) ?_
      exact jn (p1 &&& (1073741823 : Int32)) (((p1 &&& (1073741823 : Int32)) + (1 : Int32)) + (p2 &&& (3 : Int32))) (((((p1 &&& (1073741823 : Int32)) + (1 : Int32)) + (p2 &&& (3 : Int32))) + (1 : Int32)) + (((p2.toUInt32 >>> ((2 : Int32) &&& 31).toUInt32).toInt32) &&& (3 : Int32))) (((p1 &&& (1073741823 : Int32)) - (2 : Int32)) + (p6 &&& (15 : Int32))) (1 : Int32) (((p2.toUInt32 >>> ((5 : Int32) &&& 31).toUInt32).toInt32) &&& (3 : Int32)) s₁ X0 e0 (own_chain p1 p2 ((p2.toUInt32 >>> ((2 : Int32) &&& 31).toUInt32).toInt32)).1 (own_chain p1 p2 ((p2.toUInt32 >>> ((2 : Int32) &&& 31).toUInt32).toInt32)).2 (Or.inr rfl) (own_m4 ((p2.toUInt32 >>> ((5 : Int32) &&& 31).toUInt32).toInt32))
    · refine oN0 X0 hx (hb hby at_56) (pc' := 59) rfl ((if0 _ _).trans (feq hc111).1) ?_
      refine oI2 X0 hx (hb hby at_59) (pc' := 61) rfl rfl ?_
      refine oG X0 hx (hb hby at_61) (pc' := 74) (by decide) (by decide) ?_
      refine own_pre (T' := s₁) (f' := (mkF m 76 #[iv p1, iv p2, iv p3, iv p4, iv p5, iv p6, iv (p1 &&& (1073741823 : Int32)), iv (((p1 &&& (1073741823 : Int32)) + (1 : Int32)) + (p2 &&& (3 : Int32))), iv (((((p1 &&& (1073741823 : Int32)) + (1 : Int32)) + (p2 &&& (3 : Int32))) + (1 : Int32)) + (((p2.toUInt32 >>> ((2 : Int32) &&& 31).toUInt32).toInt32) &&& (3 : Int32))), iv (1 : Int32), iv (((p2.toUInt32 >>> ((5 : Int32) &&& 31).toUInt32).toInt32) &&& (3 : Int32)), iv p6, .unset, .unset, .unset, .unset, .unset, .unset, .unset, .unset, .unset, .unset, .unset, .unset] [])) (fun t k => XS.istore X0.here hx rfl (hb hby at_74) rfl (l' := #[iv p1, iv p2, iv p3, iv p4, iv p5, iv p6, iv (p1 &&& (1073741823 : Int32)), iv (((p1 &&& (1073741823 : Int32)) + (1 : Int32)) + (p2 &&& (3 : Int32))), iv (((((p1 &&& (1073741823 : Int32)) + (1 : Int32)) + (p2 &&& (3 : Int32))) + (1 : Int32)) + (((p2.toUInt32 >>> ((2 : Int32) &&& 31).toUInt32).toInt32) &&& (3 : Int32))), iv (1 : Int32), iv (((p2.toUInt32 >>> ((5 : Int32) &&& 31).toUInt32).toInt32) &&& (3 : Int32)), iv p6, .unset, .unset, .unset, .unset, .unset, .unset, .unset, .unset, .unset, .unset, .unset, .unset]) rfl k) ?_
      exact jn (p1 &&& (1073741823 : Int32)) (((p1 &&& (1073741823 : Int32)) + (1 : Int32)) + (p2 &&& (3 : Int32))) (((((p1 &&& (1073741823 : Int32)) + (1 : Int32)) + (p2 &&& (3 : Int32))) + (1 : Int32)) + (((p2.toUInt32 >>> ((2 : Int32) &&& 31).toUInt32).toInt32) &&& (3 : Int32))) p6 (1 : Int32) (((p2.toUInt32 >>> ((5 : Int32) &&& 31).toUInt32).toInt32) &&& (3 : Int32)) s₁ X0 e0 (own_chain p1 p2 ((p2.toUInt32 >>> ((2 : Int32) &&& 31).toUInt32).toInt32)).1 (own_chain p1 p2 ((p2.toUInt32 >>> ((2 : Int32) &&& 31).toUInt32).toInt32)).2 (Or.inr rfl) (own_m4 ((p2.toUInt32 >>> ((5 : Int32) &&& 31).toUInt32).toInt32))
set_option maxRecDepth 65536 in
set_option maxHeartbeats 40000000 in
theorem comes_1 {Post : Tables → Env → Array Value → State → Outcome → State → Prop} (hpost : ∀ tb e args s v u, (limb_1_1.after args s (.returned v) u = true ∧ limb_1_2.after args s (.returned v) u = true ∧ True) → FrameEnd s (.returned v) u (Jvm.fieldLocs frame_1_writes args s ++ Jvm.arrayLocs frame_1_arrays args s ++ Jvm.staticLocs frame_1_statics s) 24 128 → Post tb e args s (.returned v) u) :
    ArmFor flags0 classFile x code maxLocals ret World_1 tables_1 room_1 Calls_1 rest_1 Pre_1 Post := by
  intro l hfl _ _ p e ha hc hk s m args below hf hA hF happ hP
  obtain ⟨hcalls, hrest, hpre⟩ := hP
  obtain ⟨-, -, -, hnamed, -, -, -, hat⟩ := (Spec.applies_iff hf).mp happ
  obtain ⟨hg, hn⟩ := and_e (Cond.before_iff.mp (show (Jvm.Cond.and given_1 narrow_1).before args s = true from hpre))
  obtain ⟨gv0, gr0⟩ := and_e hg
  obtain ⟨gv1, gr1⟩ := and_e gr0
  obtain ⟨gv2, gr2⟩ := and_e gr1
  obtain ⟨gv3, gr3⟩ := and_e gr2
  obtain ⟨gv4, gr4⟩ := and_e gr3
  obtain ⟨gv5, gr5⟩ := and_e gr4
  obtain ⟨w0, w1, w2, w3, w4, w5, rfl⟩ : ∃ w0 w1 w2 w3 w4 w5 : Value, args = #[w0, w1, w2, w3, w4, w5] := by
    have hs : args.size = 6 := by simpa [Cond.value, given_1] using gv0
    obtain ⟨L⟩ := args
    match L, hs with
    | [w0, w1, w2, w3, w4, w5], _ => exact ⟨w0, w1, w2, w3, w4, w5, rfl⟩
  have hw := fun d (hd : d ∈ tables_1) => atoms_spec (ws := Jvm.Cond.code x code maxLocals ret :: tables_1) hat d (List.mem_cons_of_mem _ hd)
  have hfit : Fit s := fun {y c} hc i hi => by
    obtain ⟨ha, rfl⟩ := Array.getElem?_eq_some_iff.mp hc
    have q := List.all_eq_true.mp ((Array.all_eq_true_iff_forall_mem.mp hF) _ (Array.getElem_mem ha)) i (List.mem_range.mpr hi)
    simpa [Array.getElem?_eq_getElem hi] using q
  obtain ⟨i0, ei0⟩ := is_v gv1
  obtain rfl : w0 = (.int i0) := Option.some.inj ei0
  obtain ⟨i1, ei1⟩ := is_v gv2
  obtain rfl : w1 = (.int i1) := Option.some.inj ei1
  obtain ⟨i2, ei2⟩ := is_v gv3
  obtain rfl : w2 = (.int i2) := Option.some.inj ei2
  obtain ⟨i3, ei3⟩ := is_v gv4
  obtain rfl : w3 = (.int i3) := Option.some.inj ei3
  obtain ⟨i4, ei4⟩ := is_v gv5
  obtain rfl : w4 = (.int i4) := Option.some.inj ei4
  obtain ⟨i5, ei5⟩ := is_v gr5
  obtain rfl : w5 = (.int i5) := Option.some.inj ei5
  obtain ⟨nw0, nr0⟩ := and_e hn
  obtain ⟨nw1, nr1⟩ := and_e nr0
  obtain ⟨w_NO_ANCHORS, ev_NO_ANCHORS⟩ := exa_v nw1
  obtain ⟨cl_NO_ANCHORS, A_NO_ANCHORS⟩ := Arr.start ev_NO_ANCHORS nw0
  have L_NO_ANCHORS := own_arrlen A_NO_ANCHORS ev_NO_ANCHORS (own_eqI nr1)
  have F : own_F s s.heap w_NO_ANCHORS (cl_NO_ANCHORS.cls) := ⟨Sta.start ev_NO_ANCHORS (Or.inr ⟨(hw _ (List.mem_of_getElem? (i := 4) rfl)), (hw _ (List.mem_of_getElem? (i := 12) rfl))⟩), Exa.start ev_NO_ANCHORS nw1, Arv.start hfit A_NO_ANCHORS L_NO_ANCHORS.1 L_NO_ANCHORS.2 (by decide) rfl trivial⟩
  obtain ⟨n, o, h1, h2, h3, _, L, rfl, ⟨rfl, N⟩, hq⟩ := own_law l s _ hw tables_1 w_NO_ANCHORS (cl_NO_ANCHORS.cls) s.heap F i0 i1 i2 i3 i4 i5  p e ha hc hk s m _ below hf ((Spec.applies_iff_loose hf).mp happ).1 ⟨rfl, State.Warmed39.refl s, rfl⟩ trivial
  refine ⟨n, _, h1, h2, h3, hpost _ _ _ _ _ _ ⟨Cond.after_iff.mpr rfl, Cond.after_iff.mpr (eq_i res_at (Term.int_eval (1)) rfl), trivial⟩ ⟨hq.1, hq.2.1, (hq.2.2.sift fun y hy => Or.inr (N y hy)).mono (by decide) (by decide)⟩⟩
theorem main_1_1 : Claimed_1_1 := comes_1 fun _ _ _ _ _ _ h hF => ⟨h.1, hF⟩
theorem main_1_2 : Claimed_1_2 := comes_1 fun _ _ _ _ _ _ h hF => ⟨h.2.1, hF⟩
end Jvm.Pilot.@@N@@
namespace Jvm.Pilot.@@N@@
open Jvm Jvm.ClassFile Sem Op Lib Jvm.Free Jvm.Stand Jvm.Pilot.@@N@@.Jvm.D
/-! MADE BY PROGRAM (witnessworld.py) out of the Statement's table words and the real class files: 12 classes; the members and pool entries that the words name. The judged class is class 1, her method 1. -/
namespace start1
open Jvm.ClassFile
def u (s : String) : CpInfo := .utf8 (stringToUtf16 s)
/-- a pool by its gaps: so many unusable entries, then the entry; so many at the end -/
def gap : Nat → List CpInfo → List CpInfo
  | 0, r => r
  | n + 1, r => .unusable :: gap n r
def poolList (es : List (Nat × CpInfo)) (last : Nat) : List CpInfo := es.foldr (fun e r => gap e.1 (e.2 :: r)) (gap last [])
def pool (es : List (Nat × CpInfo)) (last : Nat) : Array CpInfo := ⟨poolList es last⟩
def fileOf (pool : Array CpInfo) (this : Nat) (attrs : Array Attribute := #[]) (ms : Array MethodInfo := #[]) (fl : Nat := 33) (sup : Nat := 0) (ifs : Array Nat := #[]) (fds : Array FieldInfo := #[]) : ClassFile where
  minorVersion := 0
  majorVersion := 65
  constantPool := pool
  accessFlags := fl
  thisClass := this
  superClass := sup
  interfaces := ifs
  fields := fds
  methods := ms
  attributes := attrs
def plain (name : String) (sup : Option ClassId) : Class where
  name := name
  kind := .ordinary
  loader := none
  accessFlags := 33
  super := sup
  interfaces := #[]
  cf := none
  fields := #[]
  methods := #[]
  instanceTypes := #[]
  staticTypes := #[]
  resolved := #[]
  callSites := []
  init := .initialized
  statics := none
  mirror := none

def pool0 : Array CpInfo := pool [(5, u "<init>"), (0, u "()V"), (1, .class_ 10), (1, u "java/lang/Object")] 113

def k0c0 : Code := { maxStack := 0, maxLocals := 1, code := object_method_1_code, exceptionTable := #[], attributes := #[] }
def k0m0 : Method := { name := "<init>", desc := "()V", sig := { parameters := [], returnType := none }, accessFlags := 1, code := some k0c0 }
/-- java/lang/Object -/
def k0 : Class := { plain "java/lang/Object" none with
  accessFlags := 33
  interfaces := #[]
  cf := some (fileOf pool0 8 #[] #[{ accessFlags := 1, nameIndex := 5, descriptorIndex := 6, attributes := #[] }] 33 0 #[] #[])
  fields := #[]
  methods := #[k0m0]
  instanceTypes := #[]
  staticTypes := #[]
  resolved := Array.replicate 124 none
  statics := none }

def pool1 : Array CpInfo := pool [(2, .class_ 4), (0, .nameAndType 5 6), (0, u "java/lang/Object"), (0, u "<init>"), (0, u "()V"), (0, .integer 1073741823), (0, .class_ 9), (0, u "com/example/orthonorm/orthonorm/sanskrit/Anchors"), (0, .methodref 8 3), (0, .methodref 8 12), (0, .nameAndType 13 14), (0, u "add"), (0, u "(II)V"), (0, .methodref 8 16), (0, .nameAndType 17 18), (0, u "take"), (0, u "()I"), (0, .methodref 8 20), (0, .nameAndType 21 22), (0, u "takeAt"), (0, u "(I)I"), (0, .methodref 8 24), (0, .nameAndType 25 18), (0, u "nextPlace"), (2, .integer 2147483647), (0, .class_ 30), (0, u "com/example/orthonorm/orthonorm/sanskrit/AnchorsTakeAtPinLaw"), (2, u "law"), (0, u "(IIIIII)Z")] 5

def k1m0 : Method := { name := "<init>", desc := "()V", sig := { parameters := [], returnType := none }, accessFlags := 1, code := none }
def k1c1 : Code := { maxStack := 4, maxLocals := 24, code := code, exceptionTable := #[], attributes := #[] }
def k1m1 : Method := { name := "law", desc := "(IIIIII)Z", sig := { parameters := [.int, .int, .int, .int, .int, .int], returnType := some .boolean }, accessFlags := 9, code := some k1c1 }
/-- com/example/orthonorm/orthonorm/sanskrit/AnchorsTakeAtPinLaw -/
def k1 : Class := { plain "com/example/orthonorm/orthonorm/sanskrit/AnchorsTakeAtPinLaw" (some 0) with
  accessFlags := 49
  interfaces := #[]
  cf := some (fileOf pool1 29 #[] #[{ accessFlags := 1, nameIndex := 5, descriptorIndex := 6, attributes := #[] }, { accessFlags := 9, nameIndex := 33, descriptorIndex := 34, attributes := #[] }] 49 2 #[] #[])
  fields := #[]
  methods := #[k1m0, k1m1]
  instanceTypes := #[]
  staticTypes := #[]
  resolved := Array.replicate 40 none
  statics := none }

def pool2 : Array CpInfo := pool [(1, .methodref 2 3), (0, .class_ 4), (0, .nameAndType 5 6), (0, u "java/lang/Object"), (0, u "<init>"), (0, u "()V"), (0, .fieldref 8 9), (0, .class_ 10), (0, .nameAndType 11 12), (0, u "com/example/orthonorm/orthonorm/sanskrit/Anchors"), (0, u "NO_ANCHORS"), (0, u "[I"), (0, .fieldref 8 14), (0, .nameAndType 15 12), (0, u "places"), (0, .fieldref 8 17), (0, .nameAndType 18 12), (0, u "offsets"), (0, .fieldref 8 20), (0, .nameAndType 21 22), (0, u "size"), (0, u "I"), (0, .fieldref 8 24), (0, .nameAndType 25 22), (0, u "taken"), (0, .methodref 27 28), (0, .class_ 29), (0, .nameAndType 30 31), (0, u "java/lang/Math"), (0, u "max"), (0, u "(II)I"), (0, .methodref 33 34), (0, .class_ 35), (0, .nameAndType 36 37), (0, u "java/util/Arrays"), (0, u "copyOf"), (0, u "([II)[I"), (2, .integer 2147483647), (0, u "NONE"), (4, u "add"), (0, u "(II)V"), (1, u "nextPlace"), (0, u "()I"), (0, u "take"), (0, u "takeAt"), (0, u "(I)I")] 6

def k2c0 : Code := { maxStack := 2, maxLocals := 1, code := prog_37_method_1_code, exceptionTable := #[], attributes := #[] }
def k2m0 : Method := { name := "<init>", desc := "()V", sig := { parameters := [], returnType := none }, accessFlags := 0, code := some k2c0 }
def k2c1 : Code := { maxStack := 3, maxLocals := 4, code := prog_37_method_2_code, exceptionTable := #[], attributes := #[] }
def k2m1 : Method := { name := "add", desc := "(II)V", sig := { parameters := [.int, .int], returnType := none }, accessFlags := 0, code := some k2c1 }
def k2c2 : Code := { maxStack := 2, maxLocals := 1, code := prog_37_method_3_code, exceptionTable := #[], attributes := #[] }
def k2m2 : Method := { name := "nextPlace", desc := "()I", sig := { parameters := [], returnType := some .int }, accessFlags := 0, code := some k2c2 }
def k2c3 : Code := { maxStack := 5, maxLocals := 1, code := prog_37_method_4_code, exceptionTable := #[], attributes := #[] }
def k2m3 : Method := { name := "take", desc := "()I", sig := { parameters := [], returnType := some .int }, accessFlags := 0, code := some k2c3 }
def k2c4 : Code := { maxStack := 5, maxLocals := 2, code := prog_37_method_5_code, exceptionTable := #[], attributes := #[] }
def k2m4 : Method := { name := "takeAt", desc := "(I)I", sig := { parameters := [.int], returnType := some .int }, accessFlags := 0, code := some k2c4 }
/-- com/example/orthonorm/orthonorm/sanskrit/Anchors -/
def k2 : Class := { plain "com/example/orthonorm/orthonorm/sanskrit/Anchors" (some 0) with
  accessFlags := 48
  interfaces := #[]
  cf := some (fileOf pool2 8 #[] #[{ accessFlags := 0, nameIndex := 5, descriptorIndex := 6, attributes := #[] }, { accessFlags := 0, nameIndex := 46, descriptorIndex := 47, attributes := #[] }, { accessFlags := 0, nameIndex := 49, descriptorIndex := 50, attributes := #[] }, { accessFlags := 0, nameIndex := 51, descriptorIndex := 50, attributes := #[] }, { accessFlags := 0, nameIndex := 52, descriptorIndex := 53, attributes := #[] }] 48 2 #[] #[{ accessFlags := 24, nameIndex := 41, descriptorIndex := 22, attributes := #[] }, { accessFlags := 26, nameIndex := 11, descriptorIndex := 12, attributes := #[] }, { accessFlags := 2, nameIndex := 15, descriptorIndex := 12, attributes := #[] }, { accessFlags := 2, nameIndex := 18, descriptorIndex := 12, attributes := #[] }, { accessFlags := 2, nameIndex := 21, descriptorIndex := 22, attributes := #[] }, { accessFlags := 2, nameIndex := 25, descriptorIndex := 22, attributes := #[] }])
  fields := #[{ name := "NONE", type := .int, accessFlags := 24, slot := 0, constantValue := 0 }, { name := "NO_ANCHORS", type := (.array .int), accessFlags := 26, slot := 1, constantValue := 0 }, { name := "places", type := (.array .int), accessFlags := 2, slot := 0, constantValue := 0 }, { name := "offsets", type := (.array .int), accessFlags := 2, slot := 1, constantValue := 0 }, { name := "size", type := .int, accessFlags := 2, slot := 2, constantValue := 0 }, { name := "taken", type := .int, accessFlags := 2, slot := 3, constantValue := 0 }]
  methods := #[k2m0, k2m1, k2m2, k2m3, k2m4]
  instanceTypes := #[(.array .int), (.array .int), .int, .int]
  staticTypes := #[.int, (.array .int)]
  resolved := Array.replicate 60 none
  statics := some 0 }

def pool3 : Array CpInfo := pool [(1, .class_ 2), (0, u "java/lang/Math"), (1, .class_ 6), (1, u "java/lang/Object"), (0, u "<init>"), (0, u "()V"), (89, .class_ 100), (1, u "java/lang/Math$RandomNumberGeneratorHolder"), (71, u "negativeZeroFloatBits"), (0, u "J"), (2, u "negativeZeroDoubleBits"), (21, u "max"), (2, u "min"), (43, u "$assertionsDisabled"), (0, u "Z"), (88, u "(II)I"), (2, u "twoToTheDoubleScaleDown"), (0, u "D"), (4, u "twoToTheDoubleScaleUp"), (9, u "E"), (3, u "PI"), (2, u "TAU"), (2, u "DEGREES_TO_RADIANS"), (0, u "RADIANS_TO_DEGREES")] 94

def k3m0 : Method := { name := "<init>", desc := "()V", sig := { parameters := [], returnType := none }, accessFlags := 2, code := none }
def k3c1 : Code := { maxStack := 2, maxLocals := 2, code := jdk_29_method_65_code, exceptionTable := #[], attributes := #[] }
def k3m1 : Method := { name := "max", desc := "(II)I", sig := { parameters := [.int, .int], returnType := some .int }, accessFlags := 9, code := some k3c1 }
def k3c2 : Code := { maxStack := 2, maxLocals := 2, code := jdk_29_method_69_code, exceptionTable := #[], attributes := #[] }
def k3m2 : Method := { name := "min", desc := "(II)I", sig := { parameters := [.int, .int], returnType := some .int }, accessFlags := 9, code := some k3c2 }
/-- java/lang/Math -/
def k3 : Class := { plain "java/lang/Math" (some 0) with
  accessFlags := 49
  interfaces := #[]
  cf := some (fileOf pool3 1 #[.nestMembers #[98]] #[{ accessFlags := 2, nameIndex := 7, descriptorIndex := 8, attributes := #[] }, { accessFlags := 9, nameIndex := 198, descriptorIndex := 335, attributes := #[] }, { accessFlags := 9, nameIndex := 201, descriptorIndex := 335, attributes := #[] }] 49 4 #[] #[{ accessFlags := 25, nameIndex := 354, descriptorIndex := 339, attributes := #[] }, { accessFlags := 25, nameIndex := 358, descriptorIndex := 339, attributes := #[] }, { accessFlags := 25, nameIndex := 361, descriptorIndex := 339, attributes := #[] }, { accessFlags := 26, nameIndex := 364, descriptorIndex := 339, attributes := #[] }, { accessFlags := 26, nameIndex := 365, descriptorIndex := 339, attributes := #[] }, { accessFlags := 26, nameIndex := 172, descriptorIndex := 173, attributes := #[] }, { accessFlags := 26, nameIndex := 176, descriptorIndex := 173, attributes := #[] }, { accessFlags := 8, nameIndex := 344, descriptorIndex := 339, attributes := #[] }, { accessFlags := 8, nameIndex := 338, descriptorIndex := 339, attributes := #[] }, { accessFlags := 4120, nameIndex := 245, descriptorIndex := 246, attributes := #[] }])
  fields := #[{ name := "E", type := .double, accessFlags := 25, slot := 0, constantValue := 0 }, { name := "PI", type := .double, accessFlags := 25, slot := 1, constantValue := 0 }, { name := "TAU", type := .double, accessFlags := 25, slot := 2, constantValue := 0 }, { name := "DEGREES_TO_RADIANS", type := .double, accessFlags := 26, slot := 3, constantValue := 0 }, { name := "RADIANS_TO_DEGREES", type := .double, accessFlags := 26, slot := 4, constantValue := 0 }, { name := "negativeZeroFloatBits", type := .long, accessFlags := 26, slot := 5, constantValue := 0 }, { name := "negativeZeroDoubleBits", type := .long, accessFlags := 26, slot := 6, constantValue := 0 }, { name := "twoToTheDoubleScaleUp", type := .double, accessFlags := 8, slot := 7, constantValue := 0 }, { name := "twoToTheDoubleScaleDown", type := .double, accessFlags := 8, slot := 8, constantValue := 0 }, { name := "$assertionsDisabled", type := .boolean, accessFlags := 4120, slot := 9, constantValue := 0 }]
  methods := #[k3m0, k3m1, k3m2]
  instanceTypes := #[]
  staticTypes := #[.double, .double, .double, .double, .double, .long, .long, .double, .double, .boolean]
  resolved := Array.replicate 460 none
  statics := none }

def pool4 : Array CpInfo := pool [(2, .class_ 4), (1, u "java/lang/Object"), (0, u "<init>"), (0, u "()V"), (7, .class_ 16), (1, u "java/util/Arrays"), (57, .class_ 76), (1, u "java/util/Arrays$NaturalOrder"), (36, .class_ 115), (1, u "java/util/Arrays$LegacyMergeSort"), (1, u "Z"), (32, .methodref 151 152), (0, .class_ 153), (0, .nameAndType 154 155), (0, u "java/lang/System"), (0, u "arraycopy"), (0, u "(Ljava/lang/Object;ILjava/lang/Object;II)V"), (146, u "copyOf"), (1, .methodref 305 306), (0, .class_ 307), (0, .nameAndType 308 309), (0, u "java/lang/Math"), (0, u "min"), (0, u "(II)I"), (65, .class_ 376), (0, u "java/util/Arrays$ArrayList"), (68, u "$assertionsDisabled"), (269, u "MIN_ARRAY_SORT_GRAN"), (0, u "I"), (2, u "INSERTIONSORT_THRESHOLD"), (151, u "([II)[I"), (103, .class_ 976), (0, u "java/util/Arrays$ArrayItr")] 52

def k4m0 : Method := { name := "<init>", desc := "()V", sig := { parameters := [], returnType := none }, accessFlags := 2, code := none }
def k4c1 : Code := { maxStack := 6, maxLocals := 3, code := jdk_65_method_123_code, exceptionTable := #[], attributes := #[] }
def k4m1 : Method := { name := "copyOf", desc := "([II)[I", sig := { parameters := [(.array .int), .int], returnType := some (.array .int) }, accessFlags := 9, code := some k4c1 }
/-- java/util/Arrays -/
def k4 : Class := { plain "java/util/Arrays" (some 0) with
  accessFlags := 49
  interfaces := #[]
  cf := some (fileOf pool4 14 #[.nestMembers #[975, 375, 113, 74]] #[{ accessFlags := 2, nameIndex := 5, descriptorIndex := 6, attributes := #[] }, { accessFlags := 9, nameIndex := 302, descriptorIndex := 871, attributes := #[] }] 49 2 #[] #[{ accessFlags := 26, nameIndex := 715, descriptorIndex := 716, attributes := #[] }, { accessFlags := 26, nameIndex := 719, descriptorIndex := 716, attributes := #[] }, { accessFlags := 4120, nameIndex := 445, descriptorIndex := 117, attributes := #[] }])
  fields := #[{ name := "MIN_ARRAY_SORT_GRAN", type := .int, accessFlags := 26, slot := 0, constantValue := 0 }, { name := "INSERTIONSORT_THRESHOLD", type := .int, accessFlags := 26, slot := 1, constantValue := 0 }, { name := "$assertionsDisabled", type := .boolean, accessFlags := 4120, slot := 2, constantValue := 0 }]
  methods := #[k4m0, k4m1]
  instanceTypes := #[]
  staticTypes := #[.int, .int, .boolean]
  resolved := Array.replicate 1029 none
  statics := none }

def pool5 : Array CpInfo := pool [(2, .class_ 4), (1, u "java/lang/Object"), (0, u "<init>"), (0, u "()V"), (1, .class_ 10), (1, u "java/lang/System"), (0, u "allowSecurityManager"), (0, u "I"), (16, u "cons"), (0, u "Ljava/io/Console;"), (77, .class_ 110), (1, u "java/lang/System$CallersHolder"), (43, u "initialErrStream"), (0, u "Ljava/io/PrintStream;"), (19, u "security"), (0, u "Ljava/lang/SecurityManager;"), (31, .class_ 209), (0, u "java/lang/System$1"), (7, u "props"), (0, u "Ljava/util/Properties;"), (2, u "lineSeparator"), (0, u "Ljava/lang/String;"), (96, .class_ 321), (1, u "java/lang/System$LoggerFinder"), (5, .class_ 328), (0, u "java/lang/System$Logger"), (67, u "err"), (2, u "out"), (91, u "notSupportedJnuEncoding"), (15, u "in"), (17, u "initialIn"), (0, u "Ljava/io/InputStream;"), (35, u "bootLayer"), (0, u "Ljava/lang/ModuleLayer;"), (99, .class_ 664), (0, u "java/lang/System$2"), (9, u "NEVER"), (2, u "MAYBE"), (49, u "arraycopy"), (0, u "(Ljava/lang/Object;ILjava/lang/Object;II)V"), (72, .class_ 802), (0, u "java/lang/System$Logger$Level")] 31

def k5m0 : Method := { name := "<init>", desc := "()V", sig := { parameters := [], returnType := none }, accessFlags := 2, code := none }
def k5m1 : Method := { name := "arraycopy", desc := "(Ljava/lang/Object;ILjava/lang/Object;II)V", sig := { parameters := [(.object "java/lang/Object"), .int, (.object "java/lang/Object"), .int, .int], returnType := none }, accessFlags := 265, code := none }
/-- java/lang/System -/
def k5 : Class := { plain "java/lang/System" (some 0) with
  accessFlags := 49
  interfaces := #[]
  cf := some (fileOf pool5 8 #[.nestMembers #[319, 327, 801, 108, 663, 208]] #[{ accessFlags := 2, nameIndex := 5, descriptorIndex := 6, attributes := #[] }, { accessFlags := 265, nameIndex := 727, descriptorIndex := 728, attributes := #[] }] 49 2 #[] #[{ accessFlags := 25, nameIndex := 507, descriptorIndex := 526, attributes := #[] }, { accessFlags := 25, nameIndex := 399, descriptorIndex := 155, attributes := #[] }, { accessFlags := 25, nameIndex := 396, descriptorIndex := 155, attributes := #[] }, { accessFlags := 10, nameIndex := 525, descriptorIndex := 526, attributes := #[] }, { accessFlags := 26, nameIndex := 674, descriptorIndex := 12, attributes := #[] }, { accessFlags := 26, nameIndex := 677, descriptorIndex := 12, attributes := #[] }, { accessFlags := 10, nameIndex := 11, descriptorIndex := 12, attributes := #[] }, { accessFlags := 74, nameIndex := 175, descriptorIndex := 176, attributes := #[] }, { accessFlags := 10, nameIndex := 491, descriptorIndex := 222, attributes := #[] }, { accessFlags := 74, nameIndex := 29, descriptorIndex := 30, attributes := #[] }, { accessFlags := 74, nameIndex := 154, descriptorIndex := 155, attributes := #[] }, { accessFlags := 10, nameIndex := 217, descriptorIndex := 218, attributes := #[] }, { accessFlags := 10, nameIndex := 221, descriptorIndex := 222, attributes := #[] }, { accessFlags := 8, nameIndex := 562, descriptorIndex := 563, attributes := #[] }])
  fields := #[{ name := "in", type := (.object "java/io/InputStream"), accessFlags := 25, slot := 0, constantValue := 0 }, { name := "out", type := (.object "java/io/PrintStream"), accessFlags := 25, slot := 1, constantValue := 0 }, { name := "err", type := (.object "java/io/PrintStream"), accessFlags := 25, slot := 2, constantValue := 0 }, { name := "initialIn", type := (.object "java/io/InputStream"), accessFlags := 10, slot := 3, constantValue := 0 }, { name := "NEVER", type := .int, accessFlags := 26, slot := 4, constantValue := 0 }, { name := "MAYBE", type := .int, accessFlags := 26, slot := 5, constantValue := 0 }, { name := "allowSecurityManager", type := .int, accessFlags := 10, slot := 6, constantValue := 0 }, { name := "security", type := (.object "java/lang/SecurityManager"), accessFlags := 74, slot := 7, constantValue := 0 }, { name := "notSupportedJnuEncoding", type := (.object "java/lang/String"), accessFlags := 10, slot := 8, constantValue := 0 }, { name := "cons", type := (.object "java/io/Console"), accessFlags := 74, slot := 9, constantValue := 0 }, { name := "initialErrStream", type := (.object "java/io/PrintStream"), accessFlags := 74, slot := 10, constantValue := 0 }, { name := "props", type := (.object "java/util/Properties"), accessFlags := 10, slot := 11, constantValue := 0 }, { name := "lineSeparator", type := (.object "java/lang/String"), accessFlags := 10, slot := 12, constantValue := 0 }, { name := "bootLayer", type := (.object "java/lang/ModuleLayer"), accessFlags := 8, slot := 13, constantValue := 0 }]
  methods := #[k5m0, k5m1]
  instanceTypes := #[]
  staticTypes := #[(.object "java/io/InputStream"), (.object "java/io/PrintStream"), (.object "java/io/PrintStream"), (.object "java/io/InputStream"), .int, .int, .int, (.object "java/lang/SecurityManager"), (.object "java/lang/String"), (.object "java/io/Console"), (.object "java/io/PrintStream"), (.object "java/util/Properties"), (.object "java/lang/String"), (.object "java/lang/ModuleLayer")]
  resolved := Array.replicate 834 none
  statics := none }

def pool6 : Array CpInfo := pool [(1, u "java/lang/Cloneable"), (0, .class_ 1), (0, u "java/lang/Object"), (0, .class_ 3)] 3

/-- java/lang/Cloneable -/
def k6 : Class := { plain "java/lang/Cloneable" (some 0) with
  accessFlags := 1537
  interfaces := #[]
  cf := some (fileOf pool6 2 #[] #[] 1537 4 #[] #[])
  fields := #[]
  methods := #[]
  instanceTypes := #[]
  staticTypes := #[]
  resolved := Array.replicate 8 none
  statics := none }

def pool7 : Array CpInfo := pool [(1, u "java/io/Serializable"), (0, .class_ 1), (0, u "java/lang/Object"), (0, .class_ 3)] 3

/-- java/io/Serializable -/
def k7 : Class := { plain "java/io/Serializable" (some 0) with
  accessFlags := 1537
  interfaces := #[]
  cf := some (fileOf pool7 2 #[] #[] 1537 4 #[] #[])
  fields := #[]
  methods := #[]
  instanceTypes := #[]
  staticTypes := #[]
  resolved := Array.replicate 8 none
  statics := none }

/-- the primitive byte -/
def k8 : Class := { plain "byte" none with kind := .primitive 'B', accessFlags := 0x411 }
/-- [B -/
def k9 : Class := { plain "[B" (some 0) with kind := .array 8 .byte, interfaces := #[6, 7], accessFlags := 1041 }

/-- the primitive int -/
def k10 : Class := { plain "int" none with kind := .primitive 'I', accessFlags := 0x411 }
/-- [I -/
def k11 : Class := { plain "[I" (some 0) with kind := .array 10 .int, interfaces := #[6, 7], accessFlags := 1041 }

def heap : Heap := #[{ cls := 2, slots := #[.int 0, .ref 1], vm := .statics 2 },
  { cls := 11, slots := #[], vm := .none }]
def classes : Array Class := #[k0, k1, k2, k3, k4, k5, k6, k7, k8, k9, k10, k11]
def interned : List (Array UInt16 × Addr) := []
def slotsUsed : Nat := 2
def theMethod : MethodId := ⟨1, 1⟩
def args0 : Array Value := #[.int 5, .int 5, .int 5, .int 5, .int 5, .int 5]
def aboutOver (below : List Frame) : State where
  vm := { classes := classes, interned := interned.toArray }
  heap := heap
  slotsUsed := slotsUsed
  threads := #[{ frames := .invoking theMethod args0 :: below }]
def below0 : List Frame := [.native { method := ⟨0, 0⟩, args := #[] }]
def about1 : State := aboutOver below0
def p0 : Program := .bare "" "" ""
def e0 : Env := launch0.env 0 0 0
theorem w_frames : about1.frames = Frame.invoking theMethod args0 :: below0 := rfl
set_option maxRecDepth 65536 in
theorem w_args : argsFit about1.vm theMethod args0 = true := by decide +kernel
set_option maxRecDepth 65536 in
theorem w_heap : heapFits about1 = true := by decide +kernel
set_option maxRecDepth 65536 in
theorem w_runnable : about1.curStatus? = some .runnable := by decide +kernel
set_option maxRecDepth 65536 in
theorem w_alone : about1.alone = true := by decide +kernel
set_option maxRecDepth 65536 in
theorem w_named : about1.methodNamed? x = some theMethod := by decide +kernel
set_option maxRecDepth 65536 in
theorem w_hears : about1.hears theMethod below0 = true := by decide +kernel
set_option maxRecDepth 65536 in
theorem w_ripe : about1.ripe theMethod args0 below0 = true := by decide +kernel
theorem w_running : about1.status = .running := rfl
set_option maxRecDepth 65536 in
theorem w_room : about1.hasRoom e0.platform room_1 = true :=
  launch0.hasRoom_least _ room_1 (by decide +kernel) (by decide +kernel) (by decide +kernel) (by decide +kernel) (by decide +kernel) (by decide +kernel)
theorem allAtoms_all (ts : List Jvm.Cond) (a : Array Jvm.Value) (st : Jvm.State) : (allAtoms ts).before a st = ts.all (fun c => c.before a st) := by
  induction ts with
  | nil => rfl
  | cons c t ih =>
    show (Jvm.Cond.and c (allAtoms t)).before a st = _
    rw [Jvm.Cond.before_and, ih, List.all_cons]
def words1 : List Jvm.Cond := Jvm.Cond.code x code maxLocals ret :: tables_1
/-- a 'code' word, met by the world's own term for the bytes: nothing is compared byte by byte -/
theorem code_word {y : MethodName} {bytes : ByteArray} {mx : Nat} {rt : Option FieldType} {a : Array Value} {s : State} {m : MethodId} {meth : Method} {c : Code} (h1 : s.methodNamed? y = some m) (h2 : s.vm.method? m = some meth) (h3 : meth.code = some c) (h4 : c.code = bytes)
    (h5 : (c.maxLocals == mx && c.exceptionTable.isEmpty && decide (c.maxStack ≤ mostOperands) && decide (meth.sig.returnType = rt) && !meth.locks && decide (parseMethodDescriptor y.desc = some meth.sig)) = true) : (Jvm.Cond.code y bytes mx rt).before a s = true := by
  simp only [Bool.and_eq_true, beq_iff_eq, Bool.not_eq_true', decide_eq_true_eq] at h5
  obtain ⟨⟨⟨⟨⟨g1, g2⟩, g3⟩, g4⟩, g5⟩, g6⟩ := h5
  simp [Cond.before, Cond.holds, Cond.value, h1, h2, h3, h4, g1, g2, g3, g4, g5, g6]
def isCode : Jvm.Cond → Bool
  | .code _ _ _ _ => true
  | _ => false
theorem all_split {L : List Jvm.Cond} {P : Jvm.Cond → Bool} (h1 : L.all (fun c => isCode c || P c) = true) (h2 : ∀ c ∈ L.filter isCode, P c = true) : L.all P = true := by
  refine List.all_eq_true.mpr fun c hc => ?_
  have h := List.all_eq_true.mp h1 c hc
  rcases Bool.eq_false_or_eq_true (isCode c) with hi | hi
  · exact h2 c (List.mem_filter.mpr ⟨hc, hi⟩)
  · simpa [hi] using h
set_option maxRecDepth 65536 in
theorem w_c0 : (Jvm.Cond.code x code maxLocals ret).before args0 about1 = true := code_word (m := ⟨1, 1⟩) (meth := k1m1) (c := k1c1) (by decide +kernel) rfl rfl rfl (by decide +kernel)
set_option maxRecDepth 65536 in
theorem w_c1 : (Jvm.Cond.code ({ cls := "com/example/orthonorm/orthonorm/sanskrit/Anchors", name := "<init>", desc := "()V" } : Jvm.MethodName) prog_37_method_1_code (1 : Nat) (Option.none : Option Jvm.ClassFile.FieldType)).before args0 about1 = true := code_word (m := ⟨2, 0⟩) (meth := k2m0) (c := k2c0) (by decide +kernel) rfl rfl rfl (by decide +kernel)
set_option maxRecDepth 65536 in
theorem w_c2 : (Jvm.Cond.code ({ cls := "java/lang/Object", name := "<init>", desc := "()V" } : Jvm.MethodName) object_method_1_code (1 : Nat) (Option.none : Option Jvm.ClassFile.FieldType)).before args0 about1 = true := code_word (m := ⟨0, 0⟩) (meth := k0m0) (c := k0c0) (by decide +kernel) rfl rfl rfl (by decide +kernel)
set_option maxRecDepth 65536 in
theorem w_c3 : (Jvm.Cond.code ({ cls := "com/example/orthonorm/orthonorm/sanskrit/Anchors", name := "takeAt", desc := "(I)I" } : Jvm.MethodName) prog_37_method_5_code (2 : Nat) (Option.some Jvm.ClassFile.FieldType.int)).before args0 about1 = true := code_word (m := ⟨2, 4⟩) (meth := k2m4) (c := k2c4) (by decide +kernel) rfl rfl rfl (by decide +kernel)
set_option maxRecDepth 65536 in
theorem w_c4 : (Jvm.Cond.code ({ cls := "com/example/orthonorm/orthonorm/sanskrit/Anchors", name := "nextPlace", desc := "()I" } : Jvm.MethodName) prog_37_method_3_code (1 : Nat) (Option.some Jvm.ClassFile.FieldType.int)).before args0 about1 = true := code_word (m := ⟨2, 2⟩) (meth := k2m2) (c := k2c2) (by decide +kernel) rfl rfl rfl (by decide +kernel)
set_option maxRecDepth 65536 in
theorem w_c5 : (Jvm.Cond.code ({ cls := "com/example/orthonorm/orthonorm/sanskrit/Anchors", name := "add", desc := "(II)V" } : Jvm.MethodName) prog_37_method_2_code (4 : Nat) (Option.none : Option Jvm.ClassFile.FieldType)).before args0 about1 = true := code_word (m := ⟨2, 1⟩) (meth := k2m1) (c := k2c1) (by decide +kernel) rfl rfl rfl (by decide +kernel)
set_option maxRecDepth 65536 in
theorem w_c6 : (Jvm.Cond.code ({ cls := "java/lang/Math", name := "max", desc := "(II)I" } : Jvm.MethodName) jdk_29_method_65_code (2 : Nat) (Option.some Jvm.ClassFile.FieldType.int)).before args0 about1 = true := code_word (m := ⟨3, 1⟩) (meth := k3m1) (c := k3c1) (by decide +kernel) rfl rfl rfl (by decide +kernel)
set_option maxRecDepth 65536 in
theorem w_c7 : (Jvm.Cond.code ({ cls := "java/util/Arrays", name := "copyOf", desc := "([II)[I" } : Jvm.MethodName) jdk_65_method_123_code (3 : Nat) (Option.some (Jvm.ClassFile.FieldType.array Jvm.ClassFile.FieldType.int))).before args0 about1 = true := code_word (m := ⟨4, 1⟩) (meth := k4m1) (c := k4c1) (by decide +kernel) rfl rfl rfl (by decide +kernel)
set_option maxRecDepth 65536 in
theorem w_c8 : (Jvm.Cond.code ({ cls := "java/lang/Math", name := "min", desc := "(II)I" } : Jvm.MethodName) jdk_29_method_69_code (2 : Nat) (Option.some Jvm.ClassFile.FieldType.int)).before args0 about1 = true := code_word (m := ⟨3, 2⟩) (meth := k3m2) (c := k3c2) (by decide +kernel) rfl rfl rfl (by decide +kernel)
set_option maxRecDepth 65536 in
theorem w_c9 : (Jvm.Cond.code ({ cls := "com/example/orthonorm/orthonorm/sanskrit/Anchors", name := "take", desc := "()I" } : Jvm.MethodName) prog_37_method_4_code (1 : Nat) (Option.some Jvm.ClassFile.FieldType.int)).before args0 about1 = true := code_word (m := ⟨2, 3⟩) (meth := k2m3) (c := k2c3) (by decide +kernel) rfl rfl rfl (by decide +kernel)
def codes1 : List Jvm.Cond := [Jvm.Cond.code x code maxLocals ret, Jvm.Cond.code ({ cls := "com/example/orthonorm/orthonorm/sanskrit/Anchors", name := "<init>", desc := "()V" } : Jvm.MethodName) prog_37_method_1_code (1 : Nat) (Option.none : Option Jvm.ClassFile.FieldType), Jvm.Cond.code ({ cls := "java/lang/Object", name := "<init>", desc := "()V" } : Jvm.MethodName) object_method_1_code (1 : Nat) (Option.none : Option Jvm.ClassFile.FieldType), Jvm.Cond.code ({ cls := "com/example/orthonorm/orthonorm/sanskrit/Anchors", name := "takeAt", desc := "(I)I" } : Jvm.MethodName) prog_37_method_5_code (2 : Nat) (Option.some Jvm.ClassFile.FieldType.int), Jvm.Cond.code ({ cls := "com/example/orthonorm/orthonorm/sanskrit/Anchors", name := "nextPlace", desc := "()I" } : Jvm.MethodName) prog_37_method_3_code (1 : Nat) (Option.some Jvm.ClassFile.FieldType.int), Jvm.Cond.code ({ cls := "com/example/orthonorm/orthonorm/sanskrit/Anchors", name := "add", desc := "(II)V" } : Jvm.MethodName) prog_37_method_2_code (4 : Nat) (Option.none : Option Jvm.ClassFile.FieldType), Jvm.Cond.code ({ cls := "java/lang/Math", name := "max", desc := "(II)I" } : Jvm.MethodName) jdk_29_method_65_code (2 : Nat) (Option.some Jvm.ClassFile.FieldType.int), Jvm.Cond.code ({ cls := "java/util/Arrays", name := "copyOf", desc := "([II)[I" } : Jvm.MethodName) jdk_65_method_123_code (3 : Nat) (Option.some (Jvm.ClassFile.FieldType.array Jvm.ClassFile.FieldType.int)), Jvm.Cond.code ({ cls := "java/lang/Math", name := "min", desc := "(II)I" } : Jvm.MethodName) jdk_29_method_69_code (2 : Nat) (Option.some Jvm.ClassFile.FieldType.int), Jvm.Cond.code ({ cls := "com/example/orthonorm/orthonorm/sanskrit/Anchors", name := "take", desc := "()I" } : Jvm.MethodName) prog_37_method_4_code (1 : Nat) (Option.some Jvm.ClassFile.FieldType.int)]
set_option maxRecDepth 65536 in
theorem codes_eq : words1.filter isCode = codes1 := rfl
theorem w_codes : ∀ c ∈ words1.filter isCode, c.before args0 about1 = true := by
  rw [codes_eq]
  intro c hc
  simp only [codes1, List.mem_cons, List.not_mem_nil, or_false] at hc
  rcases hc with rfl | rfl | rfl | rfl | rfl | rfl | rfl | rfl | rfl | rfl
  · exact w_c0
  · exact w_c1
  · exact w_c2
  · exact w_c3
  · exact w_c4
  · exact w_c5
  · exact w_c6
  · exact w_c7
  · exact w_c8
  · exact w_c9
set_option maxRecDepth 65536 in
theorem w_t1 : (words1.take 24).all (fun c => isCode c || c.before args0 about1) = true := by decide +kernel
set_option maxRecDepth 65536 in
theorem w_t2 : ((words1.drop 24).take 24).all (fun c => isCode c || c.before args0 about1) = true := by decide +kernel
set_option maxRecDepth 65536 in
theorem w_t3 : ((words1.drop 24).drop 24).all (fun c => isCode c || c.before args0 about1) = true := by decide +kernel
theorem w_tables : (allAtoms (Jvm.Cond.code x code maxLocals ret :: tables_1)).before args0 about1 = true := by
  rw [allAtoms_all]
  show words1.all (fun c => c.before args0 about1) = true
  refine all_split ?_ w_codes
  rw [← List.take_append_drop 24 words1, List.all_append, w_t1, ← List.take_append_drop 24 (words1.drop 24), List.all_append, w_t2, w_t3]
  rfl
set_option maxRecDepth 65536 in
theorem w_case : (Jvm.Cond.and given_1 narrow_1).before args0 about1 = true := by decide +kernel
theorem w_applies : (headSpec (Jvm.Cond.code x code maxLocals ret :: tables_1) room_1).applies x e0.platform about1 = true :=
  (Spec.applies_iff w_frames).mpr ⟨w_running, w_runnable, w_alone, w_named, w_hears, w_ripe, w_room, w_tables⟩
theorem atStart : AtStart classFile x code maxLocals ret World_1 tables_1 room_1 Calls_1 rest_1 Pre_1 launch0 p0 e0 about1 theMethod args0 below0 :=
  ⟨lists_1, trivial, launch0.admits_env _ _ _, launch0.least_env, fairChoices_fair.cas, fairChoices_fair.clock, w_frames, w_args, w_heap, w_applies, trivial, trivial, w_case⟩
end start1
theorem witness_1 : WitnessClaimed_1 := ⟨start1.p0, start1.e0, start1.about1, start1.theMethod, start1.args0, start1.below0, start1.atStart⟩
end Jvm.Pilot.@@N@@
