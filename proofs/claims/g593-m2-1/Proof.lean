import JvmDerived
import JvmDerived.Pilot.@@N@@Statement
import JvmDerived.Pilot.@@N@@Code
set_option linter.unusedVariables false
set_option linter.unusedSimpArgs false
namespace Jvm.Pilot.@@N@@
open Jvm Jvm.ClassFile Sem Op Lib Jvm.Free Jvm.Stand Jvm.LawKit Jvm.RoadKit Bundle Jvm.Pilot.@@N@@.Jvm.D
section OwnKit
variable {p : Program} {l : Launch} {e : Env} {R : Room} {s : State} {m : MethodId} {args : Array Value} {below : List Frame} {meth : Method} {c : Code} {T : State} {locs : List Loc} {cells slots : Nat} {Z : State} {a0 : Array Value} {h : Heap} {Qr : Option Value → Heap → List Loc → Prop}
/-- from this frame on the run ends, and Q holds of the end -/
def own_G (tb : Tables) (e : Env) (below : List Frame) (T : State) (f : JFrame) (Qe : Outcome → State → Prop) : Prop := ∃ s₂ o, Steps tb e below (T.setTop f) s₂ ∧ s₂.status = .running ∧ Ended s₂ below o ∧ Qe o s₂
theorem own_pre {tb : Tables} {T' : State} {f f' : JFrame} {Qe : Outcome → State → Prop} (k1 : ∀ t, Steps tb e below (T'.setTop f') t → Steps tb e below (T.setTop f) t) (k2 : own_G tb e below T' f' Qe) : own_G tb e below T f Qe := by
  obtain ⟨s2, o, h1, h2⟩ := k2
  exact ⟨s2, o, k1 _ h1, h2⟩
/-- the end of a body: it returned v with Qr; the frame -/
abbrev own_P (R : Room) (s : State) (Qr : Option Value → Heap → List Loc → Prop) : Outcome → State → Prop := fun o U' => ∃ v L, o = .returned v ∧ Qr v U'.heap L ∧ FrameEnd s o U' L R.cells R.slots
/-- a body's contract -/
abbrev own_C (l : Launch) (y : MethodName) (code : ByteArray) (ml : Nat) (ret : Option FieldType) (ws : List Jvm.Cond) (R : Room) (as : Array Value) (Z : State) (h0 : Heap) (Qr : Option Value → Heap → List Loc → Prop) : Prop :=
  MetFree l y (head1 (Jvm.Cond.code y code ml ret :: ws) R) (fun a U => a = as ∧ Z.Warmed39 U.vm ∧ U.heap = h0) (fun _ _ _ _ _ => True) (fun _ U o U' => ∃ v L, o = .returned v ∧ Qr v U'.heap L ∧ FrameEnd U o U' L R.cells R.slots)
theorem own_enter {y : MethodName} {code : ByteArray} {ml : Nat} {ret : Option FieldType} {ws : List Jvm.Cond} {as : Array Value} {LS : Array Slot} {h0 : Heap} (hp : plainFor y = true) (hef : ∀ m, entryFrame m as ml = mkF m 0 LS [])
    (body : ∀ (p : Program) (e : Env) (s : State) (m : MethodId) (below : List Frame) (meth : Method) (c : Code) (s₁ : State), p.tables.exec = Jvm.exec → c.code = code → c.maxLocals = ml → s.vm.findClass y.cls = some m.cls → meth.name = y.name → meth.sig.returnType = ret → meth.locks = false → Z.Warmed39 s.vm → Stand p l e R s m as below meth c s₁ [] 0 0 → s₁.heap = h0 → s.heap = h0 → own_G p.tables e below s₁ (mkF m 0 LS []) (own_P R s Qr)) : own_C l y code ml ret ws R as Z h0 Qr := by
  refine MetFree.of_bodySF hp hisR ?_
  intro p e s m args below meth c s₁ Bd hml0 hP hK
  obtain ⟨rfl, hZ, hh⟩ := hP
  have e0 : s₁.heap = h0 := by rw [← hh, Bd.state]; rfl
  obtain ⟨s2, o, h1, h2⟩ := body p e s m below meth c s₁ Bd.exec Bd.bytes hml0 (findClass_of_methodNamed Bd.named) (name_of_methodNamed Bd.named Bd.method).1 Bd.returns Bd.notSynchronized hZ (Stand.of_body Bd) e0 hh
  exact ⟨s2, o, castTop (hef m) h1, h2⟩
theorem own_retZ (X : Stand p l e R s m args below meth c T locs cells slots) (hx : p.tables.exec = Jvm.exec) (hlk : meth.locks = false) {pc : Nat} {Ls : Array Slot} {z z' : Int32} {rest : List Value} (hret : meth.sig.returnType = some .boolean) (hd : decode c.code pc = .ok (.ireturn, 1)) (hz : nar .boolean z = z')
    (hQ : Qr (some (.int z')) T.heap locs) (hc : cells ≤ R.cells) (hs : slots ≤ R.slots) : own_G p.tables e below T (mkF m pc Ls (.int z :: rest)) (own_P R s Qr) := by
  subst hz
  obtain ⟨fs, hr, hrun, hended, hW, hsame⟩ := X.leave (v := some (.int (nar .boolean z))) (fun h => by rw [hret] at h; cases h) hlk
  exact ⟨_, _, retN X hx hret (by simp) hd hr, hrun, hended, _, _, rfl, hQ, ⟨_, rfl⟩, hW, hsame.mono hc hs⟩
theorem own_retI (X : Stand p l e R s m args below meth c T locs cells slots) (hx : p.tables.exec = Jvm.exec) (hlk : meth.locks = false) {pc : Nat} {Ls : Array Slot} {z : Int32} {rest : List Value} (hret : meth.sig.returnType = some .int) (hd : decode c.code pc = .ok (.ireturn, 1))
    (hQ : Qr (some (.int z)) T.heap locs) (hc : cells ≤ R.cells) (hs : slots ≤ R.slots) : own_G p.tables e below T (mkF m pc Ls (.int z :: rest)) (own_P R s Qr) := by
  obtain ⟨fs, hr, hrun, hended, hW, hsame⟩ := X.leave (v := some (.int z)) (fun h => by rw [hret] at h; cases h) hlk
  exact ⟨_, _, retOut X hx hret rfl (Or.inl ⟨rfl, Or.inl rfl, _, rfl⟩) hd hr, hrun, hended, _, _, rfl, hQ, ⟨_, rfl⟩, hW, hsame.mono hc hs⟩
theorem own_retR (X : Stand p l e R s m args below meth c T locs cells slots) (hx : p.tables.exec = Jvm.exec) (hlk : meth.locks = false) {pc : Nat} {Ls : Array Slot} {w : Value} {t : FieldType} {rest : List Value} (hret : meth.sig.returnType = some t) (hd : decode c.code pc = .ok (.areturn, 1)) (hn : narrow t w = w) (ht : t.isReference = true) (hw : w.isRef = true)
    (hQ : Qr (some w) T.heap locs) (hc : cells ≤ R.cells) (hs : slots ≤ R.slots) : own_G p.tables e below T (mkF m pc Ls (w :: rest)) (own_P R s Qr) := by
  obtain ⟨fs, hr, hrun, hended, hW, hsame⟩ := X.leave (v := some w) (fun h => by rw [hret] at h; cases h) hlk
  exact ⟨_, _, retOut X hx hret hn (Or.inr (Or.inr (Or.inr (Or.inr ⟨rfl, ht, hw⟩)))) hd hr, hrun, hended, _, _, rfl, hQ, ⟨_, rfl⟩, hW, hsame.mono hc hs⟩
theorem own_ret0 (X : Stand p l e R s m args below meth c T locs cells slots) (hx : p.tables.exec = Jvm.exec) (hlk : meth.locks = false) {pc : Nat} {Ls : Array Slot} (hret : meth.sig.returnType = none) (hd : decode c.code pc = .ok (.return_, 1))
    (hQ : Qr none T.heap locs) (hc : cells ≤ R.cells) (hs : slots ≤ R.slots) : own_G p.tables e below T (mkF m pc Ls []) (own_P R s Qr) := by
  obtain ⟨fs, hr, hrun, hended, hW, hsame⟩ := X.leave (v := none) (fun _ => rfl) hlk
  exact ⟨_, _, X.returnOut hx hret hd hr, hrun, hended, _, _, rfl, hQ, ⟨_, rfl⟩, hW, hsame.mono hc hs⟩
theorem own_callV (X : Stand p l e R s m args below meth c T locs cells slots) (hx : p.tables.exec = Jvm.exec) (hZ : Z.Warmed39 s.vm) (eT : T.heap = h) {own C : String} {index : Nat} {y : MethodName} {bytes : ByteArray} {maxL : Nat} {ret : Option FieldType} {R' : Room} {b : Addr} {Qc : Option Value → Heap → List Loc → Prop}
    (hown : s.vm.findClass own = some m.cls) (w1 : (Jvm.Cond.methodLink own index y).before a0 Z = true) (w2 : (Jvm.Cond.declares y).before a0 Z = true) (w3 : (Jvm.Cond.selects C y y).before a0 Z = true) (w4 : (Jvm.Cond.instanceMethod y).before a0 Z = true) (w5 : (Jvm.Cond.code y bytes maxL ret).before a0 Z = true) (w6 : (Jvm.Cond.initialized y.cls).before a0 Z = true)
    (hy : y.cls ≠ "java/lang/invoke/MethodHandle" ∧ y.cls ≠ "java/lang/invoke/VarHandle") (W : Nat) (argsL rest : List Value) (hM : own_C l y bytes maxL ret [] R' (.ref b :: argsL).toArray Z h Qc) (hf : R'.frames + 1 ≤ R.frames) (hl : W + (maxL + 11) + R'.locals ≤ R.locals) (hc : cells + R'.cells ≤ R.cells) (hs : slots + R'.slots ≤ R.slots)
    (E : Exa Z h b C) {g : JFrame} (hg : g.method = m) (hsize : g.locals.size = c.maxLocals) (hlen : ∀ sig, parseMethodDescriptor y.desc = some sig → argsL.length = sig.parameters.length) (hstack : g.stack = argsL.reverse ++ .ref b :: rest) (hW : 2 * g.monitorRoom + (rest.map fun v => v.category).sum ≤ W) (hd : decode c.code g.pc = .ok (.invokevirtual index, 3)) :
    ∃ (T' : State) (L : List Loc) (v : Option Value), Stand p l e R s m args below meth c T' (locs ++ L) (cells + R'.cells) (slots + R'.slots) ∧ Qc v T'.heap L ∧ ∀ target, Steps p.tables e below (T'.setTop { g with pc := g.pc + 3, stack := v.toList ++ rest }) target → Steps p.tables e below (T.setTop g) target := by
  obtain ⟨cq, kq, qa, qb, qc⟩ := isOf hZ eT E
  obtain ⟨v, _, ⟨T2, L2, k2, n2⟩, -, X2, ⟨Lc, hQ, l2, y2, z2⟩, st⟩ := X.virtualBack hx (y := y) (z := y) hown (mvT hZ w1) (mvT hZ w2) (notFace_of_selects (args := #[]) (mvT hZ w3)) (mvT hZ w3) (mvT hZ w4) hy (backOf (W := W) hM hZ w5 w6 hf hl) qa qc (g := g) hg hsize (Steps.refl _) (argsL := argsL) (rest := rest) hlen hstack hW hd (fun _ _ => ⟨rfl, eT, hc, hs⟩)
  dsimp only [Pt.U, Pt.locs, Pt.cells, Pt.slots] at X2 l2 y2 z2 st hQ
  subst l2 y2 z2
  exact ⟨T2, Lc, v, X2, hQ, fun t k => st.trans k⟩
theorem own_callU (X : Stand p l e R s m args below meth c T locs cells slots) (hx : p.tables.exec = Jvm.exec) (hZ : Z.Warmed39 s.vm) (eT : T.heap = h) {own C owner : String} {index : Nat} {y z : MethodName} {bytes : ByteArray} {maxL : Nat} {ret : Option FieldType} {R' : Room} {b : Addr} {Qc : Option Value → Heap → List Loc → Prop}
    (hown : s.vm.findClass own = some m.cls) (w1 : (Jvm.Cond.methodLink own index z).before a0 Z = true) (w0 : (Jvm.Cond.sameMethod z.cls owner z.name z.desc).before a0 Z = true) (w2 : (Jvm.Cond.declares ⟨owner, z.name, z.desc⟩).before a0 Z = true) (w3 : (Jvm.Cond.selects C z y).before a0 Z = true) (w4 : (Jvm.Cond.instanceMethod y).before a0 Z = true) (w5 : (Jvm.Cond.code y bytes maxL ret).before a0 Z = true) (w6 : (Jvm.Cond.initialized y.cls).before a0 Z = true)
    (hy : owner ≠ "java/lang/invoke/MethodHandle" ∧ owner ≠ "java/lang/invoke/VarHandle") (W : Nat) (argsL rest : List Value) (hM : own_C l y bytes maxL ret [] R' (.ref b :: argsL).toArray Z h Qc) (hf : R'.frames + 1 ≤ R.frames) (hl : W + (maxL + 11) + R'.locals ≤ R.locals) (hc : cells + R'.cells ≤ R.cells) (hs : slots + R'.slots ≤ R.slots)
    (E : Exa Z h b C) {g : JFrame} (hg : g.method = m) (hsize : g.locals.size = c.maxLocals) (hlen : ∀ sig, parseMethodDescriptor z.desc = some sig → argsL.length = sig.parameters.length) (hstack : g.stack = argsL.reverse ++ .ref b :: rest) (hW : 2 * g.monitorRoom + (rest.map fun v => v.category).sum ≤ W) (hd : decode c.code g.pc = .ok (.invokevirtual index, 3)) :
    ∃ (T' : State) (L : List Loc) (v : Option Value), Stand p l e R s m args below meth c T' (locs ++ L) (cells + R'.cells) (slots + R'.slots) ∧ Qc v T'.heap L ∧ ∀ target, Steps p.tables e below (T'.setTop { g with pc := g.pc + 3, stack := v.toList ++ rest }) target → Steps p.tables e below (T.setTop g) target := by
  obtain ⟨cq, kq, qa, qb, qc⟩ := isOf hZ eT E
  obtain ⟨v, _, ⟨T2, L2, k2, n2⟩, -, X2, ⟨Lc, hQ, l2, y2, z2⟩, st⟩ := X.virtualBackUp hx (x := z) (y := y) hown (mvT hZ w1) (mvT hZ w0) (mvT hZ w2) hy (mvT hZ w3) (mvT hZ w4) (backOf (W := W) hM hZ w5 w6 hf hl) qa qc (g := g) hg hsize (Steps.refl _) (argsL := argsL) (rest := rest) hlen hstack hW hd (fun _ _ => ⟨rfl, eT, hc, hs⟩)
  dsimp only [Pt.U, Pt.locs, Pt.cells, Pt.slots] at X2 l2 y2 z2 st hQ
  subst l2 y2 z2
  exact ⟨T2, Lc, v, X2, hQ, fun t k => st.trans k⟩
theorem own_callS (X : Stand p l e R s m args below meth c T locs cells slots) (hx : p.tables.exec = Jvm.exec) (hZ : Z.Warmed39 s.vm) (eT : T.heap = h) {own : String} {index : Nat} {y : MethodName} {bytes : ByteArray} {maxL : Nat} {ret : Option FieldType} {R' : Room} {Qc : Option Value → Heap → List Loc → Prop}
    (hown : s.vm.findClass own = some m.cls) (w1 : (Jvm.Cond.methodLink own index y).before a0 Z = true) (w2 : (Jvm.Cond.static y).before a0 Z = true) (w5 : (Jvm.Cond.code y bytes maxL ret).before a0 Z = true) (w6 : (Jvm.Cond.initialized y.cls).before a0 Z = true)
    (hy : y.cls ≠ "java/lang/invoke/MethodHandle" ∧ y.cls ≠ "java/lang/invoke/VarHandle") (W : Nat) (argsL rest : List Value) (hM : own_C l y bytes maxL ret [] R' argsL.toArray Z h Qc) (hf : R'.frames + 1 ≤ R.frames) (hl : W + (maxL + 11) + R'.locals ≤ R.locals) (hc : cells + R'.cells ≤ R.cells) (hs : slots + R'.slots ≤ R.slots)
    {g : JFrame} (hg : g.method = m) (hsize : g.locals.size = c.maxLocals) (hlen : ∀ sig, parseMethodDescriptor y.desc = some sig → argsL.length = sig.parameters.length) (hstack : g.stack = argsL.reverse ++ rest) (hW : 2 * g.monitorRoom + (rest.map fun v => v.category).sum ≤ W) (hd : decode c.code g.pc = .ok (.invokestatic index, 3)) :
    ∃ (T' : State) (L : List Loc) (v : Option Value), Stand p l e R s m args below meth c T' (locs ++ L) (cells + R'.cells) (slots + R'.slots) ∧ Qc v T'.heap L ∧ ∀ target, Steps p.tables e below (T'.setTop { g with pc := g.pc + 3, stack := v.toList ++ rest }) target → Steps p.tables e below (T.setTop g) target := by
  obtain ⟨v, _, ⟨T2, L2, k2, n2⟩, -, X2, ⟨Lc, hQ, l2, y2, z2⟩, st⟩ := Jvm.LawKit.callS X hx (y := y) hown (mvT hZ w1) (mvT hZ w2) (mvT hZ w6) (mvT hZ w5) hy (backOf (W := W) hM hZ w5 w6 hf hl) (g := g) hg hsize (argsL := argsL) (rest := rest) hlen hstack hW hd (fun _ _ => ⟨rfl, eT, hc, hs⟩)
  dsimp only [Pt.U, Pt.locs, Pt.cells, Pt.slots] at X2 l2 y2 z2 st hQ
  subst l2 y2 z2
  exact ⟨T2, Lc, v, X2, hQ, st⟩
theorem own_callI (X : Stand p l e R s m args below meth c T locs cells slots) (hx : p.tables.exec = Jvm.exec) (hZ : Z.Warmed39 s.vm) (eT : T.heap = h) {own : String} {index : Nat} {y : MethodName} {bytes : ByteArray} {maxL : Nat} {R' : Room} {b : Addr} {Qc : Option Value → Heap → List Loc → Prop} (hy1 : y.name = "<init>")
    (hown : s.vm.findClass own = some m.cls) (w1 : (Jvm.Cond.methodLink own index y).before a0 Z = true) (w4 : (Jvm.Cond.instanceMethod y).before a0 Z = true) (w5 : (Jvm.Cond.code y bytes maxL none).before a0 Z = true) (w6 : (Jvm.Cond.initialized y.cls).before a0 Z = true)
    (hy : y.cls ≠ "java/lang/invoke/MethodHandle" ∧ y.cls ≠ "java/lang/invoke/VarHandle") (W : Nat) (argsL rest : List Value) (hM : own_C l y bytes maxL none [] R' (.ref b :: argsL).toArray Z h Qc) (hf : R'.frames + 1 ≤ R.frames) (hl : W + (maxL + 11) + R'.locals ≤ R.locals) (hc : cells + R'.cells ≤ R.cells) (hs : slots + R'.slots ≤ R.slots)
    {g : JFrame} (hg : g.method = m) (hsize : g.locals.size = c.maxLocals) (hlen : ∀ sig, parseMethodDescriptor y.desc = some sig → argsL.length = sig.parameters.length) (hstack : g.stack = argsL.reverse ++ .ref b :: rest) (hW : 2 * g.monitorRoom + (rest.map fun v => v.category).sum ≤ W) (hd : decode c.code g.pc = .ok (.invokespecial index, 3)) :
    ∃ (T' : State) (L : List Loc) (v : Option Value), Stand p l e R s m args below meth c T' (locs ++ L) (cells + R'.cells) (slots + R'.slots) ∧ Qc v T'.heap L ∧ ∀ target, Steps p.tables e below (T'.setTop { g with pc := g.pc + 3, stack := v.toList ++ rest }) target → Steps p.tables e below (T.setTop g) target := by
  obtain ⟨v, _, ⟨T2, L2, k2, n2⟩, -, X2, ⟨Lc, hQ, l2, y2, z2⟩, st⟩ := X.specialBack hx (y := y) hy1 hown (mvT hZ w1) (mvT hZ w4) (mvT hZ w5) hy (backOf (W := W) hM hZ w5 w6 hf hl) (g := g) hg hsize (Steps.refl _) (a := b) (argsL := argsL) (rest := rest) hlen hstack hW hd (fun _ _ => ⟨rfl, eT, hc, hs⟩)
  dsimp only [Pt.U, Pt.locs, Pt.cells, Pt.slots] at X2 l2 y2 z2 st hQ
  subst l2 y2 z2
  exact ⟨T2, Lc, v, X2, hQ, fun t k => st.trans k⟩
/-- a callee that leaves the heap alone: what it returns -/
abbrev own_Q0 (v : Option Value) (h0 : Heap) : Option Value → Heap → List Loc → Prop := fun v' h' L => v' = v ∧ h' = h0 ∧ L = []
abbrev own_R (f n : Nat) : Room := { frames := f, cells := 0, slots := 0, locals := n }
theorem own_pure {f n : Nat} {v : Option Value} {h0 : Heap} {P : State → Option Value → Prop}
    (q : ∃ (T' : State) (L : List Loc) (v' : Option Value), Stand p l e R s m args below meth c T' (locs ++ L) (cells + (own_R f n).cells) (slots + (own_R f n).slots) ∧ own_Q0 v h0 v' T'.heap L ∧ P T' v') : ∃ T', Stand p l e R s m args below meth c T' locs cells slots ∧ T'.heap = h0 ∧ P T' v := by
  obtain ⟨T', L, v', X, ⟨rfl, hh, rfl⟩, k⟩ := q
  rw [List.append_nil] at X
  exact ⟨T', X, hh, k⟩
theorem own_eqI {ar : Array Value} {first st : State} {o : Option Outcome} {idx : List Nat} {t : Term} {n : Int32} (q : (Jvm.Cond.eq t (.int n)).value ar first o st idx = some true) : t.eval ar first o idx st = some (.int n) := by
  simp only [Jvm.Cond.value, Term.eval] at q
  cases ht : t.eval ar first o idx st with
  | none => simp [ht] at q
  | some x => cases x <;> simp [ht] at q ⊢; exact q
theorem own_eqR {ar : Array Value} {first st : State} {o : Option Outcome} {idx : List Nat} {t u : Term} {b : Addr} (q : (Jvm.Cond.eq t u).value ar first o st idx = some true) (hu : u.eval ar first o idx st = some (.ref b)) : t.eval ar first o idx st = some (.ref b) := by
  cases ht : t.eval ar first o idx st with
  | none => simp [Jvm.Cond.value, ht] at q
  | some x => cases x <;> simp [Jvm.Cond.value, ht, hu] at q ⊢; exact q
theorem own_arrlen {ar : Array Value} {st : State} {t : Term} {a : Addr} {cl : Cell} {ty : FieldType} {n : Int32} (A : Arr st st.heap a cl ty) (ht : t.eval ar st none [] st = some (.ref a)) (hl : (Term.length t).eval ar st none [] st = some (.int n)) : cl.slots.size < 2 ^ 31 ∧ cl.slots.size.toInt32 = n := by
  have ha : st.arrayAt? a = some cl := Arr.fin (Vm.Alike.refl _) A
  by_cases q : cl.slots.size < 2 ^ 31
  · rw [len_f ht ha q] at hl
    exact ⟨q, Value.int.inj (Option.some.inj hl)⟩
  · simp [Term.eval, ht, ha, q] at hl
theorem own_neI {a b : Int32} (q : a ≠ b) : (Value.int a) ≠ (Value.int b) := fun z => q (Value.int.inj z)
end OwnKit

theorem pd_0 : parseMethodDescriptor "()Z" = some ⟨[], some .boolean⟩ := by decide +kernel
theorem pd_1 : parseMethodDescriptor "()I" = some ⟨[], some .int⟩ := by decide +kernel
theorem own_c6 (z : Int32) (q0 : 0 ≤ z.toInt) (q1 : z.toInt < 6) : z = (0 : Int32) ∨ z = (1 : Int32) ∨ z = (2 : Int32) ∨ z = (3 : Int32) ∨ z = (4 : Int32) ∨ z = (5 : Int32) := by
  simp only [← Int32.toInt_inj, show (0 : Int32).toInt = 0 from rfl, show (1 : Int32).toInt = 1 from rfl, show (2 : Int32).toInt = 2 from rfl, show (3 : Int32).toInt = 3 from rfl, show (4 : Int32).toInt = 4 from rfl, show (5 : Int32).toInt = 5 from rfl]
  omega
theorem own_r6 (z : Int32) : (z &&& (2147483647 : Int32)) % (6 : Int32) = (0 : Int32) ∨ (z &&& (2147483647 : Int32)) % (6 : Int32) = (1 : Int32) ∨ (z &&& (2147483647 : Int32)) % (6 : Int32) = (2 : Int32) ∨ (z &&& (2147483647 : Int32)) % (6 : Int32) = (3 : Int32) ∨ (z &&& (2147483647 : Int32)) % (6 : Int32) = (4 : Int32) ∨ (z &&& (2147483647 : Int32)) % (6 : Int32) = (5 : Int32) := by
  have q := c_mask z (2147483647 : Int32) 31 (by decide) (by decide)
  have r := (c_irem (z &&& (2147483647 : Int32)) (6 : Int32) 6 rfl).1 (by omega)
  exact own_c6 _ (by omega) (by omega)
def own_F (Z : State) (h : Heap) (w_NONE w_VALUE w_VALUE_OR_NULL w_RANGE w_TEXT w_ELEMENTS : Addr) : Prop :=
  Sta Z h "com/example/construe/construe/Keyword$Operand" "NONE" "Lcom/example/construe/construe/Keyword$Operand;" (.ref w_NONE) ∧
  Exa Z h w_NONE "com/example/construe/construe/Keyword$Operand" ∧
  Sta Z h "com/example/construe/construe/Keyword$Operand" "VALUE" "Lcom/example/construe/construe/Keyword$Operand;" (.ref w_VALUE) ∧
  Exa Z h w_VALUE "com/example/construe/construe/Keyword$Operand" ∧
  Sta Z h "com/example/construe/construe/Keyword$Operand" "VALUE_OR_NULL" "Lcom/example/construe/construe/Keyword$Operand;" (.ref w_VALUE_OR_NULL) ∧
  Exa Z h w_VALUE_OR_NULL "com/example/construe/construe/Keyword$Operand" ∧
  Sta Z h "com/example/construe/construe/Keyword$Operand" "RANGE" "Lcom/example/construe/construe/Keyword$Operand;" (.ref w_RANGE) ∧
  Exa Z h w_RANGE "com/example/construe/construe/Keyword$Operand" ∧
  Sta Z h "com/example/construe/construe/Keyword$Operand" "TEXT" "Lcom/example/construe/construe/Keyword$Operand;" (.ref w_TEXT) ∧
  Exa Z h w_TEXT "com/example/construe/construe/Keyword$Operand" ∧
  Sta Z h "com/example/construe/construe/Keyword$Operand" "ELEMENTS" "Lcom/example/construe/construe/Keyword$Operand;" (.ref w_ELEMENTS) ∧
  Exa Z h w_ELEMENTS "com/example/construe/construe/Keyword$Operand" ∧
  Fld Z h w_NONE "java/lang/Enum" "ordinal" "I" (.int (0 : Int32)) ∧
  Fld Z h w_VALUE "java/lang/Enum" "ordinal" "I" (.int (1 : Int32)) ∧
  Fld Z h w_VALUE_OR_NULL "java/lang/Enum" "ordinal" "I" (.int (2 : Int32)) ∧
  Fld Z h w_RANGE "java/lang/Enum" "ordinal" "I" (.int (3 : Int32)) ∧
  Fld Z h w_RANGE "com/example/construe/construe/Keyword$Operand" "parameters" "I" (.int (2 : Int32)) ∧
  Fld Z h w_VALUE_OR_NULL "com/example/construe/construe/Keyword$Operand" "parameters" "I" (.int (1 : Int32)) ∧
  Fld Z h w_VALUE "com/example/construe/construe/Keyword$Operand" "parameters" "I" (.int (1 : Int32)) ∧
  Fld Z h w_TEXT "java/lang/Enum" "ordinal" "I" (.int (5 : Int32)) ∧
  Fld Z h w_ELEMENTS "java/lang/Enum" "ordinal" "I" (.int (4 : Int32)) ∧
  Fld Z h w_NONE "com/example/construe/construe/Keyword$Operand" "parameters" "I" (.int (0 : Int32)) ∧
  Fld Z h w_TEXT "com/example/construe/construe/Keyword$Operand" "parameters" "I" (.int (1 : Int32)) ∧
  Fld Z h w_ELEMENTS "com/example/construe/construe/Keyword$Operand" "parameters" "I" (.int (1 : Int32))
theorem d1_0 : decode prog_66_method_7_code 0 = .ok (.aload_n 0, 1) := by decide +kernel
theorem d1_1 : decode prog_66_method_7_code 1 = .ok (.getstatic 7, 3) := by decide +kernel
theorem d1_4 : decode prog_66_method_7_code 4 = .ok (.if_acmp .eq 17, 3) := by decide +kernel
theorem d1_7 : decode prog_66_method_7_code 7 = .ok (.aload_n 0, 1) := by decide +kernel
theorem d1_8 : decode prog_66_method_7_code 8 = .ok (.getstatic 10, 3) := by decide +kernel
theorem d1_11 : decode prog_66_method_7_code 11 = .ok (.if_acmp .eq 10, 3) := by decide +kernel
theorem d1_14 : decode prog_66_method_7_code 14 = .ok (.aload_n 0, 1) := by decide +kernel
theorem d1_15 : decode prog_66_method_7_code 15 = .ok (.getstatic 13, 3) := by decide +kernel
theorem d1_18 : decode prog_66_method_7_code 18 = .ok (.if_acmp .ne 7, 3) := by decide +kernel
theorem d1_25 : decode prog_66_method_7_code 25 = .ok (.iconst 0, 1) := by decide +kernel
theorem d1_26 : decode prog_66_method_7_code 26 = .ok (.ireturn, 1) := by decide +kernel
set_option maxRecDepth 65536 in
set_option maxHeartbeats 40000000 in
theorem own_b1_NONE (l : Launch) (Z : State) (a0 : Array Value) (hw : ∀ d ∈ tables_1, d.before a0 Z = true) (ws : List Jvm.Cond) (w_NONE w_VALUE w_VALUE_OR_NULL w_RANGE w_TEXT w_ELEMENTS : Addr) (h0 : Heap) (F : own_F Z h0 w_NONE w_VALUE w_VALUE_OR_NULL w_RANGE w_TEXT w_ELEMENTS)  :
    own_C l (⟨"com/example/construe/construe/Keyword$Operand", "comparesValues", "()Z"⟩ : MethodName) prog_66_method_7_code 1 (some .boolean) ws (own_R 0 0) #[(.ref w_NONE)] Z h0 (own_Q0 (some (.int (0 : Int32))) h0) := by
  have F0 := F
  obtain ⟨S_NONE, E_NONE, S_VALUE, E_VALUE, S_VALUE_OR_NULL, E_VALUE_OR_NULL, S_RANGE, E_RANGE, S_TEXT, E_TEXT, S_ELEMENTS, E_ELEMENTS, F_ordinal_NONE, F_ordinal_VALUE, F_ordinal_VALUE_OR_NULL, F_ordinal_RANGE, F_parameters_RANGE, F_parameters_VALUE_OR_NULL, F_parameters_VALUE, F_ordinal_TEXT, F_ordinal_ELEMENTS, F_parameters_NONE, F_parameters_TEXT, F_parameters_ELEMENTS⟩ := F
  refine own_enter (LS := #[rv w_NONE]) (plainFor_of_name (by first | (simp [plainName, overriddenIn, x]; done) | decide +kernel)) (fun m => by first | (simp [entryFrame, mkF, argsToLocals, Value.category, maxLocals]; done) | rfl) ?_
  intro p e s m below meth c s₁ hx hby hml hown0 hnm hret hlk hZ X0 e0 hsh
  have hown : s.vm.findClass "com/example/construe/construe/Keyword$Operand" = some m.cls := hown0
  refine own_pre (T' := s₁) (f' := (mkF m 1 #[rv w_NONE] [(.ref w_NONE)])) (fun t k => XS.aloadN X0.here hx rfl (hb hby d1_0) rfl rfl k) ?_
  obtain ⟨T1, X1, e1, st1⟩ := getS2 X0 hx hZ hown (host := "") (Or.inl (hw _ (List.mem_of_getElem? (i := 9) rfl))) Via.refl e0 S_VALUE (g := (mkF m 1 #[rv w_NONE] [(.ref w_NONE)])) rfl (hb hby d1_1)
  refine own_pre (T' := T1) (f' := (mkF m 4 #[rv w_NONE] [(.ref w_VALUE), (.ref w_NONE)])) (fun t k => st1 t k) ?_
  refine own_pre (T' := T1) (f' := (mkF m 7 #[rv w_NONE] [])) (fun t k => Jvm.RoadKit.acmp (g := (mkF m 4 #[rv w_NONE] [(.ref w_VALUE), (.ref w_NONE)])) X1 hx rfl rfl rfl (pc0 := 4) (pc' := 7) (same := false) rfl (hb hby d1_4) rfl (decide_eq_false fun q => (Fld.ne F_ordinal_NONE F_ordinal_VALUE (own_neI (by decide))) (Value.ref.inj q)) (by decide) (by decide) k) ?_
  refine own_pre (T' := T1) (f' := (mkF m 8 #[rv w_NONE] [(.ref w_NONE)])) (fun t k => XS.aloadN X1.here hx rfl (hb hby d1_7) rfl rfl k) ?_
  obtain ⟨T2, X2, e2, st2⟩ := getS2 X1 hx hZ hown (host := "") (Or.inl (hw _ (List.mem_of_getElem? (i := 11) rfl))) Via.refl e1 S_VALUE_OR_NULL (g := (mkF m 8 #[rv w_NONE] [(.ref w_NONE)])) rfl (hb hby d1_8)
  refine own_pre (T' := T2) (f' := (mkF m 11 #[rv w_NONE] [(.ref w_VALUE_OR_NULL), (.ref w_NONE)])) (fun t k => st2 t k) ?_
  refine own_pre (T' := T2) (f' := (mkF m 14 #[rv w_NONE] [])) (fun t k => Jvm.RoadKit.acmp (g := (mkF m 11 #[rv w_NONE] [(.ref w_VALUE_OR_NULL), (.ref w_NONE)])) X2 hx rfl rfl rfl (pc0 := 11) (pc' := 14) (same := false) rfl (hb hby d1_11) rfl (decide_eq_false fun q => (Fld.ne F_ordinal_NONE F_ordinal_VALUE_OR_NULL (own_neI (by decide))) (Value.ref.inj q)) (by decide) (by decide) k) ?_
  refine own_pre (T' := T2) (f' := (mkF m 15 #[rv w_NONE] [(.ref w_NONE)])) (fun t k => XS.aloadN X2.here hx rfl (hb hby d1_14) rfl rfl k) ?_
  obtain ⟨T3, X3, e3, st3⟩ := getS2 X2 hx hZ hown (host := "") (Or.inl (hw _ (List.mem_of_getElem? (i := 13) rfl))) Via.refl e2 S_RANGE (g := (mkF m 15 #[rv w_NONE] [(.ref w_NONE)])) rfl (hb hby d1_15)
  refine own_pre (T' := T3) (f' := (mkF m 18 #[rv w_NONE] [(.ref w_RANGE), (.ref w_NONE)])) (fun t k => st3 t k) ?_
  refine own_pre (T' := T3) (f' := (mkF m 25 #[rv w_NONE] [])) (fun t k => Jvm.RoadKit.acmp (g := (mkF m 18 #[rv w_NONE] [(.ref w_RANGE), (.ref w_NONE)])) X3 hx rfl rfl rfl (pc0 := 18) (pc' := 25) (same := false) rfl (hb hby d1_18) rfl (decide_eq_false fun q => (Fld.ne F_ordinal_NONE F_ordinal_RANGE (own_neI (by decide))) (Value.ref.inj q)) (by decide) (by decide) k) ?_
  refine own_pre (T' := T3) (f' := (mkF m 26 #[rv w_NONE] [(.int (0 : Int32))])) (fun t k => XS.iconst X3.here hx rfl (hb hby d1_25) k) ?_
  exact own_retZ X3 hx hlk hret (hb hby d1_26) rfl (⟨rfl, e3, rfl⟩) (by decide) (by decide)
theorem d2_0 : decode prog_66_method_4_code 0 = .ok (.aload_n 0, 1) := by decide +kernel
theorem d2_1 : decode prog_66_method_4_code 1 = .ok (.getfield 41, 3) := by decide +kernel
theorem d2_4 : decode prog_66_method_4_code 4 = .ok (.ireturn, 1) := by decide +kernel
set_option maxRecDepth 65536 in
set_option maxHeartbeats 40000000 in
theorem own_b2_NONE (l : Launch) (Z : State) (a0 : Array Value) (hw : ∀ d ∈ tables_1, d.before a0 Z = true) (ws : List Jvm.Cond) (w_NONE w_VALUE w_VALUE_OR_NULL w_RANGE w_TEXT w_ELEMENTS : Addr) (h0 : Heap) (F : own_F Z h0 w_NONE w_VALUE w_VALUE_OR_NULL w_RANGE w_TEXT w_ELEMENTS)  :
    own_C l (⟨"com/example/construe/construe/Keyword$Operand", "parameters", "()I"⟩ : MethodName) prog_66_method_4_code 1 (some .int) ws (own_R 0 0) #[(.ref w_NONE)] Z h0 (own_Q0 (some (.int (0 : Int32))) h0) := by
  have F0 := F
  obtain ⟨S_NONE, E_NONE, S_VALUE, E_VALUE, S_VALUE_OR_NULL, E_VALUE_OR_NULL, S_RANGE, E_RANGE, S_TEXT, E_TEXT, S_ELEMENTS, E_ELEMENTS, F_ordinal_NONE, F_ordinal_VALUE, F_ordinal_VALUE_OR_NULL, F_ordinal_RANGE, F_parameters_RANGE, F_parameters_VALUE_OR_NULL, F_parameters_VALUE, F_ordinal_TEXT, F_ordinal_ELEMENTS, F_parameters_NONE, F_parameters_TEXT, F_parameters_ELEMENTS⟩ := F
  refine own_enter (LS := #[rv w_NONE]) (plainFor_of_name (by first | (simp [plainName, overriddenIn, x]; done) | decide +kernel)) (fun m => by first | (simp [entryFrame, mkF, argsToLocals, Value.category, maxLocals]; done) | rfl) ?_
  intro p e s m below meth c s₁ hx hby hml hown0 hnm hret hlk hZ X0 e0 hsh
  have hown : s.vm.findClass "com/example/construe/construe/Keyword$Operand" = some m.cls := hown0
  refine own_pre (T' := s₁) (f' := (mkF m 1 #[rv w_NONE] [(.ref w_NONE)])) (fun t k => XS.aloadN X0.here hx rfl (hb hby d2_0) rfl rfl k) ?_
  obtain ⟨T1, X1, e1, st1⟩ := getF X0 hx hZ hown (host := "") (Or.inl (hw _ (List.mem_of_getElem? (i := 21) rfl))) Via.refl e0 F_parameters_NONE (g := (mkF m 1 #[rv w_NONE] [(.ref w_NONE)])) rfl rfl (hb hby d2_1)
  refine own_pre (T' := T1) (f' := (mkF m 4 #[rv w_NONE] [(.int (0 : Int32))])) (fun t k => st1 t k) ?_
  exact own_retI X1 hx hlk hret (hb hby d2_4) (⟨rfl, e1, rfl⟩) (by decide) (by decide)
theorem d1_21 : decode prog_66_method_7_code 21 = .ok (.iconst 1, 1) := by decide +kernel
theorem d1_22 : decode prog_66_method_7_code 22 = .ok (.goto 4, 3) := by decide +kernel
set_option maxRecDepth 65536 in
set_option maxHeartbeats 40000000 in
theorem own_b1_VALUE (l : Launch) (Z : State) (a0 : Array Value) (hw : ∀ d ∈ tables_1, d.before a0 Z = true) (ws : List Jvm.Cond) (w_NONE w_VALUE w_VALUE_OR_NULL w_RANGE w_TEXT w_ELEMENTS : Addr) (h0 : Heap) (F : own_F Z h0 w_NONE w_VALUE w_VALUE_OR_NULL w_RANGE w_TEXT w_ELEMENTS)  :
    own_C l (⟨"com/example/construe/construe/Keyword$Operand", "comparesValues", "()Z"⟩ : MethodName) prog_66_method_7_code 1 (some .boolean) ws (own_R 0 0) #[(.ref w_VALUE)] Z h0 (own_Q0 (some (.int (1 : Int32))) h0) := by
  have F0 := F
  obtain ⟨S_NONE, E_NONE, S_VALUE, E_VALUE, S_VALUE_OR_NULL, E_VALUE_OR_NULL, S_RANGE, E_RANGE, S_TEXT, E_TEXT, S_ELEMENTS, E_ELEMENTS, F_ordinal_NONE, F_ordinal_VALUE, F_ordinal_VALUE_OR_NULL, F_ordinal_RANGE, F_parameters_RANGE, F_parameters_VALUE_OR_NULL, F_parameters_VALUE, F_ordinal_TEXT, F_ordinal_ELEMENTS, F_parameters_NONE, F_parameters_TEXT, F_parameters_ELEMENTS⟩ := F
  refine own_enter (LS := #[rv w_VALUE]) (plainFor_of_name (by first | (simp [plainName, overriddenIn, x]; done) | decide +kernel)) (fun m => by first | (simp [entryFrame, mkF, argsToLocals, Value.category, maxLocals]; done) | rfl) ?_
  intro p e s m below meth c s₁ hx hby hml hown0 hnm hret hlk hZ X0 e0 hsh
  have hown : s.vm.findClass "com/example/construe/construe/Keyword$Operand" = some m.cls := hown0
  refine own_pre (T' := s₁) (f' := (mkF m 1 #[rv w_VALUE] [(.ref w_VALUE)])) (fun t k => XS.aloadN X0.here hx rfl (hb hby d1_0) rfl rfl k) ?_
  obtain ⟨T1, X1, e1, st1⟩ := getS2 X0 hx hZ hown (host := "") (Or.inl (hw _ (List.mem_of_getElem? (i := 9) rfl))) Via.refl e0 S_VALUE (g := (mkF m 1 #[rv w_VALUE] [(.ref w_VALUE)])) rfl (hb hby d1_1)
  refine own_pre (T' := T1) (f' := (mkF m 4 #[rv w_VALUE] [(.ref w_VALUE), (.ref w_VALUE)])) (fun t k => st1 t k) ?_
  refine own_pre (T' := T1) (f' := (mkF m 21 #[rv w_VALUE] [])) (fun t k => Jvm.RoadKit.acmp (g := (mkF m 4 #[rv w_VALUE] [(.ref w_VALUE), (.ref w_VALUE)])) X1 hx rfl rfl rfl (pc0 := 4) (pc' := 21) (same := true) rfl (hb hby d1_4) rfl (decide_eq_true rfl) (by decide) (by decide) k) ?_
  refine own_pre (T' := T1) (f' := (mkF m 22 #[rv w_VALUE] [(.int (1 : Int32))])) (fun t k => XS.iconst X1.here hx rfl (hb hby d1_21) k) ?_
  refine own_pre (T' := T1) (f' := (mkF m 26 #[rv w_VALUE] [(.int (1 : Int32))])) (fun t k => XS.goto X1.here hx rfl (pc0 := 22) (pc' := 26) rfl (hb hby d1_22) (by decide) (by decide) k) ?_
  exact own_retZ X1 hx hlk hret (hb hby d1_26) rfl (⟨rfl, e1, rfl⟩) (by decide) (by decide)
set_option maxRecDepth 65536 in
set_option maxHeartbeats 40000000 in
theorem own_b2_VALUE (l : Launch) (Z : State) (a0 : Array Value) (hw : ∀ d ∈ tables_1, d.before a0 Z = true) (ws : List Jvm.Cond) (w_NONE w_VALUE w_VALUE_OR_NULL w_RANGE w_TEXT w_ELEMENTS : Addr) (h0 : Heap) (F : own_F Z h0 w_NONE w_VALUE w_VALUE_OR_NULL w_RANGE w_TEXT w_ELEMENTS)  :
    own_C l (⟨"com/example/construe/construe/Keyword$Operand", "parameters", "()I"⟩ : MethodName) prog_66_method_4_code 1 (some .int) ws (own_R 0 0) #[(.ref w_VALUE)] Z h0 (own_Q0 (some (.int (1 : Int32))) h0) := by
  have F0 := F
  obtain ⟨S_NONE, E_NONE, S_VALUE, E_VALUE, S_VALUE_OR_NULL, E_VALUE_OR_NULL, S_RANGE, E_RANGE, S_TEXT, E_TEXT, S_ELEMENTS, E_ELEMENTS, F_ordinal_NONE, F_ordinal_VALUE, F_ordinal_VALUE_OR_NULL, F_ordinal_RANGE, F_parameters_RANGE, F_parameters_VALUE_OR_NULL, F_parameters_VALUE, F_ordinal_TEXT, F_ordinal_ELEMENTS, F_parameters_NONE, F_parameters_TEXT, F_parameters_ELEMENTS⟩ := F
  refine own_enter (LS := #[rv w_VALUE]) (plainFor_of_name (by first | (simp [plainName, overriddenIn, x]; done) | decide +kernel)) (fun m => by first | (simp [entryFrame, mkF, argsToLocals, Value.category, maxLocals]; done) | rfl) ?_
  intro p e s m below meth c s₁ hx hby hml hown0 hnm hret hlk hZ X0 e0 hsh
  have hown : s.vm.findClass "com/example/construe/construe/Keyword$Operand" = some m.cls := hown0
  refine own_pre (T' := s₁) (f' := (mkF m 1 #[rv w_VALUE] [(.ref w_VALUE)])) (fun t k => XS.aloadN X0.here hx rfl (hb hby d2_0) rfl rfl k) ?_
  obtain ⟨T1, X1, e1, st1⟩ := getF X0 hx hZ hown (host := "") (Or.inl (hw _ (List.mem_of_getElem? (i := 21) rfl))) Via.refl e0 F_parameters_VALUE (g := (mkF m 1 #[rv w_VALUE] [(.ref w_VALUE)])) rfl rfl (hb hby d2_1)
  refine own_pre (T' := T1) (f' := (mkF m 4 #[rv w_VALUE] [(.int (1 : Int32))])) (fun t k => st1 t k) ?_
  exact own_retI X1 hx hlk hret (hb hby d2_4) (⟨rfl, e1, rfl⟩) (by decide) (by decide)
set_option maxRecDepth 65536 in
set_option maxHeartbeats 40000000 in
theorem own_b1_VALUE_OR_NULL (l : Launch) (Z : State) (a0 : Array Value) (hw : ∀ d ∈ tables_1, d.before a0 Z = true) (ws : List Jvm.Cond) (w_NONE w_VALUE w_VALUE_OR_NULL w_RANGE w_TEXT w_ELEMENTS : Addr) (h0 : Heap) (F : own_F Z h0 w_NONE w_VALUE w_VALUE_OR_NULL w_RANGE w_TEXT w_ELEMENTS)  :
    own_C l (⟨"com/example/construe/construe/Keyword$Operand", "comparesValues", "()Z"⟩ : MethodName) prog_66_method_7_code 1 (some .boolean) ws (own_R 0 0) #[(.ref w_VALUE_OR_NULL)] Z h0 (own_Q0 (some (.int (1 : Int32))) h0) := by
  have F0 := F
  obtain ⟨S_NONE, E_NONE, S_VALUE, E_VALUE, S_VALUE_OR_NULL, E_VALUE_OR_NULL, S_RANGE, E_RANGE, S_TEXT, E_TEXT, S_ELEMENTS, E_ELEMENTS, F_ordinal_NONE, F_ordinal_VALUE, F_ordinal_VALUE_OR_NULL, F_ordinal_RANGE, F_parameters_RANGE, F_parameters_VALUE_OR_NULL, F_parameters_VALUE, F_ordinal_TEXT, F_ordinal_ELEMENTS, F_parameters_NONE, F_parameters_TEXT, F_parameters_ELEMENTS⟩ := F
  refine own_enter (LS := #[rv w_VALUE_OR_NULL]) (plainFor_of_name (by first | (simp [plainName, overriddenIn, x]; done) | decide +kernel)) (fun m => by first | (simp [entryFrame, mkF, argsToLocals, Value.category, maxLocals]; done) | rfl) ?_
  intro p e s m below meth c s₁ hx hby hml hown0 hnm hret hlk hZ X0 e0 hsh
  have hown : s.vm.findClass "com/example/construe/construe/Keyword$Operand" = some m.cls := hown0
  refine own_pre (T' := s₁) (f' := (mkF m 1 #[rv w_VALUE_OR_NULL] [(.ref w_VALUE_OR_NULL)])) (fun t k => XS.aloadN X0.here hx rfl (hb hby d1_0) rfl rfl k) ?_
  obtain ⟨T1, X1, e1, st1⟩ := getS2 X0 hx hZ hown (host := "") (Or.inl (hw _ (List.mem_of_getElem? (i := 9) rfl))) Via.refl e0 S_VALUE (g := (mkF m 1 #[rv w_VALUE_OR_NULL] [(.ref w_VALUE_OR_NULL)])) rfl (hb hby d1_1)
  refine own_pre (T' := T1) (f' := (mkF m 4 #[rv w_VALUE_OR_NULL] [(.ref w_VALUE), (.ref w_VALUE_OR_NULL)])) (fun t k => st1 t k) ?_
  refine own_pre (T' := T1) (f' := (mkF m 7 #[rv w_VALUE_OR_NULL] [])) (fun t k => Jvm.RoadKit.acmp (g := (mkF m 4 #[rv w_VALUE_OR_NULL] [(.ref w_VALUE), (.ref w_VALUE_OR_NULL)])) X1 hx rfl rfl rfl (pc0 := 4) (pc' := 7) (same := false) rfl (hb hby d1_4) rfl (decide_eq_false fun q => (Fld.ne F_ordinal_VALUE_OR_NULL F_ordinal_VALUE (own_neI (by decide))) (Value.ref.inj q)) (by decide) (by decide) k) ?_
  refine own_pre (T' := T1) (f' := (mkF m 8 #[rv w_VALUE_OR_NULL] [(.ref w_VALUE_OR_NULL)])) (fun t k => XS.aloadN X1.here hx rfl (hb hby d1_7) rfl rfl k) ?_
  obtain ⟨T2, X2, e2, st2⟩ := getS2 X1 hx hZ hown (host := "") (Or.inl (hw _ (List.mem_of_getElem? (i := 11) rfl))) Via.refl e1 S_VALUE_OR_NULL (g := (mkF m 8 #[rv w_VALUE_OR_NULL] [(.ref w_VALUE_OR_NULL)])) rfl (hb hby d1_8)
  refine own_pre (T' := T2) (f' := (mkF m 11 #[rv w_VALUE_OR_NULL] [(.ref w_VALUE_OR_NULL), (.ref w_VALUE_OR_NULL)])) (fun t k => st2 t k) ?_
  refine own_pre (T' := T2) (f' := (mkF m 21 #[rv w_VALUE_OR_NULL] [])) (fun t k => Jvm.RoadKit.acmp (g := (mkF m 11 #[rv w_VALUE_OR_NULL] [(.ref w_VALUE_OR_NULL), (.ref w_VALUE_OR_NULL)])) X2 hx rfl rfl rfl (pc0 := 11) (pc' := 21) (same := true) rfl (hb hby d1_11) rfl (decide_eq_true rfl) (by decide) (by decide) k) ?_
  refine own_pre (T' := T2) (f' := (mkF m 22 #[rv w_VALUE_OR_NULL] [(.int (1 : Int32))])) (fun t k => XS.iconst X2.here hx rfl (hb hby d1_21) k) ?_
  refine own_pre (T' := T2) (f' := (mkF m 26 #[rv w_VALUE_OR_NULL] [(.int (1 : Int32))])) (fun t k => XS.goto X2.here hx rfl (pc0 := 22) (pc' := 26) rfl (hb hby d1_22) (by decide) (by decide) k) ?_
  exact own_retZ X2 hx hlk hret (hb hby d1_26) rfl (⟨rfl, e2, rfl⟩) (by decide) (by decide)
set_option maxRecDepth 65536 in
set_option maxHeartbeats 40000000 in
theorem own_b2_VALUE_OR_NULL (l : Launch) (Z : State) (a0 : Array Value) (hw : ∀ d ∈ tables_1, d.before a0 Z = true) (ws : List Jvm.Cond) (w_NONE w_VALUE w_VALUE_OR_NULL w_RANGE w_TEXT w_ELEMENTS : Addr) (h0 : Heap) (F : own_F Z h0 w_NONE w_VALUE w_VALUE_OR_NULL w_RANGE w_TEXT w_ELEMENTS)  :
    own_C l (⟨"com/example/construe/construe/Keyword$Operand", "parameters", "()I"⟩ : MethodName) prog_66_method_4_code 1 (some .int) ws (own_R 0 0) #[(.ref w_VALUE_OR_NULL)] Z h0 (own_Q0 (some (.int (1 : Int32))) h0) := by
  have F0 := F
  obtain ⟨S_NONE, E_NONE, S_VALUE, E_VALUE, S_VALUE_OR_NULL, E_VALUE_OR_NULL, S_RANGE, E_RANGE, S_TEXT, E_TEXT, S_ELEMENTS, E_ELEMENTS, F_ordinal_NONE, F_ordinal_VALUE, F_ordinal_VALUE_OR_NULL, F_ordinal_RANGE, F_parameters_RANGE, F_parameters_VALUE_OR_NULL, F_parameters_VALUE, F_ordinal_TEXT, F_ordinal_ELEMENTS, F_parameters_NONE, F_parameters_TEXT, F_parameters_ELEMENTS⟩ := F
  refine own_enter (LS := #[rv w_VALUE_OR_NULL]) (plainFor_of_name (by first | (simp [plainName, overriddenIn, x]; done) | decide +kernel)) (fun m => by first | (simp [entryFrame, mkF, argsToLocals, Value.category, maxLocals]; done) | rfl) ?_
  intro p e s m below meth c s₁ hx hby hml hown0 hnm hret hlk hZ X0 e0 hsh
  have hown : s.vm.findClass "com/example/construe/construe/Keyword$Operand" = some m.cls := hown0
  refine own_pre (T' := s₁) (f' := (mkF m 1 #[rv w_VALUE_OR_NULL] [(.ref w_VALUE_OR_NULL)])) (fun t k => XS.aloadN X0.here hx rfl (hb hby d2_0) rfl rfl k) ?_
  obtain ⟨T1, X1, e1, st1⟩ := getF X0 hx hZ hown (host := "") (Or.inl (hw _ (List.mem_of_getElem? (i := 21) rfl))) Via.refl e0 F_parameters_VALUE_OR_NULL (g := (mkF m 1 #[rv w_VALUE_OR_NULL] [(.ref w_VALUE_OR_NULL)])) rfl rfl (hb hby d2_1)
  refine own_pre (T' := T1) (f' := (mkF m 4 #[rv w_VALUE_OR_NULL] [(.int (1 : Int32))])) (fun t k => st1 t k) ?_
  exact own_retI X1 hx hlk hret (hb hby d2_4) (⟨rfl, e1, rfl⟩) (by decide) (by decide)
set_option maxRecDepth 65536 in
set_option maxHeartbeats 40000000 in
theorem own_b1_RANGE (l : Launch) (Z : State) (a0 : Array Value) (hw : ∀ d ∈ tables_1, d.before a0 Z = true) (ws : List Jvm.Cond) (w_NONE w_VALUE w_VALUE_OR_NULL w_RANGE w_TEXT w_ELEMENTS : Addr) (h0 : Heap) (F : own_F Z h0 w_NONE w_VALUE w_VALUE_OR_NULL w_RANGE w_TEXT w_ELEMENTS)  :
    own_C l (⟨"com/example/construe/construe/Keyword$Operand", "comparesValues", "()Z"⟩ : MethodName) prog_66_method_7_code 1 (some .boolean) ws (own_R 0 0) #[(.ref w_RANGE)] Z h0 (own_Q0 (some (.int (1 : Int32))) h0) := by
  have F0 := F
  obtain ⟨S_NONE, E_NONE, S_VALUE, E_VALUE, S_VALUE_OR_NULL, E_VALUE_OR_NULL, S_RANGE, E_RANGE, S_TEXT, E_TEXT, S_ELEMENTS, E_ELEMENTS, F_ordinal_NONE, F_ordinal_VALUE, F_ordinal_VALUE_OR_NULL, F_ordinal_RANGE, F_parameters_RANGE, F_parameters_VALUE_OR_NULL, F_parameters_VALUE, F_ordinal_TEXT, F_ordinal_ELEMENTS, F_parameters_NONE, F_parameters_TEXT, F_parameters_ELEMENTS⟩ := F
  refine own_enter (LS := #[rv w_RANGE]) (plainFor_of_name (by first | (simp [plainName, overriddenIn, x]; done) | decide +kernel)) (fun m => by first | (simp [entryFrame, mkF, argsToLocals, Value.category, maxLocals]; done) | rfl) ?_
  intro p e s m below meth c s₁ hx hby hml hown0 hnm hret hlk hZ X0 e0 hsh
  have hown : s.vm.findClass "com/example/construe/construe/Keyword$Operand" = some m.cls := hown0
  refine own_pre (T' := s₁) (f' := (mkF m 1 #[rv w_RANGE] [(.ref w_RANGE)])) (fun t k => XS.aloadN X0.here hx rfl (hb hby d1_0) rfl rfl k) ?_
  obtain ⟨T1, X1, e1, st1⟩ := getS2 X0 hx hZ hown (host := "") (Or.inl (hw _ (List.mem_of_getElem? (i := 9) rfl))) Via.refl e0 S_VALUE (g := (mkF m 1 #[rv w_RANGE] [(.ref w_RANGE)])) rfl (hb hby d1_1)
  refine own_pre (T' := T1) (f' := (mkF m 4 #[rv w_RANGE] [(.ref w_VALUE), (.ref w_RANGE)])) (fun t k => st1 t k) ?_
  refine own_pre (T' := T1) (f' := (mkF m 7 #[rv w_RANGE] [])) (fun t k => Jvm.RoadKit.acmp (g := (mkF m 4 #[rv w_RANGE] [(.ref w_VALUE), (.ref w_RANGE)])) X1 hx rfl rfl rfl (pc0 := 4) (pc' := 7) (same := false) rfl (hb hby d1_4) rfl (decide_eq_false fun q => (Fld.ne F_ordinal_RANGE F_ordinal_VALUE (own_neI (by decide))) (Value.ref.inj q)) (by decide) (by decide) k) ?_
  refine own_pre (T' := T1) (f' := (mkF m 8 #[rv w_RANGE] [(.ref w_RANGE)])) (fun t k => XS.aloadN X1.here hx rfl (hb hby d1_7) rfl rfl k) ?_
  obtain ⟨T2, X2, e2, st2⟩ := getS2 X1 hx hZ hown (host := "") (Or.inl (hw _ (List.mem_of_getElem? (i := 11) rfl))) Via.refl e1 S_VALUE_OR_NULL (g := (mkF m 8 #[rv w_RANGE] [(.ref w_RANGE)])) rfl (hb hby d1_8)
  refine own_pre (T' := T2) (f' := (mkF m 11 #[rv w_RANGE] [(.ref w_VALUE_OR_NULL), (.ref w_RANGE)])) (fun t k => st2 t k) ?_
  refine own_pre (T' := T2) (f' := (mkF m 14 #[rv w_RANGE] [])) (fun t k => Jvm.RoadKit.acmp (g := (mkF m 11 #[rv w_RANGE] [(.ref w_VALUE_OR_NULL), (.ref w_RANGE)])) X2 hx rfl rfl rfl (pc0 := 11) (pc' := 14) (same := false) rfl (hb hby d1_11) rfl (decide_eq_false fun q => (Fld.ne F_ordinal_RANGE F_ordinal_VALUE_OR_NULL (own_neI (by decide))) (Value.ref.inj q)) (by decide) (by decide) k) ?_
  refine own_pre (T' := T2) (f' := (mkF m 15 #[rv w_RANGE] [(.ref w_RANGE)])) (fun t k => XS.aloadN X2.here hx rfl (hb hby d1_14) rfl rfl k) ?_
  obtain ⟨T3, X3, e3, st3⟩ := getS2 X2 hx hZ hown (host := "") (Or.inl (hw _ (List.mem_of_getElem? (i := 13) rfl))) Via.refl e2 S_RANGE (g := (mkF m 15 #[rv w_RANGE] [(.ref w_RANGE)])) rfl (hb hby d1_15)
  refine own_pre (T' := T3) (f' := (mkF m 18 #[rv w_RANGE] [(.ref w_RANGE), (.ref w_RANGE)])) (fun t k => st3 t k) ?_
  refine own_pre (T' := T3) (f' := (mkF m 21 #[rv w_RANGE] [])) (fun t k => Jvm.RoadKit.acmp (g := (mkF m 18 #[rv w_RANGE] [(.ref w_RANGE), (.ref w_RANGE)])) X3 hx rfl rfl rfl (pc0 := 18) (pc' := 21) (same := true) rfl (hb hby d1_18) rfl (decide_eq_true rfl) (by decide) (by decide) k) ?_
  refine own_pre (T' := T3) (f' := (mkF m 22 #[rv w_RANGE] [(.int (1 : Int32))])) (fun t k => XS.iconst X3.here hx rfl (hb hby d1_21) k) ?_
  refine own_pre (T' := T3) (f' := (mkF m 26 #[rv w_RANGE] [(.int (1 : Int32))])) (fun t k => XS.goto X3.here hx rfl (pc0 := 22) (pc' := 26) rfl (hb hby d1_22) (by decide) (by decide) k) ?_
  exact own_retZ X3 hx hlk hret (hb hby d1_26) rfl (⟨rfl, e3, rfl⟩) (by decide) (by decide)
set_option maxRecDepth 65536 in
set_option maxHeartbeats 40000000 in
theorem own_b2_RANGE (l : Launch) (Z : State) (a0 : Array Value) (hw : ∀ d ∈ tables_1, d.before a0 Z = true) (ws : List Jvm.Cond) (w_NONE w_VALUE w_VALUE_OR_NULL w_RANGE w_TEXT w_ELEMENTS : Addr) (h0 : Heap) (F : own_F Z h0 w_NONE w_VALUE w_VALUE_OR_NULL w_RANGE w_TEXT w_ELEMENTS)  :
    own_C l (⟨"com/example/construe/construe/Keyword$Operand", "parameters", "()I"⟩ : MethodName) prog_66_method_4_code 1 (some .int) ws (own_R 0 0) #[(.ref w_RANGE)] Z h0 (own_Q0 (some (.int (2 : Int32))) h0) := by
  have F0 := F
  obtain ⟨S_NONE, E_NONE, S_VALUE, E_VALUE, S_VALUE_OR_NULL, E_VALUE_OR_NULL, S_RANGE, E_RANGE, S_TEXT, E_TEXT, S_ELEMENTS, E_ELEMENTS, F_ordinal_NONE, F_ordinal_VALUE, F_ordinal_VALUE_OR_NULL, F_ordinal_RANGE, F_parameters_RANGE, F_parameters_VALUE_OR_NULL, F_parameters_VALUE, F_ordinal_TEXT, F_ordinal_ELEMENTS, F_parameters_NONE, F_parameters_TEXT, F_parameters_ELEMENTS⟩ := F
  refine own_enter (LS := #[rv w_RANGE]) (plainFor_of_name (by first | (simp [plainName, overriddenIn, x]; done) | decide +kernel)) (fun m => by first | (simp [entryFrame, mkF, argsToLocals, Value.category, maxLocals]; done) | rfl) ?_
  intro p e s m below meth c s₁ hx hby hml hown0 hnm hret hlk hZ X0 e0 hsh
  have hown : s.vm.findClass "com/example/construe/construe/Keyword$Operand" = some m.cls := hown0
  refine own_pre (T' := s₁) (f' := (mkF m 1 #[rv w_RANGE] [(.ref w_RANGE)])) (fun t k => XS.aloadN X0.here hx rfl (hb hby d2_0) rfl rfl k) ?_
  obtain ⟨T1, X1, e1, st1⟩ := getF X0 hx hZ hown (host := "") (Or.inl (hw _ (List.mem_of_getElem? (i := 21) rfl))) Via.refl e0 F_parameters_RANGE (g := (mkF m 1 #[rv w_RANGE] [(.ref w_RANGE)])) rfl rfl (hb hby d2_1)
  refine own_pre (T' := T1) (f' := (mkF m 4 #[rv w_RANGE] [(.int (2 : Int32))])) (fun t k => st1 t k) ?_
  exact own_retI X1 hx hlk hret (hb hby d2_4) (⟨rfl, e1, rfl⟩) (by decide) (by decide)
set_option maxRecDepth 65536 in
set_option maxHeartbeats 40000000 in
theorem own_b1_TEXT (l : Launch) (Z : State) (a0 : Array Value) (hw : ∀ d ∈ tables_1, d.before a0 Z = true) (ws : List Jvm.Cond) (w_NONE w_VALUE w_VALUE_OR_NULL w_RANGE w_TEXT w_ELEMENTS : Addr) (h0 : Heap) (F : own_F Z h0 w_NONE w_VALUE w_VALUE_OR_NULL w_RANGE w_TEXT w_ELEMENTS)  :
    own_C l (⟨"com/example/construe/construe/Keyword$Operand", "comparesValues", "()Z"⟩ : MethodName) prog_66_method_7_code 1 (some .boolean) ws (own_R 0 0) #[(.ref w_TEXT)] Z h0 (own_Q0 (some (.int (0 : Int32))) h0) := by
  have F0 := F
  obtain ⟨S_NONE, E_NONE, S_VALUE, E_VALUE, S_VALUE_OR_NULL, E_VALUE_OR_NULL, S_RANGE, E_RANGE, S_TEXT, E_TEXT, S_ELEMENTS, E_ELEMENTS, F_ordinal_NONE, F_ordinal_VALUE, F_ordinal_VALUE_OR_NULL, F_ordinal_RANGE, F_parameters_RANGE, F_parameters_VALUE_OR_NULL, F_parameters_VALUE, F_ordinal_TEXT, F_ordinal_ELEMENTS, F_parameters_NONE, F_parameters_TEXT, F_parameters_ELEMENTS⟩ := F
  refine own_enter (LS := #[rv w_TEXT]) (plainFor_of_name (by first | (simp [plainName, overriddenIn, x]; done) | decide +kernel)) (fun m => by first | (simp [entryFrame, mkF, argsToLocals, Value.category, maxLocals]; done) | rfl) ?_
  intro p e s m below meth c s₁ hx hby hml hown0 hnm hret hlk hZ X0 e0 hsh
  have hown : s.vm.findClass "com/example/construe/construe/Keyword$Operand" = some m.cls := hown0
  refine own_pre (T' := s₁) (f' := (mkF m 1 #[rv w_TEXT] [(.ref w_TEXT)])) (fun t k => XS.aloadN X0.here hx rfl (hb hby d1_0) rfl rfl k) ?_
  obtain ⟨T1, X1, e1, st1⟩ := getS2 X0 hx hZ hown (host := "") (Or.inl (hw _ (List.mem_of_getElem? (i := 9) rfl))) Via.refl e0 S_VALUE (g := (mkF m 1 #[rv w_TEXT] [(.ref w_TEXT)])) rfl (hb hby d1_1)
  refine own_pre (T' := T1) (f' := (mkF m 4 #[rv w_TEXT] [(.ref w_VALUE), (.ref w_TEXT)])) (fun t k => st1 t k) ?_
  refine own_pre (T' := T1) (f' := (mkF m 7 #[rv w_TEXT] [])) (fun t k => Jvm.RoadKit.acmp (g := (mkF m 4 #[rv w_TEXT] [(.ref w_VALUE), (.ref w_TEXT)])) X1 hx rfl rfl rfl (pc0 := 4) (pc' := 7) (same := false) rfl (hb hby d1_4) rfl (decide_eq_false fun q => (Fld.ne F_ordinal_TEXT F_ordinal_VALUE (own_neI (by decide))) (Value.ref.inj q)) (by decide) (by decide) k) ?_
  refine own_pre (T' := T1) (f' := (mkF m 8 #[rv w_TEXT] [(.ref w_TEXT)])) (fun t k => XS.aloadN X1.here hx rfl (hb hby d1_7) rfl rfl k) ?_
  obtain ⟨T2, X2, e2, st2⟩ := getS2 X1 hx hZ hown (host := "") (Or.inl (hw _ (List.mem_of_getElem? (i := 11) rfl))) Via.refl e1 S_VALUE_OR_NULL (g := (mkF m 8 #[rv w_TEXT] [(.ref w_TEXT)])) rfl (hb hby d1_8)
  refine own_pre (T' := T2) (f' := (mkF m 11 #[rv w_TEXT] [(.ref w_VALUE_OR_NULL), (.ref w_TEXT)])) (fun t k => st2 t k) ?_
  refine own_pre (T' := T2) (f' := (mkF m 14 #[rv w_TEXT] [])) (fun t k => Jvm.RoadKit.acmp (g := (mkF m 11 #[rv w_TEXT] [(.ref w_VALUE_OR_NULL), (.ref w_TEXT)])) X2 hx rfl rfl rfl (pc0 := 11) (pc' := 14) (same := false) rfl (hb hby d1_11) rfl (decide_eq_false fun q => (Fld.ne F_ordinal_TEXT F_ordinal_VALUE_OR_NULL (own_neI (by decide))) (Value.ref.inj q)) (by decide) (by decide) k) ?_
  refine own_pre (T' := T2) (f' := (mkF m 15 #[rv w_TEXT] [(.ref w_TEXT)])) (fun t k => XS.aloadN X2.here hx rfl (hb hby d1_14) rfl rfl k) ?_
  obtain ⟨T3, X3, e3, st3⟩ := getS2 X2 hx hZ hown (host := "") (Or.inl (hw _ (List.mem_of_getElem? (i := 13) rfl))) Via.refl e2 S_RANGE (g := (mkF m 15 #[rv w_TEXT] [(.ref w_TEXT)])) rfl (hb hby d1_15)
  refine own_pre (T' := T3) (f' := (mkF m 18 #[rv w_TEXT] [(.ref w_RANGE), (.ref w_TEXT)])) (fun t k => st3 t k) ?_
  refine own_pre (T' := T3) (f' := (mkF m 25 #[rv w_TEXT] [])) (fun t k => Jvm.RoadKit.acmp (g := (mkF m 18 #[rv w_TEXT] [(.ref w_RANGE), (.ref w_TEXT)])) X3 hx rfl rfl rfl (pc0 := 18) (pc' := 25) (same := false) rfl (hb hby d1_18) rfl (decide_eq_false fun q => (Fld.ne F_ordinal_TEXT F_ordinal_RANGE (own_neI (by decide))) (Value.ref.inj q)) (by decide) (by decide) k) ?_
  refine own_pre (T' := T3) (f' := (mkF m 26 #[rv w_TEXT] [(.int (0 : Int32))])) (fun t k => XS.iconst X3.here hx rfl (hb hby d1_25) k) ?_
  exact own_retZ X3 hx hlk hret (hb hby d1_26) rfl (⟨rfl, e3, rfl⟩) (by decide) (by decide)
set_option maxRecDepth 65536 in
set_option maxHeartbeats 40000000 in
theorem own_b2_TEXT (l : Launch) (Z : State) (a0 : Array Value) (hw : ∀ d ∈ tables_1, d.before a0 Z = true) (ws : List Jvm.Cond) (w_NONE w_VALUE w_VALUE_OR_NULL w_RANGE w_TEXT w_ELEMENTS : Addr) (h0 : Heap) (F : own_F Z h0 w_NONE w_VALUE w_VALUE_OR_NULL w_RANGE w_TEXT w_ELEMENTS)  :
    own_C l (⟨"com/example/construe/construe/Keyword$Operand", "parameters", "()I"⟩ : MethodName) prog_66_method_4_code 1 (some .int) ws (own_R 0 0) #[(.ref w_TEXT)] Z h0 (own_Q0 (some (.int (1 : Int32))) h0) := by
  have F0 := F
  obtain ⟨S_NONE, E_NONE, S_VALUE, E_VALUE, S_VALUE_OR_NULL, E_VALUE_OR_NULL, S_RANGE, E_RANGE, S_TEXT, E_TEXT, S_ELEMENTS, E_ELEMENTS, F_ordinal_NONE, F_ordinal_VALUE, F_ordinal_VALUE_OR_NULL, F_ordinal_RANGE, F_parameters_RANGE, F_parameters_VALUE_OR_NULL, F_parameters_VALUE, F_ordinal_TEXT, F_ordinal_ELEMENTS, F_parameters_NONE, F_parameters_TEXT, F_parameters_ELEMENTS⟩ := F
  refine own_enter (LS := #[rv w_TEXT]) (plainFor_of_name (by first | (simp [plainName, overriddenIn, x]; done) | decide +kernel)) (fun m => by first | (simp [entryFrame, mkF, argsToLocals, Value.category, maxLocals]; done) | rfl) ?_
  intro p e s m below meth c s₁ hx hby hml hown0 hnm hret hlk hZ X0 e0 hsh
  have hown : s.vm.findClass "com/example/construe/construe/Keyword$Operand" = some m.cls := hown0
  refine own_pre (T' := s₁) (f' := (mkF m 1 #[rv w_TEXT] [(.ref w_TEXT)])) (fun t k => XS.aloadN X0.here hx rfl (hb hby d2_0) rfl rfl k) ?_
  obtain ⟨T1, X1, e1, st1⟩ := getF X0 hx hZ hown (host := "") (Or.inl (hw _ (List.mem_of_getElem? (i := 21) rfl))) Via.refl e0 F_parameters_TEXT (g := (mkF m 1 #[rv w_TEXT] [(.ref w_TEXT)])) rfl rfl (hb hby d2_1)
  refine own_pre (T' := T1) (f' := (mkF m 4 #[rv w_TEXT] [(.int (1 : Int32))])) (fun t k => st1 t k) ?_
  exact own_retI X1 hx hlk hret (hb hby d2_4) (⟨rfl, e1, rfl⟩) (by decide) (by decide)
set_option maxRecDepth 65536 in
set_option maxHeartbeats 40000000 in
theorem own_b1_ELEMENTS (l : Launch) (Z : State) (a0 : Array Value) (hw : ∀ d ∈ tables_1, d.before a0 Z = true) (ws : List Jvm.Cond) (w_NONE w_VALUE w_VALUE_OR_NULL w_RANGE w_TEXT w_ELEMENTS : Addr) (h0 : Heap) (F : own_F Z h0 w_NONE w_VALUE w_VALUE_OR_NULL w_RANGE w_TEXT w_ELEMENTS)  :
    own_C l (⟨"com/example/construe/construe/Keyword$Operand", "comparesValues", "()Z"⟩ : MethodName) prog_66_method_7_code 1 (some .boolean) ws (own_R 0 0) #[(.ref w_ELEMENTS)] Z h0 (own_Q0 (some (.int (0 : Int32))) h0) := by
  have F0 := F
  obtain ⟨S_NONE, E_NONE, S_VALUE, E_VALUE, S_VALUE_OR_NULL, E_VALUE_OR_NULL, S_RANGE, E_RANGE, S_TEXT, E_TEXT, S_ELEMENTS, E_ELEMENTS, F_ordinal_NONE, F_ordinal_VALUE, F_ordinal_VALUE_OR_NULL, F_ordinal_RANGE, F_parameters_RANGE, F_parameters_VALUE_OR_NULL, F_parameters_VALUE, F_ordinal_TEXT, F_ordinal_ELEMENTS, F_parameters_NONE, F_parameters_TEXT, F_parameters_ELEMENTS⟩ := F
  refine own_enter (LS := #[rv w_ELEMENTS]) (plainFor_of_name (by first | (simp [plainName, overriddenIn, x]; done) | decide +kernel)) (fun m => by first | (simp [entryFrame, mkF, argsToLocals, Value.category, maxLocals]; done) | rfl) ?_
  intro p e s m below meth c s₁ hx hby hml hown0 hnm hret hlk hZ X0 e0 hsh
  have hown : s.vm.findClass "com/example/construe/construe/Keyword$Operand" = some m.cls := hown0
  refine own_pre (T' := s₁) (f' := (mkF m 1 #[rv w_ELEMENTS] [(.ref w_ELEMENTS)])) (fun t k => XS.aloadN X0.here hx rfl (hb hby d1_0) rfl rfl k) ?_
  obtain ⟨T1, X1, e1, st1⟩ := getS2 X0 hx hZ hown (host := "") (Or.inl (hw _ (List.mem_of_getElem? (i := 9) rfl))) Via.refl e0 S_VALUE (g := (mkF m 1 #[rv w_ELEMENTS] [(.ref w_ELEMENTS)])) rfl (hb hby d1_1)
  refine own_pre (T' := T1) (f' := (mkF m 4 #[rv w_ELEMENTS] [(.ref w_VALUE), (.ref w_ELEMENTS)])) (fun t k => st1 t k) ?_
  refine own_pre (T' := T1) (f' := (mkF m 7 #[rv w_ELEMENTS] [])) (fun t k => Jvm.RoadKit.acmp (g := (mkF m 4 #[rv w_ELEMENTS] [(.ref w_VALUE), (.ref w_ELEMENTS)])) X1 hx rfl rfl rfl (pc0 := 4) (pc' := 7) (same := false) rfl (hb hby d1_4) rfl (decide_eq_false fun q => (Fld.ne F_ordinal_ELEMENTS F_ordinal_VALUE (own_neI (by decide))) (Value.ref.inj q)) (by decide) (by decide) k) ?_
  refine own_pre (T' := T1) (f' := (mkF m 8 #[rv w_ELEMENTS] [(.ref w_ELEMENTS)])) (fun t k => XS.aloadN X1.here hx rfl (hb hby d1_7) rfl rfl k) ?_
  obtain ⟨T2, X2, e2, st2⟩ := getS2 X1 hx hZ hown (host := "") (Or.inl (hw _ (List.mem_of_getElem? (i := 11) rfl))) Via.refl e1 S_VALUE_OR_NULL (g := (mkF m 8 #[rv w_ELEMENTS] [(.ref w_ELEMENTS)])) rfl (hb hby d1_8)
  refine own_pre (T' := T2) (f' := (mkF m 11 #[rv w_ELEMENTS] [(.ref w_VALUE_OR_NULL), (.ref w_ELEMENTS)])) (fun t k => st2 t k) ?_
  refine own_pre (T' := T2) (f' := (mkF m 14 #[rv w_ELEMENTS] [])) (fun t k => Jvm.RoadKit.acmp (g := (mkF m 11 #[rv w_ELEMENTS] [(.ref w_VALUE_OR_NULL), (.ref w_ELEMENTS)])) X2 hx rfl rfl rfl (pc0 := 11) (pc' := 14) (same := false) rfl (hb hby d1_11) rfl (decide_eq_false fun q => (Fld.ne F_ordinal_ELEMENTS F_ordinal_VALUE_OR_NULL (own_neI (by decide))) (Value.ref.inj q)) (by decide) (by decide) k) ?_
  refine own_pre (T' := T2) (f' := (mkF m 15 #[rv w_ELEMENTS] [(.ref w_ELEMENTS)])) (fun t k => XS.aloadN X2.here hx rfl (hb hby d1_14) rfl rfl k) ?_
  obtain ⟨T3, X3, e3, st3⟩ := getS2 X2 hx hZ hown (host := "") (Or.inl (hw _ (List.mem_of_getElem? (i := 13) rfl))) Via.refl e2 S_RANGE (g := (mkF m 15 #[rv w_ELEMENTS] [(.ref w_ELEMENTS)])) rfl (hb hby d1_15)
  refine own_pre (T' := T3) (f' := (mkF m 18 #[rv w_ELEMENTS] [(.ref w_RANGE), (.ref w_ELEMENTS)])) (fun t k => st3 t k) ?_
  refine own_pre (T' := T3) (f' := (mkF m 25 #[rv w_ELEMENTS] [])) (fun t k => Jvm.RoadKit.acmp (g := (mkF m 18 #[rv w_ELEMENTS] [(.ref w_RANGE), (.ref w_ELEMENTS)])) X3 hx rfl rfl rfl (pc0 := 18) (pc' := 25) (same := false) rfl (hb hby d1_18) rfl (decide_eq_false fun q => (Fld.ne F_ordinal_ELEMENTS F_ordinal_RANGE (own_neI (by decide))) (Value.ref.inj q)) (by decide) (by decide) k) ?_
  refine own_pre (T' := T3) (f' := (mkF m 26 #[rv w_ELEMENTS] [(.int (0 : Int32))])) (fun t k => XS.iconst X3.here hx rfl (hb hby d1_25) k) ?_
  exact own_retZ X3 hx hlk hret (hb hby d1_26) rfl (⟨rfl, e3, rfl⟩) (by decide) (by decide)
set_option maxRecDepth 65536 in
set_option maxHeartbeats 40000000 in
theorem own_b2_ELEMENTS (l : Launch) (Z : State) (a0 : Array Value) (hw : ∀ d ∈ tables_1, d.before a0 Z = true) (ws : List Jvm.Cond) (w_NONE w_VALUE w_VALUE_OR_NULL w_RANGE w_TEXT w_ELEMENTS : Addr) (h0 : Heap) (F : own_F Z h0 w_NONE w_VALUE w_VALUE_OR_NULL w_RANGE w_TEXT w_ELEMENTS)  :
    own_C l (⟨"com/example/construe/construe/Keyword$Operand", "parameters", "()I"⟩ : MethodName) prog_66_method_4_code 1 (some .int) ws (own_R 0 0) #[(.ref w_ELEMENTS)] Z h0 (own_Q0 (some (.int (1 : Int32))) h0) := by
  have F0 := F
  obtain ⟨S_NONE, E_NONE, S_VALUE, E_VALUE, S_VALUE_OR_NULL, E_VALUE_OR_NULL, S_RANGE, E_RANGE, S_TEXT, E_TEXT, S_ELEMENTS, E_ELEMENTS, F_ordinal_NONE, F_ordinal_VALUE, F_ordinal_VALUE_OR_NULL, F_ordinal_RANGE, F_parameters_RANGE, F_parameters_VALUE_OR_NULL, F_parameters_VALUE, F_ordinal_TEXT, F_ordinal_ELEMENTS, F_parameters_NONE, F_parameters_TEXT, F_parameters_ELEMENTS⟩ := F
  refine own_enter (LS := #[rv w_ELEMENTS]) (plainFor_of_name (by first | (simp [plainName, overriddenIn, x]; done) | decide +kernel)) (fun m => by first | (simp [entryFrame, mkF, argsToLocals, Value.category, maxLocals]; done) | rfl) ?_
  intro p e s m below meth c s₁ hx hby hml hown0 hnm hret hlk hZ X0 e0 hsh
  have hown : s.vm.findClass "com/example/construe/construe/Keyword$Operand" = some m.cls := hown0
  refine own_pre (T' := s₁) (f' := (mkF m 1 #[rv w_ELEMENTS] [(.ref w_ELEMENTS)])) (fun t k => XS.aloadN X0.here hx rfl (hb hby d2_0) rfl rfl k) ?_
  obtain ⟨T1, X1, e1, st1⟩ := getF X0 hx hZ hown (host := "") (Or.inl (hw _ (List.mem_of_getElem? (i := 21) rfl))) Via.refl e0 F_parameters_ELEMENTS (g := (mkF m 1 #[rv w_ELEMENTS] [(.ref w_ELEMENTS)])) rfl rfl (hb hby d2_1)
  refine own_pre (T' := T1) (f' := (mkF m 4 #[rv w_ELEMENTS] [(.int (1 : Int32))])) (fun t k => st1 t k) ?_
  exact own_retI X1 hx hlk hret (hb hby d2_4) (⟨rfl, e1, rfl⟩) (by decide) (by decide)
set_option maxRecDepth 65536 in
set_option maxHeartbeats 40000000 in
theorem own_law (l : Launch) (Z : State) (a0 : Array Value) (hw : ∀ d ∈ tables_1, d.before a0 Z = true) (ws : List Jvm.Cond) (w_NONE w_VALUE w_VALUE_OR_NULL w_RANGE w_TEXT w_ELEMENTS : Addr) (h0 : Heap) (F : own_F Z h0 w_NONE w_VALUE w_VALUE_OR_NULL w_RANGE w_TEXT w_ELEMENTS) (p1 : Int32) :
    own_C l x code maxLocals ret ws room_1 #[(.int p1)] Z h0 (fun v _ L => v = some (.int (1 : Int32)) ∧ Fr h0.size L) := by
  have F0 := F
  obtain ⟨S_NONE, E_NONE, S_VALUE, E_VALUE, S_VALUE_OR_NULL, E_VALUE_OR_NULL, S_RANGE, E_RANGE, S_TEXT, E_TEXT, S_ELEMENTS, E_ELEMENTS, F_ordinal_NONE, F_ordinal_VALUE, F_ordinal_VALUE_OR_NULL, F_ordinal_RANGE, F_parameters_RANGE, F_parameters_VALUE_OR_NULL, F_parameters_VALUE, F_ordinal_TEXT, F_ordinal_ELEMENTS, F_parameters_NONE, F_parameters_TEXT, F_parameters_ELEMENTS⟩ := F
  refine own_enter (LS := #[iv p1, .unset, .unset, .unset, .unset]) (plainFor_of_name (by first | (simp [plainName, overriddenIn, x]; done) | decide +kernel)) (fun m => by first | (simp [entryFrame, mkF, argsToLocals, Value.category, maxLocals]; done) | rfl) ?_
  intro p e s m below meth c s₁ hx hby hml hown0 hnm hret hlk hZ X0 e0 hsh
  have hown : s.vm.findClass "com/example/construe/construe/OperandComparesValuesPinLaw" = some m.cls := hown0
  refine own_pre (T' := s₁) (f' := (mkF m 1 #[iv p1, .unset, .unset, .unset, .unset] [(.int p1)])) (fun t k => XS.iloadN X0.here hx rfl (hb hby at_0) rfl k) ?_
  refine own_pre (T' := s₁) (f' := (mkF m 3 #[iv p1, .unset, .unset, .unset, .unset] [(.int (2147483647 : Int32)), (.int p1)])) (fun t k => X0.ldcInt hx hown (mvT hZ (hw _ (List.mem_of_getElem? (i := 0) rfl))) (g := (mkF m 1 #[iv p1, .unset, .unset, .unset, .unset] [(.int p1)])) rfl (hb hby at_1) t k) ?_
  refine own_pre (T' := s₁) (f' := (mkF m 4 #[iv p1, .unset, .unset, .unset, .unset] [(.int (p1 &&& (2147483647 : Int32)))])) (fun t k => XS.iand X0.here hx rfl (hb hby at_3) rfl k) ?_
  refine own_pre (T' := s₁) (f' := (mkF m 6 #[iv p1, .unset, .unset, .unset, .unset] [(.int (6 : Int32)), (.int (p1 &&& (2147483647 : Int32)))])) (fun t k => XS.bipush X0.here hx rfl (hb hby at_4) k) ?_
  refine own_pre (T' := s₁) (f' := (mkF m 7 #[iv p1, .unset, .unset, .unset, .unset] [(.int ((p1 &&& (2147483647 : Int32)) % (6 : Int32)))])) (fun t k => iremM X0 hx rfl (hb hby at_6) rfl (by decide) k) ?_
  rcases own_r6 p1 with hj | hj | hj | hj | hj | hj
  · rw [hj]
    refine own_pre (T' := s₁) (f' := (mkF m 8 #[iv p1, iv (0 : Int32), .unset, .unset, .unset] [])) (fun t k => XS.istoreN X0.here hx rfl (hb hby at_7) rfl (l' := #[iv p1, iv (0 : Int32), .unset, .unset, .unset]) rfl k) ?_
    refine own_pre (T' := s₁) (f' := (mkF m 9 #[iv p1, iv (0 : Int32), .unset, .unset, .unset] [(.int (0 : Int32))])) (fun t k => XS.iloadN X0.here hx rfl (hb hby at_8) rfl k) ?_
    refine own_pre (T' := s₁) (f' := (mkF m 12 #[iv p1, iv (0 : Int32), .unset, .unset, .unset] [])) (fun t k => XS.ifNo X0.here hx rfl (hb hby at_9) rfl ((if0 _ _).trans (teq (by decide : (0 : Int32) = (0 : Int32))).2) k) ?_
    obtain ⟨T1, X1, e1, st1⟩ := getS2 X0 hx hZ hown (host := "") (Or.inl (hw _ (List.mem_of_getElem? (i := 1) rfl))) Via.refl e0 S_NONE (g := (mkF m 12 #[iv p1, iv (0 : Int32), .unset, .unset, .unset] [])) rfl (hb hby at_12)
    refine own_pre (T' := T1) (f' := (mkF m 15 #[iv p1, iv (0 : Int32), .unset, .unset, .unset] [(.ref w_NONE)])) (fun t k => st1 t k) ?_
    refine own_pre (T' := T1) (f' := (mkF m 16 #[iv p1, iv (0 : Int32), rv w_NONE, .unset, .unset] [])) (fun t k => XS.astoreN X1.here hx rfl (hb hby at_15) rfl rfl (l' := #[iv p1, iv (0 : Int32), rv w_NONE, .unset, .unset]) rfl k) ?_
    refine own_pre (T' := T1) (f' := (mkF m 17 #[iv p1, iv (0 : Int32), rv w_NONE, .unset, .unset] [(.int (0 : Int32))])) (fun t k => XS.iconst X1.here hx rfl (hb hby at_16) k) ?_
    refine own_pre (T' := T1) (f' := (mkF m 18 #[iv p1, iv (0 : Int32), rv w_NONE, iv (0 : Int32), .unset] [])) (fun t k => XS.istoreN X1.here hx rfl (hb hby at_17) rfl (l' := #[iv p1, iv (0 : Int32), rv w_NONE, iv (0 : Int32), .unset]) rfl k) ?_
    refine own_pre (T' := T1) (f' := (mkF m 83 #[iv p1, iv (0 : Int32), rv w_NONE, iv (0 : Int32), .unset] [])) (fun t k => XS.goto X1.here hx rfl (pc0 := 18) (pc' := 83) rfl (hb hby at_18) (by decide) (by decide) k) ?_
    refine own_pre (T' := T1) (f' := (mkF m 84 #[iv p1, iv (0 : Int32), rv w_NONE, iv (0 : Int32), .unset] [(.ref w_NONE)])) (fun t k => XS.aloadN X1.here hx rfl (hb hby at_83) rfl rfl k) ?_
    obtain ⟨T2, X2, e2, st2⟩ := own_pure (f := 0) (n := 0) (v := (some (.int (0 : Int32)))) (own_callV X1 hx hZ e1 (y := (⟨"com/example/construe/construe/Keyword$Operand", "comparesValues", "()Z"⟩ : MethodName)) hown (hw _ (List.mem_of_getElem? (i := 4) rfl)) (hw _ (List.mem_of_getElem? (i := 5) rfl)) (hw _ (List.mem_of_getElem? (i := 7) rfl)) (hw _ (List.mem_of_getElem? (i := 6) rfl)) (hw _ (List.mem_of_getElem? (i := 8) rfl)) (hw _ (List.mem_of_getElem? (i := 2) rfl)) (by decide) 0 [] [] (own_b1_NONE l Z a0 hw [] w_NONE w_VALUE w_VALUE_OR_NULL w_RANGE w_TEXT w_ELEMENTS h0 F0) (by decide) (by decide) (by decide) (by decide) E_NONE (g := (mkF m 84 #[iv p1, iv (0 : Int32), rv w_NONE, iv (0 : Int32), .unset] [(.ref w_NONE)])) rfl (by rw [hml]; rfl) (lenOf pd_0 rfl) rfl (by show 2 * 0 + _ ≤ _; exact Nat.le_of_eq rfl) (hb hby at_84))
    refine own_pre (T' := T2) (f' := (mkF m 87 #[iv p1, iv (0 : Int32), rv w_NONE, iv (0 : Int32), .unset] [(.int (0 : Int32))])) (fun t k => st2 t k) ?_
    refine own_pre (T' := T2) (f' := (mkF m 89 #[iv p1, iv (0 : Int32), rv w_NONE, iv (0 : Int32), iv (0 : Int32)] [])) (fun t k => XS.istore X2.here hx rfl (hb hby at_87) rfl (l' := #[iv p1, iv (0 : Int32), rv w_NONE, iv (0 : Int32), iv (0 : Int32)]) rfl k) ?_
    refine own_pre (T' := T2) (f' := (mkF m 91 #[iv p1, iv (0 : Int32), rv w_NONE, iv (0 : Int32), iv (0 : Int32)] [(.int (0 : Int32))])) (fun t k => XS.iload X2.here hx rfl (hb hby at_89) rfl k) ?_
    refine own_pre (T' := T2) (f' := (mkF m 92 #[iv p1, iv (0 : Int32), rv w_NONE, iv (0 : Int32), iv (0 : Int32)] [(.int (0 : Int32)), (.int (0 : Int32))])) (fun t k => XS.iloadN X2.here hx rfl (hb hby at_91) rfl k) ?_
    refine own_pre (T' := T2) (f' := (mkF m 95 #[iv p1, iv (0 : Int32), rv w_NONE, iv (0 : Int32), iv (0 : Int32)] [])) (fun t k => XS.icmpNo X2.here hx rfl (hb hby at_92) rfl (teq (by decide : (0 : Int32) = (0 : Int32))).2 k) ?_
    refine own_pre (T' := T2) (f' := (mkF m 97 #[iv p1, iv (0 : Int32), rv w_NONE, iv (0 : Int32), iv (0 : Int32)] [(.int (0 : Int32))])) (fun t k => XS.iload X2.here hx rfl (hb hby at_95) rfl k) ?_
    refine own_pre (T' := T2) (f' := (mkF m 108 #[iv p1, iv (0 : Int32), rv w_NONE, iv (0 : Int32), iv (0 : Int32)] [])) (fun t k => XS.ifYes X2.here hx rfl (pc0 := 97) (pc' := 108) rfl (hb hby at_97) rfl ((if0 _ _).trans (teq (by decide : (0 : Int32) = (0 : Int32))).1) (by decide) (by decide) k) ?_
    refine own_pre (T' := T2) (f' := (mkF m 109 #[iv p1, iv (0 : Int32), rv w_NONE, iv (0 : Int32), iv (0 : Int32)] [(.int (1 : Int32))])) (fun t k => XS.iconst X2.here hx rfl (hb hby at_108) k) ?_
    refine own_pre (T' := T2) (f' := (mkF m 113 #[iv p1, iv (0 : Int32), rv w_NONE, iv (0 : Int32), iv (0 : Int32)] [(.int (1 : Int32))])) (fun t k => XS.goto X2.here hx rfl (pc0 := 109) (pc' := 113) rfl (hb hby at_109) (by decide) (by decide) k) ?_
    exact own_retZ X2 hx hlk hret (hb hby at_113) rfl (⟨rfl, Fr.nil _⟩) (by decide) (by decide)
  · rw [hj]
    refine own_pre (T' := s₁) (f' := (mkF m 8 #[iv p1, iv (1 : Int32), .unset, .unset, .unset] [])) (fun t k => XS.istoreN X0.here hx rfl (hb hby at_7) rfl (l' := #[iv p1, iv (1 : Int32), .unset, .unset, .unset]) rfl k) ?_
    refine own_pre (T' := s₁) (f' := (mkF m 9 #[iv p1, iv (1 : Int32), .unset, .unset, .unset] [(.int (1 : Int32))])) (fun t k => XS.iloadN X0.here hx rfl (hb hby at_8) rfl k) ?_
    refine own_pre (T' := s₁) (f' := (mkF m 21 #[iv p1, iv (1 : Int32), .unset, .unset, .unset] [])) (fun t k => XS.ifYes X0.here hx rfl (pc0 := 9) (pc' := 21) rfl (hb hby at_9) rfl ((if0 _ _).trans (feq (by decide : ¬ ((1 : Int32) = (0 : Int32)))).2) (by decide) (by decide) k) ?_
    refine own_pre (T' := s₁) (f' := (mkF m 22 #[iv p1, iv (1 : Int32), .unset, .unset, .unset] [(.int (1 : Int32))])) (fun t k => XS.iloadN X0.here hx rfl (hb hby at_21) rfl k) ?_
    refine own_pre (T' := s₁) (f' := (mkF m 23 #[iv p1, iv (1 : Int32), .unset, .unset, .unset] [(.int (1 : Int32)), (.int (1 : Int32))])) (fun t k => XS.iconst X0.here hx rfl (hb hby at_22) k) ?_
    refine own_pre (T' := s₁) (f' := (mkF m 26 #[iv p1, iv (1 : Int32), .unset, .unset, .unset] [])) (fun t k => XS.icmpNo X0.here hx rfl (hb hby at_23) rfl (teq (by decide : (1 : Int32) = (1 : Int32))).2 k) ?_
    obtain ⟨T3, X3, e3, st3⟩ := getS2 X0 hx hZ hown (host := "") (Or.inl (hw _ (List.mem_of_getElem? (i := 24) rfl))) Via.refl e0 S_VALUE (g := (mkF m 26 #[iv p1, iv (1 : Int32), .unset, .unset, .unset] [])) rfl (hb hby at_26)
    refine own_pre (T' := T3) (f' := (mkF m 29 #[iv p1, iv (1 : Int32), .unset, .unset, .unset] [(.ref w_VALUE)])) (fun t k => st3 t k) ?_
    refine own_pre (T' := T3) (f' := (mkF m 30 #[iv p1, iv (1 : Int32), rv w_VALUE, .unset, .unset] [])) (fun t k => XS.astoreN X3.here hx rfl (hb hby at_29) rfl rfl (l' := #[iv p1, iv (1 : Int32), rv w_VALUE, .unset, .unset]) rfl k) ?_
    refine own_pre (T' := T3) (f' := (mkF m 31 #[iv p1, iv (1 : Int32), rv w_VALUE, .unset, .unset] [(.int (1 : Int32))])) (fun t k => XS.iconst X3.here hx rfl (hb hby at_30) k) ?_
    refine own_pre (T' := T3) (f' := (mkF m 32 #[iv p1, iv (1 : Int32), rv w_VALUE, iv (1 : Int32), .unset] [])) (fun t k => XS.istoreN X3.here hx rfl (hb hby at_31) rfl (l' := #[iv p1, iv (1 : Int32), rv w_VALUE, iv (1 : Int32), .unset]) rfl k) ?_
    refine own_pre (T' := T3) (f' := (mkF m 83 #[iv p1, iv (1 : Int32), rv w_VALUE, iv (1 : Int32), .unset] [])) (fun t k => XS.goto X3.here hx rfl (pc0 := 32) (pc' := 83) rfl (hb hby at_32) (by decide) (by decide) k) ?_
    refine own_pre (T' := T3) (f' := (mkF m 84 #[iv p1, iv (1 : Int32), rv w_VALUE, iv (1 : Int32), .unset] [(.ref w_VALUE)])) (fun t k => XS.aloadN X3.here hx rfl (hb hby at_83) rfl rfl k) ?_
    obtain ⟨T4, X4, e4, st4⟩ := own_pure (f := 0) (n := 0) (v := (some (.int (1 : Int32)))) (own_callV X3 hx hZ e3 (y := (⟨"com/example/construe/construe/Keyword$Operand", "comparesValues", "()Z"⟩ : MethodName)) hown (hw _ (List.mem_of_getElem? (i := 4) rfl)) (hw _ (List.mem_of_getElem? (i := 5) rfl)) (hw _ (List.mem_of_getElem? (i := 7) rfl)) (hw _ (List.mem_of_getElem? (i := 6) rfl)) (hw _ (List.mem_of_getElem? (i := 8) rfl)) (hw _ (List.mem_of_getElem? (i := 2) rfl)) (by decide) 0 [] [] (own_b1_VALUE l Z a0 hw [] w_NONE w_VALUE w_VALUE_OR_NULL w_RANGE w_TEXT w_ELEMENTS h0 F0) (by decide) (by decide) (by decide) (by decide) E_VALUE (g := (mkF m 84 #[iv p1, iv (1 : Int32), rv w_VALUE, iv (1 : Int32), .unset] [(.ref w_VALUE)])) rfl (by rw [hml]; rfl) (lenOf pd_0 rfl) rfl (by show 2 * 0 + _ ≤ _; exact Nat.le_of_eq rfl) (hb hby at_84))
    refine own_pre (T' := T4) (f' := (mkF m 87 #[iv p1, iv (1 : Int32), rv w_VALUE, iv (1 : Int32), .unset] [(.int (1 : Int32))])) (fun t k => st4 t k) ?_
    refine own_pre (T' := T4) (f' := (mkF m 89 #[iv p1, iv (1 : Int32), rv w_VALUE, iv (1 : Int32), iv (1 : Int32)] [])) (fun t k => XS.istore X4.here hx rfl (hb hby at_87) rfl (l' := #[iv p1, iv (1 : Int32), rv w_VALUE, iv (1 : Int32), iv (1 : Int32)]) rfl k) ?_
    refine own_pre (T' := T4) (f' := (mkF m 91 #[iv p1, iv (1 : Int32), rv w_VALUE, iv (1 : Int32), iv (1 : Int32)] [(.int (1 : Int32))])) (fun t k => XS.iload X4.here hx rfl (hb hby at_89) rfl k) ?_
    refine own_pre (T' := T4) (f' := (mkF m 92 #[iv p1, iv (1 : Int32), rv w_VALUE, iv (1 : Int32), iv (1 : Int32)] [(.int (1 : Int32)), (.int (1 : Int32))])) (fun t k => XS.iloadN X4.here hx rfl (hb hby at_91) rfl k) ?_
    refine own_pre (T' := T4) (f' := (mkF m 95 #[iv p1, iv (1 : Int32), rv w_VALUE, iv (1 : Int32), iv (1 : Int32)] [])) (fun t k => XS.icmpNo X4.here hx rfl (hb hby at_92) rfl (teq (by decide : (1 : Int32) = (1 : Int32))).2 k) ?_
    refine own_pre (T' := T4) (f' := (mkF m 97 #[iv p1, iv (1 : Int32), rv w_VALUE, iv (1 : Int32), iv (1 : Int32)] [(.int (1 : Int32))])) (fun t k => XS.iload X4.here hx rfl (hb hby at_95) rfl k) ?_
    refine own_pre (T' := T4) (f' := (mkF m 100 #[iv p1, iv (1 : Int32), rv w_VALUE, iv (1 : Int32), iv (1 : Int32)] [])) (fun t k => XS.ifNo X4.here hx rfl (hb hby at_97) rfl ((if0 _ _).trans (feq (by decide : ¬ ((1 : Int32) = (0 : Int32)))).1) k) ?_
    refine own_pre (T' := T4) (f' := (mkF m 101 #[iv p1, iv (1 : Int32), rv w_VALUE, iv (1 : Int32), iv (1 : Int32)] [(.ref w_VALUE)])) (fun t k => XS.aloadN X4.here hx rfl (hb hby at_100) rfl rfl k) ?_
    obtain ⟨T5, X5, e5, st5⟩ := own_pure (f := 0) (n := 0) (v := (some (.int (1 : Int32)))) (own_callV X4 hx hZ e4 (y := (⟨"com/example/construe/construe/Keyword$Operand", "parameters", "()I"⟩ : MethodName)) hown (hw _ (List.mem_of_getElem? (i := 16) rfl)) (hw _ (List.mem_of_getElem? (i := 17) rfl)) (hw _ (List.mem_of_getElem? (i := 19) rfl)) (hw _ (List.mem_of_getElem? (i := 18) rfl)) (hw _ (List.mem_of_getElem? (i := 20) rfl)) (hw _ (List.mem_of_getElem? (i := 2) rfl)) (by decide) 0 [] [] (own_b2_VALUE l Z a0 hw [] w_NONE w_VALUE w_VALUE_OR_NULL w_RANGE w_TEXT w_ELEMENTS h0 F0) (by decide) (by decide) (by decide) (by decide) E_VALUE (g := (mkF m 101 #[iv p1, iv (1 : Int32), rv w_VALUE, iv (1 : Int32), iv (1 : Int32)] [(.ref w_VALUE)])) rfl (by rw [hml]; rfl) (lenOf pd_1 rfl) rfl (by show 2 * 0 + _ ≤ _; exact Nat.le_of_eq rfl) (hb hby at_101))
    refine own_pre (T' := T5) (f' := (mkF m 104 #[iv p1, iv (1 : Int32), rv w_VALUE, iv (1 : Int32), iv (1 : Int32)] [(.int (1 : Int32))])) (fun t k => st5 t k) ?_
    refine own_pre (T' := T5) (f' := (mkF m 105 #[iv p1, iv (1 : Int32), rv w_VALUE, iv (1 : Int32), iv (1 : Int32)] [(.int (1 : Int32)), (.int (1 : Int32))])) (fun t k => XS.iconst X5.here hx rfl (hb hby at_104) k) ?_
    refine own_pre (T' := T5) (f' := (mkF m 108 #[iv p1, iv (1 : Int32), rv w_VALUE, iv (1 : Int32), iv (1 : Int32)] [])) (fun t k => XS.icmpNo X5.here hx rfl (hb hby at_105) rfl (flt (by decide : ¬ ((1 : Int32) < (1 : Int32)))).1 k) ?_
    refine own_pre (T' := T5) (f' := (mkF m 109 #[iv p1, iv (1 : Int32), rv w_VALUE, iv (1 : Int32), iv (1 : Int32)] [(.int (1 : Int32))])) (fun t k => XS.iconst X5.here hx rfl (hb hby at_108) k) ?_
    refine own_pre (T' := T5) (f' := (mkF m 113 #[iv p1, iv (1 : Int32), rv w_VALUE, iv (1 : Int32), iv (1 : Int32)] [(.int (1 : Int32))])) (fun t k => XS.goto X5.here hx rfl (pc0 := 109) (pc' := 113) rfl (hb hby at_109) (by decide) (by decide) k) ?_
    exact own_retZ X5 hx hlk hret (hb hby at_113) rfl (⟨rfl, Fr.nil _⟩) (by decide) (by decide)
  · rw [hj]
    refine own_pre (T' := s₁) (f' := (mkF m 8 #[iv p1, iv (2 : Int32), .unset, .unset, .unset] [])) (fun t k => XS.istoreN X0.here hx rfl (hb hby at_7) rfl (l' := #[iv p1, iv (2 : Int32), .unset, .unset, .unset]) rfl k) ?_
    refine own_pre (T' := s₁) (f' := (mkF m 9 #[iv p1, iv (2 : Int32), .unset, .unset, .unset] [(.int (2 : Int32))])) (fun t k => XS.iloadN X0.here hx rfl (hb hby at_8) rfl k) ?_
    refine own_pre (T' := s₁) (f' := (mkF m 21 #[iv p1, iv (2 : Int32), .unset, .unset, .unset] [])) (fun t k => XS.ifYes X0.here hx rfl (pc0 := 9) (pc' := 21) rfl (hb hby at_9) rfl ((if0 _ _).trans (feq (by decide : ¬ ((2 : Int32) = (0 : Int32)))).2) (by decide) (by decide) k) ?_
    refine own_pre (T' := s₁) (f' := (mkF m 22 #[iv p1, iv (2 : Int32), .unset, .unset, .unset] [(.int (2 : Int32))])) (fun t k => XS.iloadN X0.here hx rfl (hb hby at_21) rfl k) ?_
    refine own_pre (T' := s₁) (f' := (mkF m 23 #[iv p1, iv (2 : Int32), .unset, .unset, .unset] [(.int (1 : Int32)), (.int (2 : Int32))])) (fun t k => XS.iconst X0.here hx rfl (hb hby at_22) k) ?_
    refine own_pre (T' := s₁) (f' := (mkF m 35 #[iv p1, iv (2 : Int32), .unset, .unset, .unset] [])) (fun t k => XS.icmpYes X0.here hx rfl (pc0 := 23) (pc' := 35) rfl (hb hby at_23) rfl (feq (by decide : ¬ ((2 : Int32) = (1 : Int32)))).2 (by decide) (by decide) k) ?_
    refine own_pre (T' := s₁) (f' := (mkF m 36 #[iv p1, iv (2 : Int32), .unset, .unset, .unset] [(.int (2 : Int32))])) (fun t k => XS.iloadN X0.here hx rfl (hb hby at_35) rfl k) ?_
    refine own_pre (T' := s₁) (f' := (mkF m 37 #[iv p1, iv (2 : Int32), .unset, .unset, .unset] [(.int (2 : Int32)), (.int (2 : Int32))])) (fun t k => XS.iconst X0.here hx rfl (hb hby at_36) k) ?_
    refine own_pre (T' := s₁) (f' := (mkF m 40 #[iv p1, iv (2 : Int32), .unset, .unset, .unset] [])) (fun t k => XS.icmpNo X0.here hx rfl (hb hby at_37) rfl (teq (by decide : (2 : Int32) = (2 : Int32))).2 k) ?_
    obtain ⟨T6, X6, e6, st6⟩ := getS2 X0 hx hZ hown (host := "") (Or.inl (hw _ (List.mem_of_getElem? (i := 23) rfl))) Via.refl e0 S_VALUE_OR_NULL (g := (mkF m 40 #[iv p1, iv (2 : Int32), .unset, .unset, .unset] [])) rfl (hb hby at_40)
    refine own_pre (T' := T6) (f' := (mkF m 43 #[iv p1, iv (2 : Int32), .unset, .unset, .unset] [(.ref w_VALUE_OR_NULL)])) (fun t k => st6 t k) ?_
    refine own_pre (T' := T6) (f' := (mkF m 44 #[iv p1, iv (2 : Int32), rv w_VALUE_OR_NULL, .unset, .unset] [])) (fun t k => XS.astoreN X6.here hx rfl (hb hby at_43) rfl rfl (l' := #[iv p1, iv (2 : Int32), rv w_VALUE_OR_NULL, .unset, .unset]) rfl k) ?_
    refine own_pre (T' := T6) (f' := (mkF m 45 #[iv p1, iv (2 : Int32), rv w_VALUE_OR_NULL, .unset, .unset] [(.int (1 : Int32))])) (fun t k => XS.iconst X6.here hx rfl (hb hby at_44) k) ?_
    refine own_pre (T' := T6) (f' := (mkF m 46 #[iv p1, iv (2 : Int32), rv w_VALUE_OR_NULL, iv (1 : Int32), .unset] [])) (fun t k => XS.istoreN X6.here hx rfl (hb hby at_45) rfl (l' := #[iv p1, iv (2 : Int32), rv w_VALUE_OR_NULL, iv (1 : Int32), .unset]) rfl k) ?_
    refine own_pre (T' := T6) (f' := (mkF m 83 #[iv p1, iv (2 : Int32), rv w_VALUE_OR_NULL, iv (1 : Int32), .unset] [])) (fun t k => XS.goto X6.here hx rfl (pc0 := 46) (pc' := 83) rfl (hb hby at_46) (by decide) (by decide) k) ?_
    refine own_pre (T' := T6) (f' := (mkF m 84 #[iv p1, iv (2 : Int32), rv w_VALUE_OR_NULL, iv (1 : Int32), .unset] [(.ref w_VALUE_OR_NULL)])) (fun t k => XS.aloadN X6.here hx rfl (hb hby at_83) rfl rfl k) ?_
    obtain ⟨T7, X7, e7, st7⟩ := own_pure (f := 0) (n := 0) (v := (some (.int (1 : Int32)))) (own_callV X6 hx hZ e6 (y := (⟨"com/example/construe/construe/Keyword$Operand", "comparesValues", "()Z"⟩ : MethodName)) hown (hw _ (List.mem_of_getElem? (i := 4) rfl)) (hw _ (List.mem_of_getElem? (i := 5) rfl)) (hw _ (List.mem_of_getElem? (i := 7) rfl)) (hw _ (List.mem_of_getElem? (i := 6) rfl)) (hw _ (List.mem_of_getElem? (i := 8) rfl)) (hw _ (List.mem_of_getElem? (i := 2) rfl)) (by decide) 0 [] [] (own_b1_VALUE_OR_NULL l Z a0 hw [] w_NONE w_VALUE w_VALUE_OR_NULL w_RANGE w_TEXT w_ELEMENTS h0 F0) (by decide) (by decide) (by decide) (by decide) E_VALUE_OR_NULL (g := (mkF m 84 #[iv p1, iv (2 : Int32), rv w_VALUE_OR_NULL, iv (1 : Int32), .unset] [(.ref w_VALUE_OR_NULL)])) rfl (by rw [hml]; rfl) (lenOf pd_0 rfl) rfl (by show 2 * 0 + _ ≤ _; exact Nat.le_of_eq rfl) (hb hby at_84))
    refine own_pre (T' := T7) (f' := (mkF m 87 #[iv p1, iv (2 : Int32), rv w_VALUE_OR_NULL, iv (1 : Int32), .unset] [(.int (1 : Int32))])) (fun t k => st7 t k) ?_
    refine own_pre (T' := T7) (f' := (mkF m 89 #[iv p1, iv (2 : Int32), rv w_VALUE_OR_NULL, iv (1 : Int32), iv (1 : Int32)] [])) (fun t k => XS.istore X7.here hx rfl (hb hby at_87) rfl (l' := #[iv p1, iv (2 : Int32), rv w_VALUE_OR_NULL, iv (1 : Int32), iv (1 : Int32)]) rfl k) ?_
    refine own_pre (T' := T7) (f' := (mkF m 91 #[iv p1, iv (2 : Int32), rv w_VALUE_OR_NULL, iv (1 : Int32), iv (1 : Int32)] [(.int (1 : Int32))])) (fun t k => XS.iload X7.here hx rfl (hb hby at_89) rfl k) ?_
    refine own_pre (T' := T7) (f' := (mkF m 92 #[iv p1, iv (2 : Int32), rv w_VALUE_OR_NULL, iv (1 : Int32), iv (1 : Int32)] [(.int (1 : Int32)), (.int (1 : Int32))])) (fun t k => XS.iloadN X7.here hx rfl (hb hby at_91) rfl k) ?_
    refine own_pre (T' := T7) (f' := (mkF m 95 #[iv p1, iv (2 : Int32), rv w_VALUE_OR_NULL, iv (1 : Int32), iv (1 : Int32)] [])) (fun t k => XS.icmpNo X7.here hx rfl (hb hby at_92) rfl (teq (by decide : (1 : Int32) = (1 : Int32))).2 k) ?_
    refine own_pre (T' := T7) (f' := (mkF m 97 #[iv p1, iv (2 : Int32), rv w_VALUE_OR_NULL, iv (1 : Int32), iv (1 : Int32)] [(.int (1 : Int32))])) (fun t k => XS.iload X7.here hx rfl (hb hby at_95) rfl k) ?_
    refine own_pre (T' := T7) (f' := (mkF m 100 #[iv p1, iv (2 : Int32), rv w_VALUE_OR_NULL, iv (1 : Int32), iv (1 : Int32)] [])) (fun t k => XS.ifNo X7.here hx rfl (hb hby at_97) rfl ((if0 _ _).trans (feq (by decide : ¬ ((1 : Int32) = (0 : Int32)))).1) k) ?_
    refine own_pre (T' := T7) (f' := (mkF m 101 #[iv p1, iv (2 : Int32), rv w_VALUE_OR_NULL, iv (1 : Int32), iv (1 : Int32)] [(.ref w_VALUE_OR_NULL)])) (fun t k => XS.aloadN X7.here hx rfl (hb hby at_100) rfl rfl k) ?_
    obtain ⟨T8, X8, e8, st8⟩ := own_pure (f := 0) (n := 0) (v := (some (.int (1 : Int32)))) (own_callV X7 hx hZ e7 (y := (⟨"com/example/construe/construe/Keyword$Operand", "parameters", "()I"⟩ : MethodName)) hown (hw _ (List.mem_of_getElem? (i := 16) rfl)) (hw _ (List.mem_of_getElem? (i := 17) rfl)) (hw _ (List.mem_of_getElem? (i := 19) rfl)) (hw _ (List.mem_of_getElem? (i := 18) rfl)) (hw _ (List.mem_of_getElem? (i := 20) rfl)) (hw _ (List.mem_of_getElem? (i := 2) rfl)) (by decide) 0 [] [] (own_b2_VALUE_OR_NULL l Z a0 hw [] w_NONE w_VALUE w_VALUE_OR_NULL w_RANGE w_TEXT w_ELEMENTS h0 F0) (by decide) (by decide) (by decide) (by decide) E_VALUE_OR_NULL (g := (mkF m 101 #[iv p1, iv (2 : Int32), rv w_VALUE_OR_NULL, iv (1 : Int32), iv (1 : Int32)] [(.ref w_VALUE_OR_NULL)])) rfl (by rw [hml]; rfl) (lenOf pd_1 rfl) rfl (by show 2 * 0 + _ ≤ _; exact Nat.le_of_eq rfl) (hb hby at_101))
    refine own_pre (T' := T8) (f' := (mkF m 104 #[iv p1, iv (2 : Int32), rv w_VALUE_OR_NULL, iv (1 : Int32), iv (1 : Int32)] [(.int (1 : Int32))])) (fun t k => st8 t k) ?_
    refine own_pre (T' := T8) (f' := (mkF m 105 #[iv p1, iv (2 : Int32), rv w_VALUE_OR_NULL, iv (1 : Int32), iv (1 : Int32)] [(.int (1 : Int32)), (.int (1 : Int32))])) (fun t k => XS.iconst X8.here hx rfl (hb hby at_104) k) ?_
    refine own_pre (T' := T8) (f' := (mkF m 108 #[iv p1, iv (2 : Int32), rv w_VALUE_OR_NULL, iv (1 : Int32), iv (1 : Int32)] [])) (fun t k => XS.icmpNo X8.here hx rfl (hb hby at_105) rfl (flt (by decide : ¬ ((1 : Int32) < (1 : Int32)))).1 k) ?_
    refine own_pre (T' := T8) (f' := (mkF m 109 #[iv p1, iv (2 : Int32), rv w_VALUE_OR_NULL, iv (1 : Int32), iv (1 : Int32)] [(.int (1 : Int32))])) (fun t k => XS.iconst X8.here hx rfl (hb hby at_108) k) ?_
    refine own_pre (T' := T8) (f' := (mkF m 113 #[iv p1, iv (2 : Int32), rv w_VALUE_OR_NULL, iv (1 : Int32), iv (1 : Int32)] [(.int (1 : Int32))])) (fun t k => XS.goto X8.here hx rfl (pc0 := 109) (pc' := 113) rfl (hb hby at_109) (by decide) (by decide) k) ?_
    exact own_retZ X8 hx hlk hret (hb hby at_113) rfl (⟨rfl, Fr.nil _⟩) (by decide) (by decide)
  · rw [hj]
    refine own_pre (T' := s₁) (f' := (mkF m 8 #[iv p1, iv (3 : Int32), .unset, .unset, .unset] [])) (fun t k => XS.istoreN X0.here hx rfl (hb hby at_7) rfl (l' := #[iv p1, iv (3 : Int32), .unset, .unset, .unset]) rfl k) ?_
    refine own_pre (T' := s₁) (f' := (mkF m 9 #[iv p1, iv (3 : Int32), .unset, .unset, .unset] [(.int (3 : Int32))])) (fun t k => XS.iloadN X0.here hx rfl (hb hby at_8) rfl k) ?_
    refine own_pre (T' := s₁) (f' := (mkF m 21 #[iv p1, iv (3 : Int32), .unset, .unset, .unset] [])) (fun t k => XS.ifYes X0.here hx rfl (pc0 := 9) (pc' := 21) rfl (hb hby at_9) rfl ((if0 _ _).trans (feq (by decide : ¬ ((3 : Int32) = (0 : Int32)))).2) (by decide) (by decide) k) ?_
    refine own_pre (T' := s₁) (f' := (mkF m 22 #[iv p1, iv (3 : Int32), .unset, .unset, .unset] [(.int (3 : Int32))])) (fun t k => XS.iloadN X0.here hx rfl (hb hby at_21) rfl k) ?_
    refine own_pre (T' := s₁) (f' := (mkF m 23 #[iv p1, iv (3 : Int32), .unset, .unset, .unset] [(.int (1 : Int32)), (.int (3 : Int32))])) (fun t k => XS.iconst X0.here hx rfl (hb hby at_22) k) ?_
    refine own_pre (T' := s₁) (f' := (mkF m 35 #[iv p1, iv (3 : Int32), .unset, .unset, .unset] [])) (fun t k => XS.icmpYes X0.here hx rfl (pc0 := 23) (pc' := 35) rfl (hb hby at_23) rfl (feq (by decide : ¬ ((3 : Int32) = (1 : Int32)))).2 (by decide) (by decide) k) ?_
    refine own_pre (T' := s₁) (f' := (mkF m 36 #[iv p1, iv (3 : Int32), .unset, .unset, .unset] [(.int (3 : Int32))])) (fun t k => XS.iloadN X0.here hx rfl (hb hby at_35) rfl k) ?_
    refine own_pre (T' := s₁) (f' := (mkF m 37 #[iv p1, iv (3 : Int32), .unset, .unset, .unset] [(.int (2 : Int32)), (.int (3 : Int32))])) (fun t k => XS.iconst X0.here hx rfl (hb hby at_36) k) ?_
    refine own_pre (T' := s₁) (f' := (mkF m 49 #[iv p1, iv (3 : Int32), .unset, .unset, .unset] [])) (fun t k => XS.icmpYes X0.here hx rfl (pc0 := 37) (pc' := 49) rfl (hb hby at_37) rfl (feq (by decide : ¬ ((3 : Int32) = (2 : Int32)))).2 (by decide) (by decide) k) ?_
    refine own_pre (T' := s₁) (f' := (mkF m 50 #[iv p1, iv (3 : Int32), .unset, .unset, .unset] [(.int (3 : Int32))])) (fun t k => XS.iloadN X0.here hx rfl (hb hby at_49) rfl k) ?_
    refine own_pre (T' := s₁) (f' := (mkF m 51 #[iv p1, iv (3 : Int32), .unset, .unset, .unset] [(.int (3 : Int32)), (.int (3 : Int32))])) (fun t k => XS.iconst X0.here hx rfl (hb hby at_50) k) ?_
    refine own_pre (T' := s₁) (f' := (mkF m 54 #[iv p1, iv (3 : Int32), .unset, .unset, .unset] [])) (fun t k => XS.icmpNo X0.here hx rfl (hb hby at_51) rfl (teq (by decide : (3 : Int32) = (3 : Int32))).2 k) ?_
    obtain ⟨T9, X9, e9, st9⟩ := getS2 X0 hx hZ hown (host := "") (Or.inl (hw _ (List.mem_of_getElem? (i := 15) rfl))) Via.refl e0 S_RANGE (g := (mkF m 54 #[iv p1, iv (3 : Int32), .unset, .unset, .unset] [])) rfl (hb hby at_54)
    refine own_pre (T' := T9) (f' := (mkF m 57 #[iv p1, iv (3 : Int32), .unset, .unset, .unset] [(.ref w_RANGE)])) (fun t k => st9 t k) ?_
    refine own_pre (T' := T9) (f' := (mkF m 58 #[iv p1, iv (3 : Int32), rv w_RANGE, .unset, .unset] [])) (fun t k => XS.astoreN X9.here hx rfl (hb hby at_57) rfl rfl (l' := #[iv p1, iv (3 : Int32), rv w_RANGE, .unset, .unset]) rfl k) ?_
    refine own_pre (T' := T9) (f' := (mkF m 59 #[iv p1, iv (3 : Int32), rv w_RANGE, .unset, .unset] [(.int (1 : Int32))])) (fun t k => XS.iconst X9.here hx rfl (hb hby at_58) k) ?_
    refine own_pre (T' := T9) (f' := (mkF m 60 #[iv p1, iv (3 : Int32), rv w_RANGE, iv (1 : Int32), .unset] [])) (fun t k => XS.istoreN X9.here hx rfl (hb hby at_59) rfl (l' := #[iv p1, iv (3 : Int32), rv w_RANGE, iv (1 : Int32), .unset]) rfl k) ?_
    refine own_pre (T' := T9) (f' := (mkF m 83 #[iv p1, iv (3 : Int32), rv w_RANGE, iv (1 : Int32), .unset] [])) (fun t k => XS.goto X9.here hx rfl (pc0 := 60) (pc' := 83) rfl (hb hby at_60) (by decide) (by decide) k) ?_
    refine own_pre (T' := T9) (f' := (mkF m 84 #[iv p1, iv (3 : Int32), rv w_RANGE, iv (1 : Int32), .unset] [(.ref w_RANGE)])) (fun t k => XS.aloadN X9.here hx rfl (hb hby at_83) rfl rfl k) ?_
    obtain ⟨T10, X10, e10, st10⟩ := own_pure (f := 0) (n := 0) (v := (some (.int (1 : Int32)))) (own_callV X9 hx hZ e9 (y := (⟨"com/example/construe/construe/Keyword$Operand", "comparesValues", "()Z"⟩ : MethodName)) hown (hw _ (List.mem_of_getElem? (i := 4) rfl)) (hw _ (List.mem_of_getElem? (i := 5) rfl)) (hw _ (List.mem_of_getElem? (i := 7) rfl)) (hw _ (List.mem_of_getElem? (i := 6) rfl)) (hw _ (List.mem_of_getElem? (i := 8) rfl)) (hw _ (List.mem_of_getElem? (i := 2) rfl)) (by decide) 0 [] [] (own_b1_RANGE l Z a0 hw [] w_NONE w_VALUE w_VALUE_OR_NULL w_RANGE w_TEXT w_ELEMENTS h0 F0) (by decide) (by decide) (by decide) (by decide) E_RANGE (g := (mkF m 84 #[iv p1, iv (3 : Int32), rv w_RANGE, iv (1 : Int32), .unset] [(.ref w_RANGE)])) rfl (by rw [hml]; rfl) (lenOf pd_0 rfl) rfl (by show 2 * 0 + _ ≤ _; exact Nat.le_of_eq rfl) (hb hby at_84))
    refine own_pre (T' := T10) (f' := (mkF m 87 #[iv p1, iv (3 : Int32), rv w_RANGE, iv (1 : Int32), .unset] [(.int (1 : Int32))])) (fun t k => st10 t k) ?_
    refine own_pre (T' := T10) (f' := (mkF m 89 #[iv p1, iv (3 : Int32), rv w_RANGE, iv (1 : Int32), iv (1 : Int32)] [])) (fun t k => XS.istore X10.here hx rfl (hb hby at_87) rfl (l' := #[iv p1, iv (3 : Int32), rv w_RANGE, iv (1 : Int32), iv (1 : Int32)]) rfl k) ?_
    refine own_pre (T' := T10) (f' := (mkF m 91 #[iv p1, iv (3 : Int32), rv w_RANGE, iv (1 : Int32), iv (1 : Int32)] [(.int (1 : Int32))])) (fun t k => XS.iload X10.here hx rfl (hb hby at_89) rfl k) ?_
    refine own_pre (T' := T10) (f' := (mkF m 92 #[iv p1, iv (3 : Int32), rv w_RANGE, iv (1 : Int32), iv (1 : Int32)] [(.int (1 : Int32)), (.int (1 : Int32))])) (fun t k => XS.iloadN X10.here hx rfl (hb hby at_91) rfl k) ?_
    refine own_pre (T' := T10) (f' := (mkF m 95 #[iv p1, iv (3 : Int32), rv w_RANGE, iv (1 : Int32), iv (1 : Int32)] [])) (fun t k => XS.icmpNo X10.here hx rfl (hb hby at_92) rfl (teq (by decide : (1 : Int32) = (1 : Int32))).2 k) ?_
    refine own_pre (T' := T10) (f' := (mkF m 97 #[iv p1, iv (3 : Int32), rv w_RANGE, iv (1 : Int32), iv (1 : Int32)] [(.int (1 : Int32))])) (fun t k => XS.iload X10.here hx rfl (hb hby at_95) rfl k) ?_
    refine own_pre (T' := T10) (f' := (mkF m 100 #[iv p1, iv (3 : Int32), rv w_RANGE, iv (1 : Int32), iv (1 : Int32)] [])) (fun t k => XS.ifNo X10.here hx rfl (hb hby at_97) rfl ((if0 _ _).trans (feq (by decide : ¬ ((1 : Int32) = (0 : Int32)))).1) k) ?_
    refine own_pre (T' := T10) (f' := (mkF m 101 #[iv p1, iv (3 : Int32), rv w_RANGE, iv (1 : Int32), iv (1 : Int32)] [(.ref w_RANGE)])) (fun t k => XS.aloadN X10.here hx rfl (hb hby at_100) rfl rfl k) ?_
    obtain ⟨T11, X11, e11, st11⟩ := own_pure (f := 0) (n := 0) (v := (some (.int (2 : Int32)))) (own_callV X10 hx hZ e10 (y := (⟨"com/example/construe/construe/Keyword$Operand", "parameters", "()I"⟩ : MethodName)) hown (hw _ (List.mem_of_getElem? (i := 16) rfl)) (hw _ (List.mem_of_getElem? (i := 17) rfl)) (hw _ (List.mem_of_getElem? (i := 19) rfl)) (hw _ (List.mem_of_getElem? (i := 18) rfl)) (hw _ (List.mem_of_getElem? (i := 20) rfl)) (hw _ (List.mem_of_getElem? (i := 2) rfl)) (by decide) 0 [] [] (own_b2_RANGE l Z a0 hw [] w_NONE w_VALUE w_VALUE_OR_NULL w_RANGE w_TEXT w_ELEMENTS h0 F0) (by decide) (by decide) (by decide) (by decide) E_RANGE (g := (mkF m 101 #[iv p1, iv (3 : Int32), rv w_RANGE, iv (1 : Int32), iv (1 : Int32)] [(.ref w_RANGE)])) rfl (by rw [hml]; rfl) (lenOf pd_1 rfl) rfl (by show 2 * 0 + _ ≤ _; exact Nat.le_of_eq rfl) (hb hby at_101))
    refine own_pre (T' := T11) (f' := (mkF m 104 #[iv p1, iv (3 : Int32), rv w_RANGE, iv (1 : Int32), iv (1 : Int32)] [(.int (2 : Int32))])) (fun t k => st11 t k) ?_
    refine own_pre (T' := T11) (f' := (mkF m 105 #[iv p1, iv (3 : Int32), rv w_RANGE, iv (1 : Int32), iv (1 : Int32)] [(.int (1 : Int32)), (.int (2 : Int32))])) (fun t k => XS.iconst X11.here hx rfl (hb hby at_104) k) ?_
    refine own_pre (T' := T11) (f' := (mkF m 108 #[iv p1, iv (3 : Int32), rv w_RANGE, iv (1 : Int32), iv (1 : Int32)] [])) (fun t k => XS.icmpNo X11.here hx rfl (hb hby at_105) rfl (flt (by decide : ¬ ((2 : Int32) < (1 : Int32)))).1 k) ?_
    refine own_pre (T' := T11) (f' := (mkF m 109 #[iv p1, iv (3 : Int32), rv w_RANGE, iv (1 : Int32), iv (1 : Int32)] [(.int (1 : Int32))])) (fun t k => XS.iconst X11.here hx rfl (hb hby at_108) k) ?_
    refine own_pre (T' := T11) (f' := (mkF m 113 #[iv p1, iv (3 : Int32), rv w_RANGE, iv (1 : Int32), iv (1 : Int32)] [(.int (1 : Int32))])) (fun t k => XS.goto X11.here hx rfl (pc0 := 109) (pc' := 113) rfl (hb hby at_109) (by decide) (by decide) k) ?_
    exact own_retZ X11 hx hlk hret (hb hby at_113) rfl (⟨rfl, Fr.nil _⟩) (by decide) (by decide)
  · rw [hj]
    refine own_pre (T' := s₁) (f' := (mkF m 8 #[iv p1, iv (4 : Int32), .unset, .unset, .unset] [])) (fun t k => XS.istoreN X0.here hx rfl (hb hby at_7) rfl (l' := #[iv p1, iv (4 : Int32), .unset, .unset, .unset]) rfl k) ?_
    refine own_pre (T' := s₁) (f' := (mkF m 9 #[iv p1, iv (4 : Int32), .unset, .unset, .unset] [(.int (4 : Int32))])) (fun t k => XS.iloadN X0.here hx rfl (hb hby at_8) rfl k) ?_
    refine own_pre (T' := s₁) (f' := (mkF m 21 #[iv p1, iv (4 : Int32), .unset, .unset, .unset] [])) (fun t k => XS.ifYes X0.here hx rfl (pc0 := 9) (pc' := 21) rfl (hb hby at_9) rfl ((if0 _ _).trans (feq (by decide : ¬ ((4 : Int32) = (0 : Int32)))).2) (by decide) (by decide) k) ?_
    refine own_pre (T' := s₁) (f' := (mkF m 22 #[iv p1, iv (4 : Int32), .unset, .unset, .unset] [(.int (4 : Int32))])) (fun t k => XS.iloadN X0.here hx rfl (hb hby at_21) rfl k) ?_
    refine own_pre (T' := s₁) (f' := (mkF m 23 #[iv p1, iv (4 : Int32), .unset, .unset, .unset] [(.int (1 : Int32)), (.int (4 : Int32))])) (fun t k => XS.iconst X0.here hx rfl (hb hby at_22) k) ?_
    refine own_pre (T' := s₁) (f' := (mkF m 35 #[iv p1, iv (4 : Int32), .unset, .unset, .unset] [])) (fun t k => XS.icmpYes X0.here hx rfl (pc0 := 23) (pc' := 35) rfl (hb hby at_23) rfl (feq (by decide : ¬ ((4 : Int32) = (1 : Int32)))).2 (by decide) (by decide) k) ?_
    refine own_pre (T' := s₁) (f' := (mkF m 36 #[iv p1, iv (4 : Int32), .unset, .unset, .unset] [(.int (4 : Int32))])) (fun t k => XS.iloadN X0.here hx rfl (hb hby at_35) rfl k) ?_
    refine own_pre (T' := s₁) (f' := (mkF m 37 #[iv p1, iv (4 : Int32), .unset, .unset, .unset] [(.int (2 : Int32)), (.int (4 : Int32))])) (fun t k => XS.iconst X0.here hx rfl (hb hby at_36) k) ?_
    refine own_pre (T' := s₁) (f' := (mkF m 49 #[iv p1, iv (4 : Int32), .unset, .unset, .unset] [])) (fun t k => XS.icmpYes X0.here hx rfl (pc0 := 37) (pc' := 49) rfl (hb hby at_37) rfl (feq (by decide : ¬ ((4 : Int32) = (2 : Int32)))).2 (by decide) (by decide) k) ?_
    refine own_pre (T' := s₁) (f' := (mkF m 50 #[iv p1, iv (4 : Int32), .unset, .unset, .unset] [(.int (4 : Int32))])) (fun t k => XS.iloadN X0.here hx rfl (hb hby at_49) rfl k) ?_
    refine own_pre (T' := s₁) (f' := (mkF m 51 #[iv p1, iv (4 : Int32), .unset, .unset, .unset] [(.int (3 : Int32)), (.int (4 : Int32))])) (fun t k => XS.iconst X0.here hx rfl (hb hby at_50) k) ?_
    refine own_pre (T' := s₁) (f' := (mkF m 63 #[iv p1, iv (4 : Int32), .unset, .unset, .unset] [])) (fun t k => XS.icmpYes X0.here hx rfl (pc0 := 51) (pc' := 63) rfl (hb hby at_51) rfl (feq (by decide : ¬ ((4 : Int32) = (3 : Int32)))).2 (by decide) (by decide) k) ?_
    refine own_pre (T' := s₁) (f' := (mkF m 64 #[iv p1, iv (4 : Int32), .unset, .unset, .unset] [(.int (4 : Int32))])) (fun t k => XS.iloadN X0.here hx rfl (hb hby at_63) rfl k) ?_
    refine own_pre (T' := s₁) (f' := (mkF m 65 #[iv p1, iv (4 : Int32), .unset, .unset, .unset] [(.int (4 : Int32)), (.int (4 : Int32))])) (fun t k => XS.iconst X0.here hx rfl (hb hby at_64) k) ?_
    refine own_pre (T' := s₁) (f' := (mkF m 68 #[iv p1, iv (4 : Int32), .unset, .unset, .unset] [])) (fun t k => XS.icmpNo X0.here hx rfl (hb hby at_65) rfl (teq (by decide : (4 : Int32) = (4 : Int32))).2 k) ?_
    obtain ⟨T12, X12, e12, st12⟩ := getS2 X0 hx hZ hown (host := "") (Or.inl (hw _ (List.mem_of_getElem? (i := 27) rfl))) Via.refl e0 S_ELEMENTS (g := (mkF m 68 #[iv p1, iv (4 : Int32), .unset, .unset, .unset] [])) rfl (hb hby at_68)
    refine own_pre (T' := T12) (f' := (mkF m 71 #[iv p1, iv (4 : Int32), .unset, .unset, .unset] [(.ref w_ELEMENTS)])) (fun t k => st12 t k) ?_
    refine own_pre (T' := T12) (f' := (mkF m 72 #[iv p1, iv (4 : Int32), rv w_ELEMENTS, .unset, .unset] [])) (fun t k => XS.astoreN X12.here hx rfl (hb hby at_71) rfl rfl (l' := #[iv p1, iv (4 : Int32), rv w_ELEMENTS, .unset, .unset]) rfl k) ?_
    refine own_pre (T' := T12) (f' := (mkF m 73 #[iv p1, iv (4 : Int32), rv w_ELEMENTS, .unset, .unset] [(.int (0 : Int32))])) (fun t k => XS.iconst X12.here hx rfl (hb hby at_72) k) ?_
    refine own_pre (T' := T12) (f' := (mkF m 74 #[iv p1, iv (4 : Int32), rv w_ELEMENTS, iv (0 : Int32), .unset] [])) (fun t k => XS.istoreN X12.here hx rfl (hb hby at_73) rfl (l' := #[iv p1, iv (4 : Int32), rv w_ELEMENTS, iv (0 : Int32), .unset]) rfl k) ?_
    refine own_pre (T' := T12) (f' := (mkF m 83 #[iv p1, iv (4 : Int32), rv w_ELEMENTS, iv (0 : Int32), .unset] [])) (fun t k => XS.goto X12.here hx rfl (pc0 := 74) (pc' := 83) rfl (hb hby at_74) (by decide) (by decide) k) ?_
    refine own_pre (T' := T12) (f' := (mkF m 84 #[iv p1, iv (4 : Int32), rv w_ELEMENTS, iv (0 : Int32), .unset] [(.ref w_ELEMENTS)])) (fun t k => XS.aloadN X12.here hx rfl (hb hby at_83) rfl rfl k) ?_
    obtain ⟨T13, X13, e13, st13⟩ := own_pure (f := 0) (n := 0) (v := (some (.int (0 : Int32)))) (own_callV X12 hx hZ e12 (y := (⟨"com/example/construe/construe/Keyword$Operand", "comparesValues", "()Z"⟩ : MethodName)) hown (hw _ (List.mem_of_getElem? (i := 4) rfl)) (hw _ (List.mem_of_getElem? (i := 5) rfl)) (hw _ (List.mem_of_getElem? (i := 7) rfl)) (hw _ (List.mem_of_getElem? (i := 6) rfl)) (hw _ (List.mem_of_getElem? (i := 8) rfl)) (hw _ (List.mem_of_getElem? (i := 2) rfl)) (by decide) 0 [] [] (own_b1_ELEMENTS l Z a0 hw [] w_NONE w_VALUE w_VALUE_OR_NULL w_RANGE w_TEXT w_ELEMENTS h0 F0) (by decide) (by decide) (by decide) (by decide) E_ELEMENTS (g := (mkF m 84 #[iv p1, iv (4 : Int32), rv w_ELEMENTS, iv (0 : Int32), .unset] [(.ref w_ELEMENTS)])) rfl (by rw [hml]; rfl) (lenOf pd_0 rfl) rfl (by show 2 * 0 + _ ≤ _; exact Nat.le_of_eq rfl) (hb hby at_84))
    refine own_pre (T' := T13) (f' := (mkF m 87 #[iv p1, iv (4 : Int32), rv w_ELEMENTS, iv (0 : Int32), .unset] [(.int (0 : Int32))])) (fun t k => st13 t k) ?_
    refine own_pre (T' := T13) (f' := (mkF m 89 #[iv p1, iv (4 : Int32), rv w_ELEMENTS, iv (0 : Int32), iv (0 : Int32)] [])) (fun t k => XS.istore X13.here hx rfl (hb hby at_87) rfl (l' := #[iv p1, iv (4 : Int32), rv w_ELEMENTS, iv (0 : Int32), iv (0 : Int32)]) rfl k) ?_
    refine own_pre (T' := T13) (f' := (mkF m 91 #[iv p1, iv (4 : Int32), rv w_ELEMENTS, iv (0 : Int32), iv (0 : Int32)] [(.int (0 : Int32))])) (fun t k => XS.iload X13.here hx rfl (hb hby at_89) rfl k) ?_
    refine own_pre (T' := T13) (f' := (mkF m 92 #[iv p1, iv (4 : Int32), rv w_ELEMENTS, iv (0 : Int32), iv (0 : Int32)] [(.int (0 : Int32)), (.int (0 : Int32))])) (fun t k => XS.iloadN X13.here hx rfl (hb hby at_91) rfl k) ?_
    refine own_pre (T' := T13) (f' := (mkF m 95 #[iv p1, iv (4 : Int32), rv w_ELEMENTS, iv (0 : Int32), iv (0 : Int32)] [])) (fun t k => XS.icmpNo X13.here hx rfl (hb hby at_92) rfl (teq (by decide : (0 : Int32) = (0 : Int32))).2 k) ?_
    refine own_pre (T' := T13) (f' := (mkF m 97 #[iv p1, iv (4 : Int32), rv w_ELEMENTS, iv (0 : Int32), iv (0 : Int32)] [(.int (0 : Int32))])) (fun t k => XS.iload X13.here hx rfl (hb hby at_95) rfl k) ?_
    refine own_pre (T' := T13) (f' := (mkF m 108 #[iv p1, iv (4 : Int32), rv w_ELEMENTS, iv (0 : Int32), iv (0 : Int32)] [])) (fun t k => XS.ifYes X13.here hx rfl (pc0 := 97) (pc' := 108) rfl (hb hby at_97) rfl ((if0 _ _).trans (teq (by decide : (0 : Int32) = (0 : Int32))).1) (by decide) (by decide) k) ?_
    refine own_pre (T' := T13) (f' := (mkF m 109 #[iv p1, iv (4 : Int32), rv w_ELEMENTS, iv (0 : Int32), iv (0 : Int32)] [(.int (1 : Int32))])) (fun t k => XS.iconst X13.here hx rfl (hb hby at_108) k) ?_
    refine own_pre (T' := T13) (f' := (mkF m 113 #[iv p1, iv (4 : Int32), rv w_ELEMENTS, iv (0 : Int32), iv (0 : Int32)] [(.int (1 : Int32))])) (fun t k => XS.goto X13.here hx rfl (pc0 := 109) (pc' := 113) rfl (hb hby at_109) (by decide) (by decide) k) ?_
    exact own_retZ X13 hx hlk hret (hb hby at_113) rfl (⟨rfl, Fr.nil _⟩) (by decide) (by decide)
  · rw [hj]
    refine own_pre (T' := s₁) (f' := (mkF m 8 #[iv p1, iv (5 : Int32), .unset, .unset, .unset] [])) (fun t k => XS.istoreN X0.here hx rfl (hb hby at_7) rfl (l' := #[iv p1, iv (5 : Int32), .unset, .unset, .unset]) rfl k) ?_
    refine own_pre (T' := s₁) (f' := (mkF m 9 #[iv p1, iv (5 : Int32), .unset, .unset, .unset] [(.int (5 : Int32))])) (fun t k => XS.iloadN X0.here hx rfl (hb hby at_8) rfl k) ?_
    refine own_pre (T' := s₁) (f' := (mkF m 21 #[iv p1, iv (5 : Int32), .unset, .unset, .unset] [])) (fun t k => XS.ifYes X0.here hx rfl (pc0 := 9) (pc' := 21) rfl (hb hby at_9) rfl ((if0 _ _).trans (feq (by decide : ¬ ((5 : Int32) = (0 : Int32)))).2) (by decide) (by decide) k) ?_
    refine own_pre (T' := s₁) (f' := (mkF m 22 #[iv p1, iv (5 : Int32), .unset, .unset, .unset] [(.int (5 : Int32))])) (fun t k => XS.iloadN X0.here hx rfl (hb hby at_21) rfl k) ?_
    refine own_pre (T' := s₁) (f' := (mkF m 23 #[iv p1, iv (5 : Int32), .unset, .unset, .unset] [(.int (1 : Int32)), (.int (5 : Int32))])) (fun t k => XS.iconst X0.here hx rfl (hb hby at_22) k) ?_
    refine own_pre (T' := s₁) (f' := (mkF m 35 #[iv p1, iv (5 : Int32), .unset, .unset, .unset] [])) (fun t k => XS.icmpYes X0.here hx rfl (pc0 := 23) (pc' := 35) rfl (hb hby at_23) rfl (feq (by decide : ¬ ((5 : Int32) = (1 : Int32)))).2 (by decide) (by decide) k) ?_
    refine own_pre (T' := s₁) (f' := (mkF m 36 #[iv p1, iv (5 : Int32), .unset, .unset, .unset] [(.int (5 : Int32))])) (fun t k => XS.iloadN X0.here hx rfl (hb hby at_35) rfl k) ?_
    refine own_pre (T' := s₁) (f' := (mkF m 37 #[iv p1, iv (5 : Int32), .unset, .unset, .unset] [(.int (2 : Int32)), (.int (5 : Int32))])) (fun t k => XS.iconst X0.here hx rfl (hb hby at_36) k) ?_
    refine own_pre (T' := s₁) (f' := (mkF m 49 #[iv p1, iv (5 : Int32), .unset, .unset, .unset] [])) (fun t k => XS.icmpYes X0.here hx rfl (pc0 := 37) (pc' := 49) rfl (hb hby at_37) rfl (feq (by decide : ¬ ((5 : Int32) = (2 : Int32)))).2 (by decide) (by decide) k) ?_
    refine own_pre (T' := s₁) (f' := (mkF m 50 #[iv p1, iv (5 : Int32), .unset, .unset, .unset] [(.int (5 : Int32))])) (fun t k => XS.iloadN X0.here hx rfl (hb hby at_49) rfl k) ?_
    refine own_pre (T' := s₁) (f' := (mkF m 51 #[iv p1, iv (5 : Int32), .unset, .unset, .unset] [(.int (3 : Int32)), (.int (5 : Int32))])) (fun t k => XS.iconst X0.here hx rfl (hb hby at_50) k) ?_
    refine own_pre (T' := s₁) (f' := (mkF m 63 #[iv p1, iv (5 : Int32), .unset, .unset, .unset] [])) (fun t k => XS.icmpYes X0.here hx rfl (pc0 := 51) (pc' := 63) rfl (hb hby at_51) rfl (feq (by decide : ¬ ((5 : Int32) = (3 : Int32)))).2 (by decide) (by decide) k) ?_
    refine own_pre (T' := s₁) (f' := (mkF m 64 #[iv p1, iv (5 : Int32), .unset, .unset, .unset] [(.int (5 : Int32))])) (fun t k => XS.iloadN X0.here hx rfl (hb hby at_63) rfl k) ?_
    refine own_pre (T' := s₁) (f' := (mkF m 65 #[iv p1, iv (5 : Int32), .unset, .unset, .unset] [(.int (4 : Int32)), (.int (5 : Int32))])) (fun t k => XS.iconst X0.here hx rfl (hb hby at_64) k) ?_
    refine own_pre (T' := s₁) (f' := (mkF m 77 #[iv p1, iv (5 : Int32), .unset, .unset, .unset] [])) (fun t k => XS.icmpYes X0.here hx rfl (pc0 := 65) (pc' := 77) rfl (hb hby at_65) rfl (feq (by decide : ¬ ((5 : Int32) = (4 : Int32)))).2 (by decide) (by decide) k) ?_
    obtain ⟨T14, X14, e14, st14⟩ := getS2 X0 hx hZ hown (host := "") (Or.inl (hw _ (List.mem_of_getElem? (i := 25) rfl))) Via.refl e0 S_TEXT (g := (mkF m 77 #[iv p1, iv (5 : Int32), .unset, .unset, .unset] [])) rfl (hb hby at_77)
    refine own_pre (T' := T14) (f' := (mkF m 80 #[iv p1, iv (5 : Int32), .unset, .unset, .unset] [(.ref w_TEXT)])) (fun t k => st14 t k) ?_
    refine own_pre (T' := T14) (f' := (mkF m 81 #[iv p1, iv (5 : Int32), rv w_TEXT, .unset, .unset] [])) (fun t k => XS.astoreN X14.here hx rfl (hb hby at_80) rfl rfl (l' := #[iv p1, iv (5 : Int32), rv w_TEXT, .unset, .unset]) rfl k) ?_
    refine own_pre (T' := T14) (f' := (mkF m 82 #[iv p1, iv (5 : Int32), rv w_TEXT, .unset, .unset] [(.int (0 : Int32))])) (fun t k => XS.iconst X14.here hx rfl (hb hby at_81) k) ?_
    refine own_pre (T' := T14) (f' := (mkF m 83 #[iv p1, iv (5 : Int32), rv w_TEXT, iv (0 : Int32), .unset] [])) (fun t k => XS.istoreN X14.here hx rfl (hb hby at_82) rfl (l' := #[iv p1, iv (5 : Int32), rv w_TEXT, iv (0 : Int32), .unset]) rfl k) ?_
    refine own_pre (T' := T14) (f' := (mkF m 84 #[iv p1, iv (5 : Int32), rv w_TEXT, iv (0 : Int32), .unset] [(.ref w_TEXT)])) (fun t k => XS.aloadN X14.here hx rfl (hb hby at_83) rfl rfl k) ?_
    obtain ⟨T15, X15, e15, st15⟩ := own_pure (f := 0) (n := 0) (v := (some (.int (0 : Int32)))) (own_callV X14 hx hZ e14 (y := (⟨"com/example/construe/construe/Keyword$Operand", "comparesValues", "()Z"⟩ : MethodName)) hown (hw _ (List.mem_of_getElem? (i := 4) rfl)) (hw _ (List.mem_of_getElem? (i := 5) rfl)) (hw _ (List.mem_of_getElem? (i := 7) rfl)) (hw _ (List.mem_of_getElem? (i := 6) rfl)) (hw _ (List.mem_of_getElem? (i := 8) rfl)) (hw _ (List.mem_of_getElem? (i := 2) rfl)) (by decide) 0 [] [] (own_b1_TEXT l Z a0 hw [] w_NONE w_VALUE w_VALUE_OR_NULL w_RANGE w_TEXT w_ELEMENTS h0 F0) (by decide) (by decide) (by decide) (by decide) E_TEXT (g := (mkF m 84 #[iv p1, iv (5 : Int32), rv w_TEXT, iv (0 : Int32), .unset] [(.ref w_TEXT)])) rfl (by rw [hml]; rfl) (lenOf pd_0 rfl) rfl (by show 2 * 0 + _ ≤ _; exact Nat.le_of_eq rfl) (hb hby at_84))
    refine own_pre (T' := T15) (f' := (mkF m 87 #[iv p1, iv (5 : Int32), rv w_TEXT, iv (0 : Int32), .unset] [(.int (0 : Int32))])) (fun t k => st15 t k) ?_
    refine own_pre (T' := T15) (f' := (mkF m 89 #[iv p1, iv (5 : Int32), rv w_TEXT, iv (0 : Int32), iv (0 : Int32)] [])) (fun t k => XS.istore X15.here hx rfl (hb hby at_87) rfl (l' := #[iv p1, iv (5 : Int32), rv w_TEXT, iv (0 : Int32), iv (0 : Int32)]) rfl k) ?_
    refine own_pre (T' := T15) (f' := (mkF m 91 #[iv p1, iv (5 : Int32), rv w_TEXT, iv (0 : Int32), iv (0 : Int32)] [(.int (0 : Int32))])) (fun t k => XS.iload X15.here hx rfl (hb hby at_89) rfl k) ?_
    refine own_pre (T' := T15) (f' := (mkF m 92 #[iv p1, iv (5 : Int32), rv w_TEXT, iv (0 : Int32), iv (0 : Int32)] [(.int (0 : Int32)), (.int (0 : Int32))])) (fun t k => XS.iloadN X15.here hx rfl (hb hby at_91) rfl k) ?_
    refine own_pre (T' := T15) (f' := (mkF m 95 #[iv p1, iv (5 : Int32), rv w_TEXT, iv (0 : Int32), iv (0 : Int32)] [])) (fun t k => XS.icmpNo X15.here hx rfl (hb hby at_92) rfl (teq (by decide : (0 : Int32) = (0 : Int32))).2 k) ?_
    refine own_pre (T' := T15) (f' := (mkF m 97 #[iv p1, iv (5 : Int32), rv w_TEXT, iv (0 : Int32), iv (0 : Int32)] [(.int (0 : Int32))])) (fun t k => XS.iload X15.here hx rfl (hb hby at_95) rfl k) ?_
    refine own_pre (T' := T15) (f' := (mkF m 108 #[iv p1, iv (5 : Int32), rv w_TEXT, iv (0 : Int32), iv (0 : Int32)] [])) (fun t k => XS.ifYes X15.here hx rfl (pc0 := 97) (pc' := 108) rfl (hb hby at_97) rfl ((if0 _ _).trans (teq (by decide : (0 : Int32) = (0 : Int32))).1) (by decide) (by decide) k) ?_
    refine own_pre (T' := T15) (f' := (mkF m 109 #[iv p1, iv (5 : Int32), rv w_TEXT, iv (0 : Int32), iv (0 : Int32)] [(.int (1 : Int32))])) (fun t k => XS.iconst X15.here hx rfl (hb hby at_108) k) ?_
    refine own_pre (T' := T15) (f' := (mkF m 113 #[iv p1, iv (5 : Int32), rv w_TEXT, iv (0 : Int32), iv (0 : Int32)] [(.int (1 : Int32))])) (fun t k => XS.goto X15.here hx rfl (pc0 := 109) (pc' := 113) rfl (hb hby at_109) (by decide) (by decide) k) ?_
    exact own_retZ X15 hx hlk hret (hb hby at_113) rfl (⟨rfl, Fr.nil _⟩) (by decide) (by decide)
set_option maxRecDepth 65536 in
set_option maxHeartbeats 40000000 in
theorem comes_1 {Post : Tables → Env → Array Value → State → Outcome → State → Prop} (hpost : ∀ tb e args s v u, (limb_1_1.after args s (.returned v) u = true ∧ limb_1_2.after args s (.returned v) u = true ∧ True) → FrameEnd s (.returned v) u (Jvm.fieldLocs frame_1_writes args s ++ Jvm.arrayLocs frame_1_arrays args s ++ Jvm.staticLocs frame_1_statics s) 0 0 → Post tb e args s (.returned v) u) :
    ArmFor flags0 classFile x code maxLocals ret World_1 tables_1 room_1 Calls_1 rest_1 Pre_1 Post := by
  intro l hfl _ _ p e ha hc hk s m args below hf hA hF happ hP
  obtain ⟨hcalls, hrest, hpre⟩ := hP
  obtain ⟨-, -, -, hnamed, -, -, -, hat⟩ := (Spec.applies_iff hf).mp happ
  obtain ⟨hg, hn⟩ := and_e (Cond.before_iff.mp (show (Jvm.Cond.and given_1 narrow_1).before args s = true from hpre))
  obtain ⟨gv0, gr0⟩ := and_e hg
  obtain ⟨w0, rfl⟩ : ∃ w0 : Value, args = #[w0] := by
    have hs : args.size = 1 := by simpa [Cond.value, given_1] using gv0
    obtain ⟨L⟩ := args
    match L, hs with
    | [w0], _ => exact ⟨w0, rfl⟩
  have hw := fun d (hd : d ∈ tables_1) => atoms_spec (ws := Jvm.Cond.code x code maxLocals ret :: tables_1) hat d (List.mem_cons_of_mem _ hd)
  have hfit : Fit s := fun {y c} hc i hi => by
    obtain ⟨ha, rfl⟩ := Array.getElem?_eq_some_iff.mp hc
    have q := List.all_eq_true.mp ((Array.all_eq_true_iff_forall_mem.mp hF) _ (Array.getElem_mem ha)) i (List.mem_range.mpr hi)
    simpa [Array.getElem?_eq_getElem hi] using q
  obtain ⟨i0, ei0⟩ := is_v gr0
  obtain rfl : w0 = (.int i0) := Option.some.inj ei0
  obtain ⟨nw0, nr0⟩ := and_e hn
  obtain ⟨nw1, nr1⟩ := and_e nr0
  obtain ⟨nw2, nr2⟩ := and_e nr1
  obtain ⟨nw3, nr3⟩ := and_e nr2
  obtain ⟨nw4, nr4⟩ := and_e nr3
  obtain ⟨nw5, nr5⟩ := and_e nr4
  obtain ⟨nw6, nr6⟩ := and_e nr5
  obtain ⟨nw7, nr7⟩ := and_e nr6
  obtain ⟨nw8, nr8⟩ := and_e nr7
  obtain ⟨nw9, nr9⟩ := and_e nr8
  obtain ⟨nw10, nr10⟩ := and_e nr9
  obtain ⟨nw11, nr11⟩ := and_e nr10
  obtain ⟨nw12, nr12⟩ := and_e nr11
  obtain ⟨nw13, nr13⟩ := and_e nr12
  obtain ⟨nw14, nr14⟩ := and_e nr13
  obtain ⟨nw15, nr15⟩ := and_e nr14
  obtain ⟨nw16, nr16⟩ := and_e nr15
  obtain ⟨w_NONE, ev_NONE⟩ := exa_v nw0
  obtain ⟨w_VALUE, ev_VALUE⟩ := exa_v nw1
  obtain ⟨w_VALUE_OR_NULL, ev_VALUE_OR_NULL⟩ := exa_v nw4
  obtain ⟨w_RANGE, ev_RANGE⟩ := exa_v nw6
  obtain ⟨w_TEXT, ev_TEXT⟩ := exa_v nw11
  obtain ⟨w_ELEMENTS, ev_ELEMENTS⟩ := exa_v nw13
  have F : own_F s s.heap w_NONE w_VALUE w_VALUE_OR_NULL w_RANGE w_TEXT w_ELEMENTS := ⟨Sta.start ev_NONE (Or.inr ⟨(hw _ (List.mem_of_getElem? (i := 2) rfl)), (hw _ (List.mem_of_getElem? (i := 3) rfl))⟩), Exa.start ev_NONE nw0, Sta.start ev_VALUE (Or.inr ⟨(hw _ (List.mem_of_getElem? (i := 2) rfl)), (hw _ (List.mem_of_getElem? (i := 10) rfl))⟩), Exa.start ev_VALUE nw1, Sta.start ev_VALUE_OR_NULL (Or.inr ⟨(hw _ (List.mem_of_getElem? (i := 2) rfl)), (hw _ (List.mem_of_getElem? (i := 12) rfl))⟩), Exa.start ev_VALUE_OR_NULL nw4, Sta.start ev_RANGE (Or.inr ⟨(hw _ (List.mem_of_getElem? (i := 2) rfl)), (hw _ (List.mem_of_getElem? (i := 14) rfl))⟩), Exa.start ev_RANGE nw6, Sta.start ev_TEXT (Or.inr ⟨(hw _ (List.mem_of_getElem? (i := 2) rfl)), (hw _ (List.mem_of_getElem? (i := 26) rfl))⟩), Exa.start ev_TEXT nw11, Sta.start ev_ELEMENTS (Or.inr ⟨(hw _ (List.mem_of_getElem? (i := 2) rfl)), (hw _ (List.mem_of_getElem? (i := 28) rfl))⟩), Exa.start ev_ELEMENTS nw13, Fld.start ((fld_at ev_NONE).symm.trans (own_eqI nw2)), Fld.start ((fld_at ev_VALUE).symm.trans (own_eqI nw3)), Fld.start ((fld_at ev_VALUE_OR_NULL).symm.trans (own_eqI nw5)), Fld.start ((fld_at ev_RANGE).symm.trans (own_eqI nw7)), Fld.start ((fld_at ev_RANGE).symm.trans (own_eqI nw8)), Fld.start ((fld_at ev_VALUE_OR_NULL).symm.trans (own_eqI nw9)), Fld.start ((fld_at ev_VALUE).symm.trans (own_eqI nw10)), Fld.start ((fld_at ev_TEXT).symm.trans (own_eqI nw12)), Fld.start ((fld_at ev_ELEMENTS).symm.trans (own_eqI nw14)), Fld.start ((fld_at ev_NONE).symm.trans (own_eqI nw15)), Fld.start ((fld_at ev_TEXT).symm.trans (own_eqI nw16)), Fld.start ((fld_at ev_ELEMENTS).symm.trans (own_eqI nr16))⟩
  obtain ⟨n, o, h1, h2, h3, _, L, rfl, ⟨rfl, N⟩, hq⟩ := own_law l s _ hw tables_1 w_NONE w_VALUE w_VALUE_OR_NULL w_RANGE w_TEXT w_ELEMENTS s.heap F i0  p e ha hc hk s m _ below hf ((Spec.applies_iff_loose hf).mp happ).1 ⟨rfl, State.Warmed39.refl s, rfl⟩ trivial
  refine ⟨n, _, h1, h2, h3, hpost _ _ _ _ _ _ ⟨Cond.after_iff.mpr rfl, Cond.after_iff.mpr (eq_i res_at (Term.int_eval (1)) rfl), trivial⟩ ⟨hq.1, hq.2.1, (hq.2.2.sift fun y hy => Or.inr (N y hy)).mono (by decide) (by decide)⟩⟩
theorem main_1_1 : Claimed_1_1 := comes_1 fun _ _ _ _ _ _ h hF => ⟨h.1, hF⟩
theorem main_1_2 : Claimed_1_2 := comes_1 fun _ _ _ _ _ _ h hF => ⟨h.2.1, hF⟩
end Jvm.Pilot.@@N@@
namespace Jvm.Pilot.@@N@@
open Jvm Jvm.ClassFile Sem Op Lib Jvm.Free Jvm.Stand Jvm.Pilot.@@N@@.Jvm.D
/-! MADE BY PROGRAM (witnessworld.py) out of the Statement's table words and the real class files: 10 classes; the members and pool entries that the words name. The judged class is class 1, her method 1. -/
namespace start1
open Jvm.ClassFile
def u (s : String) : CpInfo := .utf8 (stringToUtf16 s)
/-- a pool by its gaps: so many unusable entries, then the entry; so many at the end -/
def gap : Nat → List CpInfo → List CpInfo
  | 0, r => r
  | n + 1, r => .unusable :: gap n r
def poolList (es : List (Nat × CpInfo)) (last : Nat) : List CpInfo := es.foldr (fun e r => gap e.1 (e.2 :: r)) (gap last [])
def pool (es : List (Nat × CpInfo)) (last : Nat) : Array CpInfo := ⟨poolList es last⟩
def fileOf (pool : Array CpInfo) (this : Nat) (attrs : Array Attribute := #[]) (ms : Array MethodInfo := #[]) (fl : Nat := 33) (sup : Nat := 0) (ifs : Array Nat := #[]) (fds : Array FieldInfo := #[]) : ClassFile where
  minorVersion := 0
  majorVersion := 65
  constantPool := pool
  accessFlags := fl
  thisClass := this
  superClass := sup
  interfaces := ifs
  fields := fds
  methods := ms
  attributes := attrs
def plain (name : String) (sup : Option ClassId) : Class where
  name := name
  kind := .ordinary
  loader := none
  accessFlags := 33
  super := sup
  interfaces := #[]
  cf := none
  fields := #[]
  methods := #[]
  instanceTypes := #[]
  staticTypes := #[]
  resolved := #[]
  callSites := []
  init := .initialized
  statics := none
  mirror := none

def pool0 : Array CpInfo := pool [(5, u "<init>"), (0, u "()V"), (1, .class_ 10), (1, u "java/lang/Object")] 113

def k0m0 : Method := { name := "<init>", desc := "()V", sig := { parameters := [], returnType := none }, accessFlags := 1, code := none }
/-- java/lang/Object -/
def k0 : Class := { plain "java/lang/Object" none with
  accessFlags := 33
  interfaces := #[]
  cf := some (fileOf pool0 8 #[] #[{ accessFlags := 1, nameIndex := 5, descriptorIndex := 6, attributes := #[] }] 33 0 #[] #[])
  fields := #[]
  methods := #[k0m0]
  instanceTypes := #[]
  staticTypes := #[]
  resolved := Array.replicate 124 none
  statics := none }

def pool1 : Array CpInfo := pool [(2, .class_ 4), (1, u "java/lang/Object"), (0, u "<init>"), (0, u "()V"), (0, .integer 2147483647), (0, .fieldref 9 10), (0, .class_ 11), (0, .nameAndType 12 13), (0, u "com/example/construe/construe/Keyword$Operand"), (0, u "NONE"), (0, u "Lcom/example/construe/construe/Keyword$Operand;"), (0, .fieldref 9 15), (0, .nameAndType 16 13), (0, u "VALUE"), (0, .fieldref 9 18), (0, .nameAndType 19 13), (0, u "VALUE_OR_NULL"), (0, .fieldref 9 21), (0, .nameAndType 22 13), (0, u "RANGE"), (0, .fieldref 9 24), (0, .nameAndType 25 13), (0, u "ELEMENTS"), (0, .fieldref 9 27), (0, .nameAndType 28 13), (0, u "TEXT"), (0, .methodref 9 30), (0, .nameAndType 31 32), (0, u "comparesValues"), (0, u "()Z"), (0, .methodref 9 34), (0, .nameAndType 35 36), (0, u "parameters"), (0, u "()I"), (0, .class_ 38), (0, u "com/example/construe/construe/OperandComparesValuesPinLaw"), (2, u "law"), (0, u "(I)Z")] 7

def k1m0 : Method := { name := "<init>", desc := "()V", sig := { parameters := [], returnType := none }, accessFlags := 1, code := none }
def k1c1 : Code := { maxStack := 2, maxLocals := 5, code := code, exceptionTable := #[], attributes := #[] }
def k1m1 : Method := { name := "law", desc := "(I)Z", sig := { parameters := [.int], returnType := some .boolean }, accessFlags := 9, code := some k1c1 }
/-- com/example/construe/construe/OperandComparesValuesPinLaw -/
def k1 : Class := { plain "com/example/construe/construe/OperandComparesValuesPinLaw" (some 0) with
  accessFlags := 49
  interfaces := #[]
  cf := some (fileOf pool1 37 #[] #[{ accessFlags := 1, nameIndex := 5, descriptorIndex := 6, attributes := #[] }, { accessFlags := 9, nameIndex := 41, descriptorIndex := 42, attributes := #[] }] 49 2 #[] #[])
  fields := #[]
  methods := #[k1m0, k1m1]
  instanceTypes := #[]
  staticTypes := #[]
  resolved := Array.replicate 50 none
  statics := none }

def pool2 : Array CpInfo := pool [(1, .class_ 2), (0, u "java/lang/constant/Constable"), (0, .class_ 4), (0, u "java/lang/Object")] 6

/-- java/lang/constant/Constable -/
def k2 : Class := { plain "java/lang/constant/Constable" (some 0) with
  accessFlags := 1537
  interfaces := #[]
  cf := some (fileOf pool2 1 #[] #[] 1537 3 #[] #[])
  fields := #[]
  methods := #[]
  instanceTypes := #[]
  staticTypes := #[]
  resolved := Array.replicate 11 none
  statics := none }

def pool3 : Array CpInfo := pool [(1, .class_ 2), (0, u "java/lang/Comparable"), (0, .class_ 4), (0, u "java/lang/Object")] 7

/-- java/lang/Comparable -/
def k3 : Class := { plain "java/lang/Comparable" (some 0) with
  accessFlags := 1537
  interfaces := #[]
  cf := some (fileOf pool3 1 #[] #[] 1537 3 #[] #[])
  fields := #[]
  methods := #[]
  instanceTypes := #[]
  staticTypes := #[]
  resolved := Array.replicate 12 none
  statics := none }

def pool4 : Array CpInfo := pool [(1, .class_ 2), (0, u "java/io/Serializable"), (0, .class_ 4), (0, u "java/lang/Object")] 2

/-- java/io/Serializable -/
def k4 : Class := { plain "java/io/Serializable" (some 0) with
  accessFlags := 1537
  interfaces := #[]
  cf := some (fileOf pool4 1 #[] #[] 1537 3 #[] #[])
  fields := #[]
  methods := #[]
  instanceTypes := #[]
  staticTypes := #[]
  resolved := Array.replicate 7 none
  statics := none }

def pool5 : Array CpInfo := pool [(2, .class_ 4), (1, u "java/lang/Enum"), (0, u "name"), (0, u "Ljava/lang/String;"), (2, u "ordinal"), (0, u "I"), (1, .class_ 14), (1, u "java/lang/Object"), (4, u "hash"), (86, .class_ 108), (1, u "java/lang/Enum$EnumDesc"), (2, .class_ 112), (0, u "java/lang/constant/Constable"), (0, .class_ 114), (0, u "java/lang/Comparable"), (0, .class_ 116), (0, u "java/io/Serializable")] 87

/-- java/lang/Enum -/
def k5 : Class := { plain "java/lang/Enum" (some 0) with
  accessFlags := 1057
  interfaces := #[2, 3, 4]
  cf := some (fileOf pool5 2 #[.nestMembers #[106]] #[] 1057 12 #[111, 113, 115] #[{ accessFlags := 18, nameIndex := 5, descriptorIndex := 6, attributes := #[] }, { accessFlags := 18, nameIndex := 9, descriptorIndex := 10, attributes := #[] }, { accessFlags := 2, nameIndex := 19, descriptorIndex := 10, attributes := #[] }])
  fields := #[{ name := "name", type := (.object "java/lang/String"), accessFlags := 18, slot := 0, constantValue := 0 }, { name := "ordinal", type := .int, accessFlags := 18, slot := 1, constantValue := 0 }, { name := "hash", type := .int, accessFlags := 2, slot := 2, constantValue := 0 }]
  methods := #[]
  instanceTypes := #[(.object "java/lang/String"), .int, .int]
  staticTypes := #[]
  resolved := Array.replicate 204 none
  statics := none }

def pool6 : Array CpInfo := pool [(1, .class_ 2), (0, u "com/example/construe/construe/Keyword$Operand"), (2, u "NONE"), (0, u "Lcom/example/construe/construe/Keyword$Operand;"), (0, .fieldref 1 8), (0, .nameAndType 9 6), (0, u "VALUE"), (0, .fieldref 1 11), (0, .nameAndType 12 6), (0, u "VALUE_OR_NULL"), (0, .fieldref 1 14), (0, .nameAndType 15 6), (0, u "RANGE"), (2, u "ELEMENTS"), (2, u "TEXT"), (2, u "$VALUES"), (0, u "[Lcom/example/construe/construe/Keyword$Operand;"), (6, .class_ 34), (1, u "java/lang/Enum"), (6, .fieldref 1 42), (0, .nameAndType 43 44), (0, u "parameters"), (0, u "I"), (2, u "holds"), (0, u "Ljava/lang/String;"), (3, u "()I"), (56, u "comparesValues"), (0, u "()Z"), (10, .class_ 122), (0, u "com/example/construe/construe/Keyword")] 2

def k6c0 : Code := { maxStack := 1, maxLocals := 1, code := prog_66_method_4_code, exceptionTable := #[], attributes := #[] }
def k6m0 : Method := { name := "parameters", desc := "()I", sig := { parameters := [], returnType := some .int }, accessFlags := 0, code := some k6c0 }
def k6c1 : Code := { maxStack := 2, maxLocals := 1, code := prog_66_method_7_code, exceptionTable := #[], attributes := #[] }
def k6m1 : Method := { name := "comparesValues", desc := "()Z", sig := { parameters := [], returnType := some .boolean }, accessFlags := 0, code := some k6c1 }
/-- com/example/construe/construe/Keyword$Operand -/
def k6 : Class := { plain "com/example/construe/construe/Keyword$Operand" (some 5) with
  accessFlags := 16432
  interfaces := #[]
  cf := some (fileOf pool6 1 #[.nestHost 121] #[{ accessFlags := 0, nameIndex := 43, descriptorIndex := 52, attributes := #[] }, { accessFlags := 0, nameIndex := 109, descriptorIndex := 110, attributes := #[] }] 16432 32 #[] #[{ accessFlags := 16409, nameIndex := 5, descriptorIndex := 6, attributes := #[] }, { accessFlags := 16409, nameIndex := 9, descriptorIndex := 6, attributes := #[] }, { accessFlags := 16409, nameIndex := 12, descriptorIndex := 6, attributes := #[] }, { accessFlags := 16409, nameIndex := 15, descriptorIndex := 6, attributes := #[] }, { accessFlags := 16409, nameIndex := 18, descriptorIndex := 6, attributes := #[] }, { accessFlags := 16409, nameIndex := 21, descriptorIndex := 6, attributes := #[] }, { accessFlags := 18, nameIndex := 43, descriptorIndex := 44, attributes := #[] }, { accessFlags := 18, nameIndex := 47, descriptorIndex := 48, attributes := #[] }, { accessFlags := 4122, nameIndex := 24, descriptorIndex := 25, attributes := #[] }])
  fields := #[{ name := "NONE", type := (.object "com/example/construe/construe/Keyword$Operand"), accessFlags := 16409, slot := 0, constantValue := 0 }, { name := "VALUE", type := (.object "com/example/construe/construe/Keyword$Operand"), accessFlags := 16409, slot := 1, constantValue := 0 }, { name := "VALUE_OR_NULL", type := (.object "com/example/construe/construe/Keyword$Operand"), accessFlags := 16409, slot := 2, constantValue := 0 }, { name := "RANGE", type := (.object "com/example/construe/construe/Keyword$Operand"), accessFlags := 16409, slot := 3, constantValue := 0 }, { name := "ELEMENTS", type := (.object "com/example/construe/construe/Keyword$Operand"), accessFlags := 16409, slot := 4, constantValue := 0 }, { name := "TEXT", type := (.object "com/example/construe/construe/Keyword$Operand"), accessFlags := 16409, slot := 5, constantValue := 0 }, { name := "parameters", type := .int, accessFlags := 18, slot := 3, constantValue := 0 }, { name := "holds", type := (.object "java/lang/String"), accessFlags := 18, slot := 4, constantValue := 0 }, { name := "$VALUES", type := (.array (.object "com/example/construe/construe/Keyword$Operand")), accessFlags := 4122, slot := 6, constantValue := 0 }]
  methods := #[k6m0, k6m1]
  instanceTypes := #[(.object "java/lang/String"), .int, .int, .int, (.object "java/lang/String")]
  staticTypes := #[(.object "com/example/construe/construe/Keyword$Operand"), (.object "com/example/construe/construe/Keyword$Operand"), (.object "com/example/construe/construe/Keyword$Operand"), (.object "com/example/construe/construe/Keyword$Operand"), (.object "com/example/construe/construe/Keyword$Operand"), (.object "com/example/construe/construe/Keyword$Operand"), (.array (.object "com/example/construe/construe/Keyword$Operand"))]
  resolved := Array.replicate 125 none
  statics := some 0 }

def pool7 : Array CpInfo := pool [(1, u "java/lang/Cloneable"), (0, .class_ 1), (0, u "java/lang/Object"), (0, .class_ 3)] 3

/-- java/lang/Cloneable -/
def k7 : Class := { plain "java/lang/Cloneable" (some 0) with
  accessFlags := 1537
  interfaces := #[]
  cf := some (fileOf pool7 2 #[] #[] 1537 4 #[] #[])
  fields := #[]
  methods := #[]
  instanceTypes := #[]
  staticTypes := #[]
  resolved := Array.replicate 8 none
  statics := none }

/-- the primitive byte -/
def k8 : Class := { plain "byte" none with kind := .primitive 'B', accessFlags := 0x411 }
/-- [B -/
def k9 : Class := { plain "[B" (some 0) with kind := .array 8 .byte, interfaces := #[7, 4], accessFlags := 1041 }

def heap : Heap := #[{ cls := 6, slots := #[.ref 1, .ref 2, .ref 3, .ref 4, .ref 6, .ref 5, .null], vm := .statics 6 },
  { cls := 6, slots := #[.null, .int 0, .int 0, .int 0, .null], vm := .none },
  { cls := 6, slots := #[.null, .int 1, .int 0, .int 1, .null], vm := .none },
  { cls := 6, slots := #[.null, .int 2, .int 0, .int 1, .null], vm := .none },
  { cls := 6, slots := #[.null, .int 3, .int 0, .int 2, .null], vm := .none },
  { cls := 6, slots := #[.null, .int 5, .int 0, .int 1, .null], vm := .none },
  { cls := 6, slots := #[.null, .int 4, .int 0, .int 1, .null], vm := .none }]
def classes : Array Class := #[k0, k1, k2, k3, k4, k5, k6, k7, k8, k9]
def interned : List (Array UInt16 × Addr) := []
def slotsUsed : Nat := 37
def theMethod : MethodId := ⟨1, 1⟩
def args0 : Array Value := #[.int 5]
def aboutOver (below : List Frame) : State where
  vm := { classes := classes, interned := interned.toArray }
  heap := heap
  slotsUsed := slotsUsed
  threads := #[{ frames := .invoking theMethod args0 :: below }]
def below0 : List Frame := [.native { method := ⟨0, 0⟩, args := #[] }]
def about1 : State := aboutOver below0
def p0 : Program := .bare "" "" ""
def e0 : Env := launch0.env 0 0 0
theorem w_frames : about1.frames = Frame.invoking theMethod args0 :: below0 := rfl
set_option maxRecDepth 65536 in
theorem w_args : argsFit about1.vm theMethod args0 = true := by decide +kernel
set_option maxRecDepth 65536 in
theorem w_heap : heapFits about1 = true := by decide +kernel
set_option maxRecDepth 65536 in
theorem w_runnable : about1.curStatus? = some .runnable := by decide +kernel
set_option maxRecDepth 65536 in
theorem w_alone : about1.alone = true := by decide +kernel
set_option maxRecDepth 65536 in
theorem w_named : about1.methodNamed? x = some theMethod := by decide +kernel
set_option maxRecDepth 65536 in
theorem w_hears : about1.hears theMethod below0 = true := by decide +kernel
set_option maxRecDepth 65536 in
theorem w_ripe : about1.ripe theMethod args0 below0 = true := by decide +kernel
theorem w_running : about1.status = .running := rfl
set_option maxRecDepth 65536 in
theorem w_room : about1.hasRoom e0.platform room_1 = true :=
  launch0.hasRoom_least _ room_1 (by decide +kernel) (by decide +kernel) (by decide +kernel) (by decide +kernel) (by decide +kernel) (by decide +kernel)
theorem allAtoms_all (ts : List Jvm.Cond) (a : Array Jvm.Value) (st : Jvm.State) : (allAtoms ts).before a st = ts.all (fun c => c.before a st) := by
  induction ts with
  | nil => rfl
  | cons c t ih =>
    show (Jvm.Cond.and c (allAtoms t)).before a st = _
    rw [Jvm.Cond.before_and, ih, List.all_cons]
def words1 : List Jvm.Cond := Jvm.Cond.code x code maxLocals ret :: tables_1
/-- a 'code' word, met by the world's own term for the bytes: nothing is compared byte by byte -/
theorem code_word {y : MethodName} {bytes : ByteArray} {mx : Nat} {rt : Option FieldType} {a : Array Value} {s : State} {m : MethodId} {meth : Method} {c : Code} (h1 : s.methodNamed? y = some m) (h2 : s.vm.method? m = some meth) (h3 : meth.code = some c) (h4 : c.code = bytes)
    (h5 : (c.maxLocals == mx && c.exceptionTable.isEmpty && decide (c.maxStack ≤ mostOperands) && decide (meth.sig.returnType = rt) && !meth.locks && decide (parseMethodDescriptor y.desc = some meth.sig)) = true) : (Jvm.Cond.code y bytes mx rt).before a s = true := by
  simp only [Bool.and_eq_true, beq_iff_eq, Bool.not_eq_true', decide_eq_true_eq] at h5
  obtain ⟨⟨⟨⟨⟨g1, g2⟩, g3⟩, g4⟩, g5⟩, g6⟩ := h5
  simp [Cond.before, Cond.holds, Cond.value, h1, h2, h3, h4, g1, g2, g3, g4, g5, g6]
def isCode : Jvm.Cond → Bool
  | .code _ _ _ _ => true
  | _ => false
theorem all_split {L : List Jvm.Cond} {P : Jvm.Cond → Bool} (h1 : L.all (fun c => isCode c || P c) = true) (h2 : ∀ c ∈ L.filter isCode, P c = true) : L.all P = true := by
  refine List.all_eq_true.mpr fun c hc => ?_
  have h := List.all_eq_true.mp h1 c hc
  rcases Bool.eq_false_or_eq_true (isCode c) with hi | hi
  · exact h2 c (List.mem_filter.mpr ⟨hc, hi⟩)
  · simpa [hi] using h
set_option maxRecDepth 65536 in
theorem w_c0 : (Jvm.Cond.code x code maxLocals ret).before args0 about1 = true := code_word (m := ⟨1, 1⟩) (meth := k1m1) (c := k1c1) (by decide +kernel) rfl rfl rfl (by decide +kernel)
set_option maxRecDepth 65536 in
theorem w_c1 : (Jvm.Cond.code ({ cls := "com/example/construe/construe/Keyword$Operand", name := "comparesValues", desc := "()Z" } : Jvm.MethodName) prog_66_method_7_code (1 : Nat) (Option.some Jvm.ClassFile.FieldType.boolean)).before args0 about1 = true := code_word (m := ⟨6, 1⟩) (meth := k6m1) (c := k6c1) (by decide +kernel) rfl rfl rfl (by decide +kernel)
set_option maxRecDepth 65536 in
theorem w_c2 : (Jvm.Cond.code ({ cls := "com/example/construe/construe/Keyword$Operand", name := "parameters", desc := "()I" } : Jvm.MethodName) prog_66_method_4_code (1 : Nat) (Option.some Jvm.ClassFile.FieldType.int)).before args0 about1 = true := code_word (m := ⟨6, 0⟩) (meth := k6m0) (c := k6c0) (by decide +kernel) rfl rfl rfl (by decide +kernel)
def codes1 : List Jvm.Cond := [Jvm.Cond.code x code maxLocals ret, Jvm.Cond.code ({ cls := "com/example/construe/construe/Keyword$Operand", name := "comparesValues", desc := "()Z" } : Jvm.MethodName) prog_66_method_7_code (1 : Nat) (Option.some Jvm.ClassFile.FieldType.boolean), Jvm.Cond.code ({ cls := "com/example/construe/construe/Keyword$Operand", name := "parameters", desc := "()I" } : Jvm.MethodName) prog_66_method_4_code (1 : Nat) (Option.some Jvm.ClassFile.FieldType.int)]
set_option maxRecDepth 65536 in
theorem codes_eq : words1.filter isCode = codes1 := rfl
theorem w_codes : ∀ c ∈ words1.filter isCode, c.before args0 about1 = true := by
  rw [codes_eq]
  intro c hc
  simp only [codes1, List.mem_cons, List.not_mem_nil, or_false] at hc
  rcases hc with rfl | rfl | rfl
  · exact w_c0
  · exact w_c1
  · exact w_c2
set_option maxRecDepth 65536 in
theorem w_t1 : (words1.take 24).all (fun c => isCode c || c.before args0 about1) = true := by decide +kernel
set_option maxRecDepth 65536 in
theorem w_t2 : (words1.drop 24).all (fun c => isCode c || c.before args0 about1) = true := by decide +kernel
theorem w_tables : (allAtoms (Jvm.Cond.code x code maxLocals ret :: tables_1)).before args0 about1 = true := by
  rw [allAtoms_all]
  show words1.all (fun c => c.before args0 about1) = true
  refine all_split ?_ w_codes
  rw [← List.take_append_drop 24 words1, List.all_append, w_t1, w_t2]
  rfl
set_option maxRecDepth 65536 in
theorem w_case : (Jvm.Cond.and given_1 narrow_1).before args0 about1 = true := by decide +kernel
theorem w_applies : (headSpec (Jvm.Cond.code x code maxLocals ret :: tables_1) room_1).applies x e0.platform about1 = true :=
  (Spec.applies_iff w_frames).mpr ⟨w_running, w_runnable, w_alone, w_named, w_hears, w_ripe, w_room, w_tables⟩
theorem atStart : AtStart classFile x code maxLocals ret World_1 tables_1 room_1 Calls_1 rest_1 Pre_1 launch0 p0 e0 about1 theMethod args0 below0 :=
  ⟨lists_1, trivial, launch0.admits_env _ _ _, launch0.least_env, fairChoices_fair.cas, fairChoices_fair.clock, w_frames, w_args, w_heap, w_applies, trivial, trivial, w_case⟩
end start1
theorem witness_1 : WitnessClaimed_1 := ⟨start1.p0, start1.e0, start1.about1, start1.theMethod, start1.args0, start1.below0, start1.atStart⟩
end Jvm.Pilot.@@N@@
