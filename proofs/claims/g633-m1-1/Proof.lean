import JvmDerived
import JvmDerived.Pilot.@@N@@Statement
import JvmDerived.Pilot.@@N@@Code
set_option linter.unusedVariables false
set_option linter.unusedSimpArgs false
namespace Jvm.Pilot.@@N@@
open Jvm Jvm.ClassFile Sem Op Lib Jvm.Free Jvm.Stand Jvm.LawKit Jvm.RoadKit Bundle Jvm.Pilot.@@N@@.Jvm.D
section OwnKit
variable {p : Program} {l : Launch} {e : Env} {R : Room} {s : State} {m : MethodId} {args : Array Value} {below : List Frame} {meth : Method} {c : Code} {T : State} {locs : List Loc} {cells slots : Nat} {Z : State} {a0 : Array Value} {h : Heap} {Qr : Option Value → Heap → List Loc → Prop}
/-- from this frame on the run ends, and Q holds of the end -/
def own_G (tb : Tables) (e : Env) (below : List Frame) (T : State) (f : JFrame) (Qe : Outcome → State → Prop) : Prop := ∃ s₂ o, Steps tb e below (T.setTop f) s₂ ∧ s₂.status = .running ∧ Ended s₂ below o ∧ Qe o s₂
theorem own_pre {tb : Tables} {T' : State} {f f' : JFrame} {Qe : Outcome → State → Prop} (k1 : ∀ t, Steps tb e below (T'.setTop f') t → Steps tb e below (T.setTop f) t) (k2 : own_G tb e below T' f' Qe) : own_G tb e below T f Qe := by
  obtain ⟨s2, o, h1, h2⟩ := k2
  exact ⟨s2, o, k1 _ h1, h2⟩
/-- the end of a body: it returned v with Qr; the frame -/
abbrev own_P (R : Room) (s : State) (Qr : Option Value → Heap → List Loc → Prop) : Outcome → State → Prop := fun o U' => ∃ v L, o = .returned v ∧ Qr v U'.heap L ∧ FrameEnd s o U' L R.cells R.slots
/-- a body's contract -/
abbrev own_C (l : Launch) (y : MethodName) (code : ByteArray) (ml : Nat) (ret : Option FieldType) (ws : List Jvm.Cond) (R : Room) (as : Array Value) (Z : State) (h0 : Heap) (Qr : Option Value → Heap → List Loc → Prop) : Prop :=
  MetFree l y (head1 (Jvm.Cond.code y code ml ret :: ws) R) (fun a U => a = as ∧ Z.Warmed39 U.vm ∧ U.heap = h0) (fun _ _ _ _ _ => True) (fun _ U o U' => ∃ v L, o = .returned v ∧ Qr v U'.heap L ∧ FrameEnd U o U' L R.cells R.slots)
theorem own_enter {y : MethodName} {code : ByteArray} {ml : Nat} {ret : Option FieldType} {ws : List Jvm.Cond} {as : Array Value} {LS : Array Slot} {h0 : Heap} (hp : plainFor y = true) (hef : ∀ m, entryFrame m as ml = mkF m 0 LS [])
    (body : ∀ (p : Program) (e : Env) (s : State) (m : MethodId) (below : List Frame) (meth : Method) (c : Code) (s₁ : State), p.tables.exec = Jvm.exec → c.code = code → c.maxLocals = ml → s.vm.findClass y.cls = some m.cls → meth.name = y.name → meth.sig.returnType = ret → meth.locks = false → Z.Warmed39 s.vm → Stand p l e R s m as below meth c s₁ [] 0 0 → s₁.heap = h0 → s.heap = h0 → own_G p.tables e below s₁ (mkF m 0 LS []) (own_P R s Qr)) : own_C l y code ml ret ws R as Z h0 Qr := by
  refine MetFree.of_bodySF hp hisR ?_
  intro p e s m args below meth c s₁ Bd hml0 hP hK
  obtain ⟨rfl, hZ, hh⟩ := hP
  have e0 : s₁.heap = h0 := by rw [← hh, Bd.state]; rfl
  obtain ⟨s2, o, h1, h2⟩ := body p e s m below meth c s₁ Bd.exec Bd.bytes hml0 (findClass_of_methodNamed Bd.named) (name_of_methodNamed Bd.named Bd.method).1 Bd.returns Bd.notSynchronized hZ (Stand.of_body Bd) e0 hh
  exact ⟨s2, o, castTop (hef m) h1, h2⟩
theorem own_retZ (X : Stand p l e R s m args below meth c T locs cells slots) (hx : p.tables.exec = Jvm.exec) (hlk : meth.locks = false) {pc : Nat} {Ls : Array Slot} {z z' : Int32} {rest : List Value} (hret : meth.sig.returnType = some .boolean) (hd : decode c.code pc = .ok (.ireturn, 1)) (hz : nar .boolean z = z')
    (hQ : Qr (some (.int z')) T.heap locs) (hc : cells ≤ R.cells) (hs : slots ≤ R.slots) : own_G p.tables e below T (mkF m pc Ls (.int z :: rest)) (own_P R s Qr) := by
  subst hz
  obtain ⟨fs, hr, hrun, hended, hW, hsame⟩ := X.leave (v := some (.int (nar .boolean z))) (fun h => by rw [hret] at h; cases h) hlk
  exact ⟨_, _, retN X hx hret (by simp) hd hr, hrun, hended, _, _, rfl, hQ, ⟨_, rfl⟩, hW, hsame.mono hc hs⟩
theorem own_retI (X : Stand p l e R s m args below meth c T locs cells slots) (hx : p.tables.exec = Jvm.exec) (hlk : meth.locks = false) {pc : Nat} {Ls : Array Slot} {z : Int32} {rest : List Value} (hret : meth.sig.returnType = some .int) (hd : decode c.code pc = .ok (.ireturn, 1))
    (hQ : Qr (some (.int z)) T.heap locs) (hc : cells ≤ R.cells) (hs : slots ≤ R.slots) : own_G p.tables e below T (mkF m pc Ls (.int z :: rest)) (own_P R s Qr) := by
  obtain ⟨fs, hr, hrun, hended, hW, hsame⟩ := X.leave (v := some (.int z)) (fun h => by rw [hret] at h; cases h) hlk
  exact ⟨_, _, retOut X hx hret rfl (Or.inl ⟨rfl, Or.inl rfl, _, rfl⟩) hd hr, hrun, hended, _, _, rfl, hQ, ⟨_, rfl⟩, hW, hsame.mono hc hs⟩
theorem own_retR (X : Stand p l e R s m args below meth c T locs cells slots) (hx : p.tables.exec = Jvm.exec) (hlk : meth.locks = false) {pc : Nat} {Ls : Array Slot} {w : Value} {t : FieldType} {rest : List Value} (hret : meth.sig.returnType = some t) (hd : decode c.code pc = .ok (.areturn, 1)) (hn : narrow t w = w) (ht : t.isReference = true) (hw : w.isRef = true)
    (hQ : Qr (some w) T.heap locs) (hc : cells ≤ R.cells) (hs : slots ≤ R.slots) : own_G p.tables e below T (mkF m pc Ls (w :: rest)) (own_P R s Qr) := by
  obtain ⟨fs, hr, hrun, hended, hW, hsame⟩ := X.leave (v := some w) (fun h => by rw [hret] at h; cases h) hlk
  exact ⟨_, _, retOut X hx hret hn (Or.inr (Or.inr (Or.inr (Or.inr ⟨rfl, ht, hw⟩)))) hd hr, hrun, hended, _, _, rfl, hQ, ⟨_, rfl⟩, hW, hsame.mono hc hs⟩
theorem own_ret0 (X : Stand p l e R s m args below meth c T locs cells slots) (hx : p.tables.exec = Jvm.exec) (hlk : meth.locks = false) {pc : Nat} {Ls : Array Slot} (hret : meth.sig.returnType = none) (hd : decode c.code pc = .ok (.return_, 1))
    (hQ : Qr none T.heap locs) (hc : cells ≤ R.cells) (hs : slots ≤ R.slots) : own_G p.tables e below T (mkF m pc Ls []) (own_P R s Qr) := by
  obtain ⟨fs, hr, hrun, hended, hW, hsame⟩ := X.leave (v := none) (fun _ => rfl) hlk
  exact ⟨_, _, X.returnOut hx hret hd hr, hrun, hended, _, _, rfl, hQ, ⟨_, rfl⟩, hW, hsame.mono hc hs⟩
theorem own_callV (X : Stand p l e R s m args below meth c T locs cells slots) (hx : p.tables.exec = Jvm.exec) (hZ : Z.Warmed39 s.vm) (eT : T.heap = h) {own C : String} {index : Nat} {y : MethodName} {bytes : ByteArray} {maxL : Nat} {ret : Option FieldType} {R' : Room} {b : Addr} {Qc : Option Value → Heap → List Loc → Prop}
    (hown : s.vm.findClass own = some m.cls) (w1 : (Jvm.Cond.methodLink own index y).before a0 Z = true) (w2 : (Jvm.Cond.declares y).before a0 Z = true) (w3 : (Jvm.Cond.selects C y y).before a0 Z = true) (w4 : (Jvm.Cond.instanceMethod y).before a0 Z = true) (w5 : (Jvm.Cond.code y bytes maxL ret).before a0 Z = true) (w6 : (Jvm.Cond.initialized y.cls).before a0 Z = true)
    (hy : y.cls ≠ "java/lang/invoke/MethodHandle" ∧ y.cls ≠ "java/lang/invoke/VarHandle") (W : Nat) (argsL rest : List Value) (hM : own_C l y bytes maxL ret [] R' (.ref b :: argsL).toArray Z h Qc) (hf : R'.frames + 1 ≤ R.frames) (hl : W + (maxL + 11) + R'.locals ≤ R.locals) (hc : cells + R'.cells ≤ R.cells) (hs : slots + R'.slots ≤ R.slots)
    (E : Exa Z h b C) {g : JFrame} (hg : g.method = m) (hsize : g.locals.size = c.maxLocals) (hlen : ∀ sig, parseMethodDescriptor y.desc = some sig → argsL.length = sig.parameters.length) (hstack : g.stack = argsL.reverse ++ .ref b :: rest) (hW : 2 * g.monitorRoom + (rest.map fun v => v.category).sum ≤ W) (hd : decode c.code g.pc = .ok (.invokevirtual index, 3)) :
    ∃ (T' : State) (L : List Loc) (v : Option Value), Stand p l e R s m args below meth c T' (locs ++ L) (cells + R'.cells) (slots + R'.slots) ∧ Qc v T'.heap L ∧ ∀ target, Steps p.tables e below (T'.setTop { g with pc := g.pc + 3, stack := v.toList ++ rest }) target → Steps p.tables e below (T.setTop g) target := by
  obtain ⟨cq, kq, qa, qb, qc⟩ := isOf hZ eT E
  obtain ⟨v, _, ⟨T2, L2, k2, n2⟩, -, X2, ⟨Lc, hQ, l2, y2, z2⟩, st⟩ := X.virtualBack hx (y := y) (z := y) hown (mvT hZ w1) (mvT hZ w2) (notFace_of_selects (args := #[]) (mvT hZ w3)) (mvT hZ w3) (mvT hZ w4) hy (backOf (W := W) hM hZ w5 w6 hf hl) qa qc (g := g) hg hsize (Steps.refl _) (argsL := argsL) (rest := rest) hlen hstack hW hd (fun _ _ => ⟨rfl, eT, hc, hs⟩)
  dsimp only [Pt.U, Pt.locs, Pt.cells, Pt.slots] at X2 l2 y2 z2 st hQ
  subst l2 y2 z2
  exact ⟨T2, Lc, v, X2, hQ, fun t k => st.trans k⟩
theorem own_callU (X : Stand p l e R s m args below meth c T locs cells slots) (hx : p.tables.exec = Jvm.exec) (hZ : Z.Warmed39 s.vm) (eT : T.heap = h) {own C owner : String} {index : Nat} {y z : MethodName} {bytes : ByteArray} {maxL : Nat} {ret : Option FieldType} {R' : Room} {b : Addr} {Qc : Option Value → Heap → List Loc → Prop}
    (hown : s.vm.findClass own = some m.cls) (w1 : (Jvm.Cond.methodLink own index z).before a0 Z = true) (w0 : (Jvm.Cond.sameMethod z.cls owner z.name z.desc).before a0 Z = true) (w2 : (Jvm.Cond.declares ⟨owner, z.name, z.desc⟩).before a0 Z = true) (w3 : (Jvm.Cond.selects C z y).before a0 Z = true) (w4 : (Jvm.Cond.instanceMethod y).before a0 Z = true) (w5 : (Jvm.Cond.code y bytes maxL ret).before a0 Z = true) (w6 : (Jvm.Cond.initialized y.cls).before a0 Z = true)
    (hy : owner ≠ "java/lang/invoke/MethodHandle" ∧ owner ≠ "java/lang/invoke/VarHandle") (W : Nat) (argsL rest : List Value) (hM : own_C l y bytes maxL ret [] R' (.ref b :: argsL).toArray Z h Qc) (hf : R'.frames + 1 ≤ R.frames) (hl : W + (maxL + 11) + R'.locals ≤ R.locals) (hc : cells + R'.cells ≤ R.cells) (hs : slots + R'.slots ≤ R.slots)
    (E : Exa Z h b C) {g : JFrame} (hg : g.method = m) (hsize : g.locals.size = c.maxLocals) (hlen : ∀ sig, parseMethodDescriptor z.desc = some sig → argsL.length = sig.parameters.length) (hstack : g.stack = argsL.reverse ++ .ref b :: rest) (hW : 2 * g.monitorRoom + (rest.map fun v => v.category).sum ≤ W) (hd : decode c.code g.pc = .ok (.invokevirtual index, 3)) :
    ∃ (T' : State) (L : List Loc) (v : Option Value), Stand p l e R s m args below meth c T' (locs ++ L) (cells + R'.cells) (slots + R'.slots) ∧ Qc v T'.heap L ∧ ∀ target, Steps p.tables e below (T'.setTop { g with pc := g.pc + 3, stack := v.toList ++ rest }) target → Steps p.tables e below (T.setTop g) target := by
  obtain ⟨cq, kq, qa, qb, qc⟩ := isOf hZ eT E
  obtain ⟨v, _, ⟨T2, L2, k2, n2⟩, -, X2, ⟨Lc, hQ, l2, y2, z2⟩, st⟩ := X.virtualBackUp hx (x := z) (y := y) hown (mvT hZ w1) (mvT hZ w0) (mvT hZ w2) hy (mvT hZ w3) (mvT hZ w4) (backOf (W := W) hM hZ w5 w6 hf hl) qa qc (g := g) hg hsize (Steps.refl _) (argsL := argsL) (rest := rest) hlen hstack hW hd (fun _ _ => ⟨rfl, eT, hc, hs⟩)
  dsimp only [Pt.U, Pt.locs, Pt.cells, Pt.slots] at X2 l2 y2 z2 st hQ
  subst l2 y2 z2
  exact ⟨T2, Lc, v, X2, hQ, fun t k => st.trans k⟩
theorem own_callS (X : Stand p l e R s m args below meth c T locs cells slots) (hx : p.tables.exec = Jvm.exec) (hZ : Z.Warmed39 s.vm) (eT : T.heap = h) {own : String} {index : Nat} {y : MethodName} {bytes : ByteArray} {maxL : Nat} {ret : Option FieldType} {R' : Room} {Qc : Option Value → Heap → List Loc → Prop}
    (hown : s.vm.findClass own = some m.cls) (w1 : (Jvm.Cond.methodLink own index y).before a0 Z = true) (w2 : (Jvm.Cond.static y).before a0 Z = true) (w5 : (Jvm.Cond.code y bytes maxL ret).before a0 Z = true) (w6 : (Jvm.Cond.initialized y.cls).before a0 Z = true)
    (hy : y.cls ≠ "java/lang/invoke/MethodHandle" ∧ y.cls ≠ "java/lang/invoke/VarHandle") (W : Nat) (argsL rest : List Value) (hM : own_C l y bytes maxL ret [] R' argsL.toArray Z h Qc) (hf : R'.frames + 1 ≤ R.frames) (hl : W + (maxL + 11) + R'.locals ≤ R.locals) (hc : cells + R'.cells ≤ R.cells) (hs : slots + R'.slots ≤ R.slots)
    {g : JFrame} (hg : g.method = m) (hsize : g.locals.size = c.maxLocals) (hlen : ∀ sig, parseMethodDescriptor y.desc = some sig → argsL.length = sig.parameters.length) (hstack : g.stack = argsL.reverse ++ rest) (hW : 2 * g.monitorRoom + (rest.map fun v => v.category).sum ≤ W) (hd : decode c.code g.pc = .ok (.invokestatic index, 3)) :
    ∃ (T' : State) (L : List Loc) (v : Option Value), Stand p l e R s m args below meth c T' (locs ++ L) (cells + R'.cells) (slots + R'.slots) ∧ Qc v T'.heap L ∧ ∀ target, Steps p.tables e below (T'.setTop { g with pc := g.pc + 3, stack := v.toList ++ rest }) target → Steps p.tables e below (T.setTop g) target := by
  obtain ⟨v, _, ⟨T2, L2, k2, n2⟩, -, X2, ⟨Lc, hQ, l2, y2, z2⟩, st⟩ := Jvm.LawKit.callS X hx (y := y) hown (mvT hZ w1) (mvT hZ w2) (mvT hZ w6) (mvT hZ w5) hy (backOf (W := W) hM hZ w5 w6 hf hl) (g := g) hg hsize (argsL := argsL) (rest := rest) hlen hstack hW hd (fun _ _ => ⟨rfl, eT, hc, hs⟩)
  dsimp only [Pt.U, Pt.locs, Pt.cells, Pt.slots] at X2 l2 y2 z2 st hQ
  subst l2 y2 z2
  exact ⟨T2, Lc, v, X2, hQ, st⟩
theorem own_callI (X : Stand p l e R s m args below meth c T locs cells slots) (hx : p.tables.exec = Jvm.exec) (hZ : Z.Warmed39 s.vm) (eT : T.heap = h) {own : String} {index : Nat} {y : MethodName} {bytes : ByteArray} {maxL : Nat} {R' : Room} {b : Addr} {Qc : Option Value → Heap → List Loc → Prop} (hy1 : y.name = "<init>")
    (hown : s.vm.findClass own = some m.cls) (w1 : (Jvm.Cond.methodLink own index y).before a0 Z = true) (w4 : (Jvm.Cond.instanceMethod y).before a0 Z = true) (w5 : (Jvm.Cond.code y bytes maxL none).before a0 Z = true) (w6 : (Jvm.Cond.initialized y.cls).before a0 Z = true)
    (hy : y.cls ≠ "java/lang/invoke/MethodHandle" ∧ y.cls ≠ "java/lang/invoke/VarHandle") (W : Nat) (argsL rest : List Value) (hM : own_C l y bytes maxL none [] R' (.ref b :: argsL).toArray Z h Qc) (hf : R'.frames + 1 ≤ R.frames) (hl : W + (maxL + 11) + R'.locals ≤ R.locals) (hc : cells + R'.cells ≤ R.cells) (hs : slots + R'.slots ≤ R.slots)
    {g : JFrame} (hg : g.method = m) (hsize : g.locals.size = c.maxLocals) (hlen : ∀ sig, parseMethodDescriptor y.desc = some sig → argsL.length = sig.parameters.length) (hstack : g.stack = argsL.reverse ++ .ref b :: rest) (hW : 2 * g.monitorRoom + (rest.map fun v => v.category).sum ≤ W) (hd : decode c.code g.pc = .ok (.invokespecial index, 3)) :
    ∃ (T' : State) (L : List Loc) (v : Option Value), Stand p l e R s m args below meth c T' (locs ++ L) (cells + R'.cells) (slots + R'.slots) ∧ Qc v T'.heap L ∧ ∀ target, Steps p.tables e below (T'.setTop { g with pc := g.pc + 3, stack := v.toList ++ rest }) target → Steps p.tables e below (T.setTop g) target := by
  obtain ⟨v, _, ⟨T2, L2, k2, n2⟩, -, X2, ⟨Lc, hQ, l2, y2, z2⟩, st⟩ := X.specialBack hx (y := y) hy1 hown (mvT hZ w1) (mvT hZ w4) (mvT hZ w5) hy (backOf (W := W) hM hZ w5 w6 hf hl) (g := g) hg hsize (Steps.refl _) (a := b) (argsL := argsL) (rest := rest) hlen hstack hW hd (fun _ _ => ⟨rfl, eT, hc, hs⟩)
  dsimp only [Pt.U, Pt.locs, Pt.cells, Pt.slots] at X2 l2 y2 z2 st hQ
  subst l2 y2 z2
  exact ⟨T2, Lc, v, X2, hQ, fun t k => st.trans k⟩
/-- a callee that leaves the heap alone: what it returns -/
abbrev own_Q0 (v : Option Value) (h0 : Heap) : Option Value → Heap → List Loc → Prop := fun v' h' L => v' = v ∧ h' = h0 ∧ L = []
abbrev own_R (f n : Nat) : Room := { frames := f, cells := 0, slots := 0, locals := n }
theorem own_pure {f n : Nat} {v : Option Value} {h0 : Heap} {P : State → Option Value → Prop}
    (q : ∃ (T' : State) (L : List Loc) (v' : Option Value), Stand p l e R s m args below meth c T' (locs ++ L) (cells + (own_R f n).cells) (slots + (own_R f n).slots) ∧ own_Q0 v h0 v' T'.heap L ∧ P T' v') : ∃ T', Stand p l e R s m args below meth c T' locs cells slots ∧ T'.heap = h0 ∧ P T' v := by
  obtain ⟨T', L, v', X, ⟨rfl, hh, rfl⟩, k⟩ := q
  rw [List.append_nil] at X
  exact ⟨T', X, hh, k⟩
theorem own_eqI {ar : Array Value} {first st : State} {o : Option Outcome} {idx : List Nat} {t : Term} {n : Int32} (q : (Jvm.Cond.eq t (.int n)).value ar first o st idx = some true) : t.eval ar first o idx st = some (.int n) := by
  simp only [Jvm.Cond.value, Term.eval] at q
  cases ht : t.eval ar first o idx st with
  | none => simp [ht] at q
  | some x => cases x <;> simp [ht] at q ⊢; exact q
theorem own_eqR {ar : Array Value} {first st : State} {o : Option Outcome} {idx : List Nat} {t u : Term} {b : Addr} (q : (Jvm.Cond.eq t u).value ar first o st idx = some true) (hu : u.eval ar first o idx st = some (.ref b)) : t.eval ar first o idx st = some (.ref b) := by
  cases ht : t.eval ar first o idx st with
  | none => simp [Jvm.Cond.value, ht] at q
  | some x => cases x <;> simp [Jvm.Cond.value, ht, hu] at q ⊢; exact q
theorem own_arrlen {ar : Array Value} {st : State} {t : Term} {a : Addr} {cl : Cell} {ty : FieldType} {n : Int32} (A : Arr st st.heap a cl ty) (ht : t.eval ar st none [] st = some (.ref a)) (hl : (Term.length t).eval ar st none [] st = some (.int n)) : cl.slots.size < 2 ^ 31 ∧ cl.slots.size.toInt32 = n := by
  have ha : st.arrayAt? a = some cl := Arr.fin (Vm.Alike.refl _) A
  by_cases q : cl.slots.size < 2 ^ 31
  · rw [len_f ht ha q] at hl
    exact ⟨q, Value.int.inj (Option.some.inj hl)⟩
  · simp [Term.eval, ht, ha, q] at hl
theorem own_neI {a b : Int32} (q : a ≠ b) : (Value.int a) ≠ (Value.int b) := fun z => q (Value.int.inj z)
end OwnKit

theorem pd_0 : parseMethodDescriptor "(ZZ)Z" = some ⟨[.boolean, .boolean], some .boolean⟩ := by decide +kernel
theorem own_c3 (z : Int32) (q0 : 0 ≤ z.toInt) (q1 : z.toInt < 3) : z = (0 : Int32) ∨ z = (1 : Int32) ∨ z = (2 : Int32) := by
  simp only [← Int32.toInt_inj, show (0 : Int32).toInt = 0 from rfl, show (1 : Int32).toInt = 1 from rfl, show (2 : Int32).toInt = 2 from rfl]
  omega
theorem own_r3 (z : Int32) : (z &&& (2147483647 : Int32)) % (3 : Int32) = (0 : Int32) ∨ (z &&& (2147483647 : Int32)) % (3 : Int32) = (1 : Int32) ∨ (z &&& (2147483647 : Int32)) % (3 : Int32) = (2 : Int32) := by
  have q := c_mask z (2147483647 : Int32) 31 (by decide) (by decide)
  have r := (c_irem (z &&& (2147483647 : Int32)) (3 : Int32) 3 rfl).1 (by omega)
  exact own_c3 _ (by omega) (by omega)
def own_F (Z : State) (h : Heap) (w_BOTH w_EXACTLY_ONE w_FIRST_ONLY : Addr) : Prop :=
  Sta Z h "com/example/witness/witness/pattern/Dfa$Combination" "BOTH" "Lcom/example/witness/witness/pattern/Dfa$Combination;" (.ref w_BOTH) ∧
  Exa Z h w_BOTH "com/example/witness/witness/pattern/Dfa$Combination" ∧
  Sta Z h "com/example/witness/witness/pattern/Dfa$Combination" "EXACTLY_ONE" "Lcom/example/witness/witness/pattern/Dfa$Combination;" (.ref w_EXACTLY_ONE) ∧
  Exa Z h w_EXACTLY_ONE "com/example/witness/witness/pattern/Dfa$Combination" ∧
  Sta Z h "com/example/witness/witness/pattern/Dfa$Combination" "FIRST_ONLY" "Lcom/example/witness/witness/pattern/Dfa$Combination;" (.ref w_FIRST_ONLY) ∧
  Exa Z h w_FIRST_ONLY "com/example/witness/witness/pattern/Dfa$Combination" ∧
  Fld Z h w_EXACTLY_ONE "java/lang/Enum" "ordinal" "I" (.int (2 : Int32)) ∧
  Fld Z h w_BOTH "java/lang/Enum" "ordinal" "I" (.int (0 : Int32)) ∧
  Fld Z h w_FIRST_ONLY "java/lang/Enum" "ordinal" "I" (.int (1 : Int32))
theorem d1_0 : decode prog_16_method_4_code 0 = .ok (.aload_n 0, 1) := by decide +kernel
theorem d1_1 : decode prog_16_method_4_code 1 = .ok (.getstatic 3, 3) := by decide +kernel
theorem d1_4 : decode prog_16_method_4_code 4 = .ok (.if_acmp .ne 20, 3) := by decide +kernel
theorem d1_7 : decode prog_16_method_4_code 7 = .ok (.iload_n 1, 1) := by decide +kernel
theorem d1_8 : decode prog_16_method_4_code 8 = .ok (.ifCond .eq 11, 3) := by decide +kernel
theorem d1_19 : decode prog_16_method_4_code 19 = .ok (.iconst 0, 1) := by decide +kernel
theorem d1_20 : decode prog_16_method_4_code 20 = .ok (.istore_n 3, 1) := by decide +kernel
theorem d1_21 : decode prog_16_method_4_code 21 = .ok (.goto 38, 3) := by decide +kernel
theorem d1_59 : decode prog_16_method_4_code 59 = .ok (.iload_n 3, 1) := by decide +kernel
theorem d1_60 : decode prog_16_method_4_code 60 = .ok (.ireturn, 1) := by decide +kernel
set_option maxRecDepth 65536 in
set_option maxHeartbeats 40000000 in
theorem own_b1_BOTH_00 (l : Launch) (Z : State) (a0 : Array Value) (hw : ∀ d ∈ tables_1, d.before a0 Z = true) (ws : List Jvm.Cond) (w_BOTH w_EXACTLY_ONE w_FIRST_ONLY : Addr) (h0 : Heap) (F : own_F Z h0 w_BOTH w_EXACTLY_ONE w_FIRST_ONLY)  :
    own_C l (⟨"com/example/witness/witness/pattern/Dfa$Combination", "accepts", "(ZZ)Z"⟩ : MethodName) prog_16_method_4_code 4 (some .boolean) ws (own_R 0 0) #[(.ref w_BOTH), (.int (0 : Int32)), (.int (0 : Int32))] Z h0 (own_Q0 (some (.int (0 : Int32))) h0) := by
  have F0 := F
  obtain ⟨S_BOTH, E_BOTH, S_EXACTLY_ONE, E_EXACTLY_ONE, S_FIRST_ONLY, E_FIRST_ONLY, F_ordinal_EXACTLY_ONE, F_ordinal_BOTH, F_ordinal_FIRST_ONLY⟩ := F
  refine own_enter (LS := #[rv w_BOTH, iv (0 : Int32), iv (0 : Int32), .unset]) (plainFor_of_name (by first | (simp [plainName, overriddenIn, x]; done) | decide +kernel)) (fun m => by first | (simp [entryFrame, mkF, argsToLocals, Value.category, maxLocals]; done) | rfl) ?_
  intro p e s m below meth c s₁ hx hby hml hown0 hnm hret hlk hZ X0 e0 hsh
  have hown : s.vm.findClass "com/example/witness/witness/pattern/Dfa$Combination" = some m.cls := hown0
  refine own_pre (T' := s₁) (f' := (mkF m 1 #[rv w_BOTH, iv (0 : Int32), iv (0 : Int32), .unset] [(.ref w_BOTH)])) (fun t k => XS.aloadN X0.here hx rfl (hb hby d1_0) rfl rfl k) ?_
  obtain ⟨T1, X1, e1, st1⟩ := getS2 X0 hx hZ hown (host := "") (Or.inl (hw _ (List.mem_of_getElem? (i := 9) rfl))) Via.refl e0 S_BOTH (g := (mkF m 1 #[rv w_BOTH, iv (0 : Int32), iv (0 : Int32), .unset] [(.ref w_BOTH)])) rfl (hb hby d1_1)
  refine own_pre (T' := T1) (f' := (mkF m 4 #[rv w_BOTH, iv (0 : Int32), iv (0 : Int32), .unset] [(.ref w_BOTH), (.ref w_BOTH)])) (fun t k => st1 t k) ?_
  refine own_pre (T' := T1) (f' := (mkF m 7 #[rv w_BOTH, iv (0 : Int32), iv (0 : Int32), .unset] [])) (fun t k => Jvm.RoadKit.acmp (g := (mkF m 4 #[rv w_BOTH, iv (0 : Int32), iv (0 : Int32), .unset] [(.ref w_BOTH), (.ref w_BOTH)])) X1 hx rfl rfl rfl (pc0 := 4) (pc' := 7) (same := true) rfl (hb hby d1_4) rfl (decide_eq_true rfl) (by decide) (by decide) k) ?_
  refine own_pre (T' := T1) (f' := (mkF m 8 #[rv w_BOTH, iv (0 : Int32), iv (0 : Int32), .unset] [(.int (0 : Int32))])) (fun t k => XS.iloadN X1.here hx rfl (hb hby d1_7) rfl k) ?_
  refine own_pre (T' := T1) (f' := (mkF m 19 #[rv w_BOTH, iv (0 : Int32), iv (0 : Int32), .unset] [])) (fun t k => XS.ifYes X1.here hx rfl (pc0 := 8) (pc' := 19) rfl (hb hby d1_8) rfl ((if0 _ _).trans (teq (by decide : (0 : Int32) = (0 : Int32))).1) (by decide) (by decide) k) ?_
  refine own_pre (T' := T1) (f' := (mkF m 20 #[rv w_BOTH, iv (0 : Int32), iv (0 : Int32), .unset] [(.int (0 : Int32))])) (fun t k => XS.iconst X1.here hx rfl (hb hby d1_19) k) ?_
  refine own_pre (T' := T1) (f' := (mkF m 21 #[rv w_BOTH, iv (0 : Int32), iv (0 : Int32), iv (0 : Int32)] [])) (fun t k => XS.istoreN X1.here hx rfl (hb hby d1_20) rfl (l' := #[rv w_BOTH, iv (0 : Int32), iv (0 : Int32), iv (0 : Int32)]) rfl k) ?_
  refine own_pre (T' := T1) (f' := (mkF m 59 #[rv w_BOTH, iv (0 : Int32), iv (0 : Int32), iv (0 : Int32)] [])) (fun t k => XS.goto X1.here hx rfl (pc0 := 21) (pc' := 59) rfl (hb hby d1_21) (by decide) (by decide) k) ?_
  refine own_pre (T' := T1) (f' := (mkF m 60 #[rv w_BOTH, iv (0 : Int32), iv (0 : Int32), iv (0 : Int32)] [(.int (0 : Int32))])) (fun t k => XS.iloadN X1.here hx rfl (hb hby d1_59) rfl k) ?_
  exact own_retZ X1 hx hlk hret (hb hby d1_60) rfl (⟨rfl, e1, rfl⟩) (by decide) (by decide)
set_option maxRecDepth 65536 in
set_option maxHeartbeats 40000000 in
theorem own_b1_BOTH_01 (l : Launch) (Z : State) (a0 : Array Value) (hw : ∀ d ∈ tables_1, d.before a0 Z = true) (ws : List Jvm.Cond) (w_BOTH w_EXACTLY_ONE w_FIRST_ONLY : Addr) (h0 : Heap) (F : own_F Z h0 w_BOTH w_EXACTLY_ONE w_FIRST_ONLY)  :
    own_C l (⟨"com/example/witness/witness/pattern/Dfa$Combination", "accepts", "(ZZ)Z"⟩ : MethodName) prog_16_method_4_code 4 (some .boolean) ws (own_R 0 0) #[(.ref w_BOTH), (.int (0 : Int32)), (.int (1 : Int32))] Z h0 (own_Q0 (some (.int (0 : Int32))) h0) := by
  have F0 := F
  obtain ⟨S_BOTH, E_BOTH, S_EXACTLY_ONE, E_EXACTLY_ONE, S_FIRST_ONLY, E_FIRST_ONLY, F_ordinal_EXACTLY_ONE, F_ordinal_BOTH, F_ordinal_FIRST_ONLY⟩ := F
  refine own_enter (LS := #[rv w_BOTH, iv (0 : Int32), iv (1 : Int32), .unset]) (plainFor_of_name (by first | (simp [plainName, overriddenIn, x]; done) | decide +kernel)) (fun m => by first | (simp [entryFrame, mkF, argsToLocals, Value.category, maxLocals]; done) | rfl) ?_
  intro p e s m below meth c s₁ hx hby hml hown0 hnm hret hlk hZ X0 e0 hsh
  have hown : s.vm.findClass "com/example/witness/witness/pattern/Dfa$Combination" = some m.cls := hown0
  refine own_pre (T' := s₁) (f' := (mkF m 1 #[rv w_BOTH, iv (0 : Int32), iv (1 : Int32), .unset] [(.ref w_BOTH)])) (fun t k => XS.aloadN X0.here hx rfl (hb hby d1_0) rfl rfl k) ?_
  obtain ⟨T1, X1, e1, st1⟩ := getS2 X0 hx hZ hown (host := "") (Or.inl (hw _ (List.mem_of_getElem? (i := 9) rfl))) Via.refl e0 S_BOTH (g := (mkF m 1 #[rv w_BOTH, iv (0 : Int32), iv (1 : Int32), .unset] [(.ref w_BOTH)])) rfl (hb hby d1_1)
  refine own_pre (T' := T1) (f' := (mkF m 4 #[rv w_BOTH, iv (0 : Int32), iv (1 : Int32), .unset] [(.ref w_BOTH), (.ref w_BOTH)])) (fun t k => st1 t k) ?_
  refine own_pre (T' := T1) (f' := (mkF m 7 #[rv w_BOTH, iv (0 : Int32), iv (1 : Int32), .unset] [])) (fun t k => Jvm.RoadKit.acmp (g := (mkF m 4 #[rv w_BOTH, iv (0 : Int32), iv (1 : Int32), .unset] [(.ref w_BOTH), (.ref w_BOTH)])) X1 hx rfl rfl rfl (pc0 := 4) (pc' := 7) (same := true) rfl (hb hby d1_4) rfl (decide_eq_true rfl) (by decide) (by decide) k) ?_
  refine own_pre (T' := T1) (f' := (mkF m 8 #[rv w_BOTH, iv (0 : Int32), iv (1 : Int32), .unset] [(.int (0 : Int32))])) (fun t k => XS.iloadN X1.here hx rfl (hb hby d1_7) rfl k) ?_
  refine own_pre (T' := T1) (f' := (mkF m 19 #[rv w_BOTH, iv (0 : Int32), iv (1 : Int32), .unset] [])) (fun t k => XS.ifYes X1.here hx rfl (pc0 := 8) (pc' := 19) rfl (hb hby d1_8) rfl ((if0 _ _).trans (teq (by decide : (0 : Int32) = (0 : Int32))).1) (by decide) (by decide) k) ?_
  refine own_pre (T' := T1) (f' := (mkF m 20 #[rv w_BOTH, iv (0 : Int32), iv (1 : Int32), .unset] [(.int (0 : Int32))])) (fun t k => XS.iconst X1.here hx rfl (hb hby d1_19) k) ?_
  refine own_pre (T' := T1) (f' := (mkF m 21 #[rv w_BOTH, iv (0 : Int32), iv (1 : Int32), iv (0 : Int32)] [])) (fun t k => XS.istoreN X1.here hx rfl (hb hby d1_20) rfl (l' := #[rv w_BOTH, iv (0 : Int32), iv (1 : Int32), iv (0 : Int32)]) rfl k) ?_
  refine own_pre (T' := T1) (f' := (mkF m 59 #[rv w_BOTH, iv (0 : Int32), iv (1 : Int32), iv (0 : Int32)] [])) (fun t k => XS.goto X1.here hx rfl (pc0 := 21) (pc' := 59) rfl (hb hby d1_21) (by decide) (by decide) k) ?_
  refine own_pre (T' := T1) (f' := (mkF m 60 #[rv w_BOTH, iv (0 : Int32), iv (1 : Int32), iv (0 : Int32)] [(.int (0 : Int32))])) (fun t k => XS.iloadN X1.here hx rfl (hb hby d1_59) rfl k) ?_
  exact own_retZ X1 hx hlk hret (hb hby d1_60) rfl (⟨rfl, e1, rfl⟩) (by decide) (by decide)
theorem d1_11 : decode prog_16_method_4_code 11 = .ok (.iload_n 2, 1) := by decide +kernel
theorem d1_12 : decode prog_16_method_4_code 12 = .ok (.ifCond .eq 7, 3) := by decide +kernel
set_option maxRecDepth 65536 in
set_option maxHeartbeats 40000000 in
theorem own_b1_BOTH_10 (l : Launch) (Z : State) (a0 : Array Value) (hw : ∀ d ∈ tables_1, d.before a0 Z = true) (ws : List Jvm.Cond) (w_BOTH w_EXACTLY_ONE w_FIRST_ONLY : Addr) (h0 : Heap) (F : own_F Z h0 w_BOTH w_EXACTLY_ONE w_FIRST_ONLY)  :
    own_C l (⟨"com/example/witness/witness/pattern/Dfa$Combination", "accepts", "(ZZ)Z"⟩ : MethodName) prog_16_method_4_code 4 (some .boolean) ws (own_R 0 0) #[(.ref w_BOTH), (.int (1 : Int32)), (.int (0 : Int32))] Z h0 (own_Q0 (some (.int (0 : Int32))) h0) := by
  have F0 := F
  obtain ⟨S_BOTH, E_BOTH, S_EXACTLY_ONE, E_EXACTLY_ONE, S_FIRST_ONLY, E_FIRST_ONLY, F_ordinal_EXACTLY_ONE, F_ordinal_BOTH, F_ordinal_FIRST_ONLY⟩ := F
  refine own_enter (LS := #[rv w_BOTH, iv (1 : Int32), iv (0 : Int32), .unset]) (plainFor_of_name (by first | (simp [plainName, overriddenIn, x]; done) | decide +kernel)) (fun m => by first | (simp [entryFrame, mkF, argsToLocals, Value.category, maxLocals]; done) | rfl) ?_
  intro p e s m below meth c s₁ hx hby hml hown0 hnm hret hlk hZ X0 e0 hsh
  have hown : s.vm.findClass "com/example/witness/witness/pattern/Dfa$Combination" = some m.cls := hown0
  refine own_pre (T' := s₁) (f' := (mkF m 1 #[rv w_BOTH, iv (1 : Int32), iv (0 : Int32), .unset] [(.ref w_BOTH)])) (fun t k => XS.aloadN X0.here hx rfl (hb hby d1_0) rfl rfl k) ?_
  obtain ⟨T1, X1, e1, st1⟩ := getS2 X0 hx hZ hown (host := "") (Or.inl (hw _ (List.mem_of_getElem? (i := 9) rfl))) Via.refl e0 S_BOTH (g := (mkF m 1 #[rv w_BOTH, iv (1 : Int32), iv (0 : Int32), .unset] [(.ref w_BOTH)])) rfl (hb hby d1_1)
  refine own_pre (T' := T1) (f' := (mkF m 4 #[rv w_BOTH, iv (1 : Int32), iv (0 : Int32), .unset] [(.ref w_BOTH), (.ref w_BOTH)])) (fun t k => st1 t k) ?_
  refine own_pre (T' := T1) (f' := (mkF m 7 #[rv w_BOTH, iv (1 : Int32), iv (0 : Int32), .unset] [])) (fun t k => Jvm.RoadKit.acmp (g := (mkF m 4 #[rv w_BOTH, iv (1 : Int32), iv (0 : Int32), .unset] [(.ref w_BOTH), (.ref w_BOTH)])) X1 hx rfl rfl rfl (pc0 := 4) (pc' := 7) (same := true) rfl (hb hby d1_4) rfl (decide_eq_true rfl) (by decide) (by decide) k) ?_
  refine own_pre (T' := T1) (f' := (mkF m 8 #[rv w_BOTH, iv (1 : Int32), iv (0 : Int32), .unset] [(.int (1 : Int32))])) (fun t k => XS.iloadN X1.here hx rfl (hb hby d1_7) rfl k) ?_
  refine own_pre (T' := T1) (f' := (mkF m 11 #[rv w_BOTH, iv (1 : Int32), iv (0 : Int32), .unset] [])) (fun t k => XS.ifNo X1.here hx rfl (hb hby d1_8) rfl ((if0 _ _).trans (feq (by decide : ¬ ((1 : Int32) = (0 : Int32)))).1) k) ?_
  refine own_pre (T' := T1) (f' := (mkF m 12 #[rv w_BOTH, iv (1 : Int32), iv (0 : Int32), .unset] [(.int (0 : Int32))])) (fun t k => XS.iloadN X1.here hx rfl (hb hby d1_11) rfl k) ?_
  refine own_pre (T' := T1) (f' := (mkF m 19 #[rv w_BOTH, iv (1 : Int32), iv (0 : Int32), .unset] [])) (fun t k => XS.ifYes X1.here hx rfl (pc0 := 12) (pc' := 19) rfl (hb hby d1_12) rfl ((if0 _ _).trans (teq (by decide : (0 : Int32) = (0 : Int32))).1) (by decide) (by decide) k) ?_
  refine own_pre (T' := T1) (f' := (mkF m 20 #[rv w_BOTH, iv (1 : Int32), iv (0 : Int32), .unset] [(.int (0 : Int32))])) (fun t k => XS.iconst X1.here hx rfl (hb hby d1_19) k) ?_
  refine own_pre (T' := T1) (f' := (mkF m 21 #[rv w_BOTH, iv (1 : Int32), iv (0 : Int32), iv (0 : Int32)] [])) (fun t k => XS.istoreN X1.here hx rfl (hb hby d1_20) rfl (l' := #[rv w_BOTH, iv (1 : Int32), iv (0 : Int32), iv (0 : Int32)]) rfl k) ?_
  refine own_pre (T' := T1) (f' := (mkF m 59 #[rv w_BOTH, iv (1 : Int32), iv (0 : Int32), iv (0 : Int32)] [])) (fun t k => XS.goto X1.here hx rfl (pc0 := 21) (pc' := 59) rfl (hb hby d1_21) (by decide) (by decide) k) ?_
  refine own_pre (T' := T1) (f' := (mkF m 60 #[rv w_BOTH, iv (1 : Int32), iv (0 : Int32), iv (0 : Int32)] [(.int (0 : Int32))])) (fun t k => XS.iloadN X1.here hx rfl (hb hby d1_59) rfl k) ?_
  exact own_retZ X1 hx hlk hret (hb hby d1_60) rfl (⟨rfl, e1, rfl⟩) (by decide) (by decide)
theorem d1_15 : decode prog_16_method_4_code 15 = .ok (.iconst 1, 1) := by decide +kernel
theorem d1_16 : decode prog_16_method_4_code 16 = .ok (.goto 4, 3) := by decide +kernel
set_option maxRecDepth 65536 in
set_option maxHeartbeats 40000000 in
theorem own_b1_BOTH_11 (l : Launch) (Z : State) (a0 : Array Value) (hw : ∀ d ∈ tables_1, d.before a0 Z = true) (ws : List Jvm.Cond) (w_BOTH w_EXACTLY_ONE w_FIRST_ONLY : Addr) (h0 : Heap) (F : own_F Z h0 w_BOTH w_EXACTLY_ONE w_FIRST_ONLY)  :
    own_C l (⟨"com/example/witness/witness/pattern/Dfa$Combination", "accepts", "(ZZ)Z"⟩ : MethodName) prog_16_method_4_code 4 (some .boolean) ws (own_R 0 0) #[(.ref w_BOTH), (.int (1 : Int32)), (.int (1 : Int32))] Z h0 (own_Q0 (some (.int (1 : Int32))) h0) := by
  have F0 := F
  obtain ⟨S_BOTH, E_BOTH, S_EXACTLY_ONE, E_EXACTLY_ONE, S_FIRST_ONLY, E_FIRST_ONLY, F_ordinal_EXACTLY_ONE, F_ordinal_BOTH, F_ordinal_FIRST_ONLY⟩ := F
  refine own_enter (LS := #[rv w_BOTH, iv (1 : Int32), iv (1 : Int32), .unset]) (plainFor_of_name (by first | (simp [plainName, overriddenIn, x]; done) | decide +kernel)) (fun m => by first | (simp [entryFrame, mkF, argsToLocals, Value.category, maxLocals]; done) | rfl) ?_
  intro p e s m below meth c s₁ hx hby hml hown0 hnm hret hlk hZ X0 e0 hsh
  have hown : s.vm.findClass "com/example/witness/witness/pattern/Dfa$Combination" = some m.cls := hown0
  refine own_pre (T' := s₁) (f' := (mkF m 1 #[rv w_BOTH, iv (1 : Int32), iv (1 : Int32), .unset] [(.ref w_BOTH)])) (fun t k => XS.aloadN X0.here hx rfl (hb hby d1_0) rfl rfl k) ?_
  obtain ⟨T1, X1, e1, st1⟩ := getS2 X0 hx hZ hown (host := "") (Or.inl (hw _ (List.mem_of_getElem? (i := 9) rfl))) Via.refl e0 S_BOTH (g := (mkF m 1 #[rv w_BOTH, iv (1 : Int32), iv (1 : Int32), .unset] [(.ref w_BOTH)])) rfl (hb hby d1_1)
  refine own_pre (T' := T1) (f' := (mkF m 4 #[rv w_BOTH, iv (1 : Int32), iv (1 : Int32), .unset] [(.ref w_BOTH), (.ref w_BOTH)])) (fun t k => st1 t k) ?_
  refine own_pre (T' := T1) (f' := (mkF m 7 #[rv w_BOTH, iv (1 : Int32), iv (1 : Int32), .unset] [])) (fun t k => Jvm.RoadKit.acmp (g := (mkF m 4 #[rv w_BOTH, iv (1 : Int32), iv (1 : Int32), .unset] [(.ref w_BOTH), (.ref w_BOTH)])) X1 hx rfl rfl rfl (pc0 := 4) (pc' := 7) (same := true) rfl (hb hby d1_4) rfl (decide_eq_true rfl) (by decide) (by decide) k) ?_
  refine own_pre (T' := T1) (f' := (mkF m 8 #[rv w_BOTH, iv (1 : Int32), iv (1 : Int32), .unset] [(.int (1 : Int32))])) (fun t k => XS.iloadN X1.here hx rfl (hb hby d1_7) rfl k) ?_
  refine own_pre (T' := T1) (f' := (mkF m 11 #[rv w_BOTH, iv (1 : Int32), iv (1 : Int32), .unset] [])) (fun t k => XS.ifNo X1.here hx rfl (hb hby d1_8) rfl ((if0 _ _).trans (feq (by decide : ¬ ((1 : Int32) = (0 : Int32)))).1) k) ?_
  refine own_pre (T' := T1) (f' := (mkF m 12 #[rv w_BOTH, iv (1 : Int32), iv (1 : Int32), .unset] [(.int (1 : Int32))])) (fun t k => XS.iloadN X1.here hx rfl (hb hby d1_11) rfl k) ?_
  refine own_pre (T' := T1) (f' := (mkF m 15 #[rv w_BOTH, iv (1 : Int32), iv (1 : Int32), .unset] [])) (fun t k => XS.ifNo X1.here hx rfl (hb hby d1_12) rfl ((if0 _ _).trans (feq (by decide : ¬ ((1 : Int32) = (0 : Int32)))).1) k) ?_
  refine own_pre (T' := T1) (f' := (mkF m 16 #[rv w_BOTH, iv (1 : Int32), iv (1 : Int32), .unset] [(.int (1 : Int32))])) (fun t k => XS.iconst X1.here hx rfl (hb hby d1_15) k) ?_
  refine own_pre (T' := T1) (f' := (mkF m 20 #[rv w_BOTH, iv (1 : Int32), iv (1 : Int32), .unset] [(.int (1 : Int32))])) (fun t k => XS.goto X1.here hx rfl (pc0 := 16) (pc' := 20) rfl (hb hby d1_16) (by decide) (by decide) k) ?_
  refine own_pre (T' := T1) (f' := (mkF m 21 #[rv w_BOTH, iv (1 : Int32), iv (1 : Int32), iv (1 : Int32)] [])) (fun t k => XS.istoreN X1.here hx rfl (hb hby d1_20) rfl (l' := #[rv w_BOTH, iv (1 : Int32), iv (1 : Int32), iv (1 : Int32)]) rfl k) ?_
  refine own_pre (T' := T1) (f' := (mkF m 59 #[rv w_BOTH, iv (1 : Int32), iv (1 : Int32), iv (1 : Int32)] [])) (fun t k => XS.goto X1.here hx rfl (pc0 := 21) (pc' := 59) rfl (hb hby d1_21) (by decide) (by decide) k) ?_
  refine own_pre (T' := T1) (f' := (mkF m 60 #[rv w_BOTH, iv (1 : Int32), iv (1 : Int32), iv (1 : Int32)] [(.int (1 : Int32))])) (fun t k => XS.iloadN X1.here hx rfl (hb hby d1_59) rfl k) ?_
  exact own_retZ X1 hx hlk hret (hb hby d1_60) rfl (⟨rfl, e1, rfl⟩) (by decide) (by decide)
theorem d1_24 : decode prog_16_method_4_code 24 = .ok (.aload_n 0, 1) := by decide +kernel
theorem d1_25 : decode prog_16_method_4_code 25 = .ok (.getstatic 7, 3) := by decide +kernel
theorem d1_28 : decode prog_16_method_4_code 28 = .ok (.if_acmp .ne 20, 3) := by decide +kernel
theorem d1_48 : decode prog_16_method_4_code 48 = .ok (.iload_n 1, 1) := by decide +kernel
theorem d1_49 : decode prog_16_method_4_code 49 = .ok (.iload_n 2, 1) := by decide +kernel
theorem d1_50 : decode prog_16_method_4_code 50 = .ok (.if_icmp .eq 7, 3) := by decide +kernel
theorem d1_57 : decode prog_16_method_4_code 57 = .ok (.iconst 0, 1) := by decide +kernel
theorem d1_58 : decode prog_16_method_4_code 58 = .ok (.istore_n 3, 1) := by decide +kernel
set_option maxRecDepth 65536 in
set_option maxHeartbeats 40000000 in
theorem own_b1_EXACTLY_ONE_00 (l : Launch) (Z : State) (a0 : Array Value) (hw : ∀ d ∈ tables_1, d.before a0 Z = true) (ws : List Jvm.Cond) (w_BOTH w_EXACTLY_ONE w_FIRST_ONLY : Addr) (h0 : Heap) (F : own_F Z h0 w_BOTH w_EXACTLY_ONE w_FIRST_ONLY)  :
    own_C l (⟨"com/example/witness/witness/pattern/Dfa$Combination", "accepts", "(ZZ)Z"⟩ : MethodName) prog_16_method_4_code 4 (some .boolean) ws (own_R 0 0) #[(.ref w_EXACTLY_ONE), (.int (0 : Int32)), (.int (0 : Int32))] Z h0 (own_Q0 (some (.int (0 : Int32))) h0) := by
  have F0 := F
  obtain ⟨S_BOTH, E_BOTH, S_EXACTLY_ONE, E_EXACTLY_ONE, S_FIRST_ONLY, E_FIRST_ONLY, F_ordinal_EXACTLY_ONE, F_ordinal_BOTH, F_ordinal_FIRST_ONLY⟩ := F
  refine own_enter (LS := #[rv w_EXACTLY_ONE, iv (0 : Int32), iv (0 : Int32), .unset]) (plainFor_of_name (by first | (simp [plainName, overriddenIn, x]; done) | decide +kernel)) (fun m => by first | (simp [entryFrame, mkF, argsToLocals, Value.category, maxLocals]; done) | rfl) ?_
  intro p e s m below meth c s₁ hx hby hml hown0 hnm hret hlk hZ X0 e0 hsh
  have hown : s.vm.findClass "com/example/witness/witness/pattern/Dfa$Combination" = some m.cls := hown0
  refine own_pre (T' := s₁) (f' := (mkF m 1 #[rv w_EXACTLY_ONE, iv (0 : Int32), iv (0 : Int32), .unset] [(.ref w_EXACTLY_ONE)])) (fun t k => XS.aloadN X0.here hx rfl (hb hby d1_0) rfl rfl k) ?_
  obtain ⟨T1, X1, e1, st1⟩ := getS2 X0 hx hZ hown (host := "") (Or.inl (hw _ (List.mem_of_getElem? (i := 9) rfl))) Via.refl e0 S_BOTH (g := (mkF m 1 #[rv w_EXACTLY_ONE, iv (0 : Int32), iv (0 : Int32), .unset] [(.ref w_EXACTLY_ONE)])) rfl (hb hby d1_1)
  refine own_pre (T' := T1) (f' := (mkF m 4 #[rv w_EXACTLY_ONE, iv (0 : Int32), iv (0 : Int32), .unset] [(.ref w_BOTH), (.ref w_EXACTLY_ONE)])) (fun t k => st1 t k) ?_
  refine own_pre (T' := T1) (f' := (mkF m 24 #[rv w_EXACTLY_ONE, iv (0 : Int32), iv (0 : Int32), .unset] [])) (fun t k => Jvm.RoadKit.acmp (g := (mkF m 4 #[rv w_EXACTLY_ONE, iv (0 : Int32), iv (0 : Int32), .unset] [(.ref w_BOTH), (.ref w_EXACTLY_ONE)])) X1 hx rfl rfl rfl (pc0 := 4) (pc' := 24) (same := false) rfl (hb hby d1_4) rfl (decide_eq_false fun q => (Fld.ne F_ordinal_EXACTLY_ONE F_ordinal_BOTH (own_neI (by decide))) (Value.ref.inj q)) (by decide) (by decide) k) ?_
  refine own_pre (T' := T1) (f' := (mkF m 25 #[rv w_EXACTLY_ONE, iv (0 : Int32), iv (0 : Int32), .unset] [(.ref w_EXACTLY_ONE)])) (fun t k => XS.aloadN X1.here hx rfl (hb hby d1_24) rfl rfl k) ?_
  obtain ⟨T2, X2, e2, st2⟩ := getS2 X1 hx hZ hown (host := "") (Or.inl (hw _ (List.mem_of_getElem? (i := 12) rfl))) Via.refl e1 S_FIRST_ONLY (g := (mkF m 25 #[rv w_EXACTLY_ONE, iv (0 : Int32), iv (0 : Int32), .unset] [(.ref w_EXACTLY_ONE)])) rfl (hb hby d1_25)
  refine own_pre (T' := T2) (f' := (mkF m 28 #[rv w_EXACTLY_ONE, iv (0 : Int32), iv (0 : Int32), .unset] [(.ref w_FIRST_ONLY), (.ref w_EXACTLY_ONE)])) (fun t k => st2 t k) ?_
  refine own_pre (T' := T2) (f' := (mkF m 48 #[rv w_EXACTLY_ONE, iv (0 : Int32), iv (0 : Int32), .unset] [])) (fun t k => Jvm.RoadKit.acmp (g := (mkF m 28 #[rv w_EXACTLY_ONE, iv (0 : Int32), iv (0 : Int32), .unset] [(.ref w_FIRST_ONLY), (.ref w_EXACTLY_ONE)])) X2 hx rfl rfl rfl (pc0 := 28) (pc' := 48) (same := false) rfl (hb hby d1_28) rfl (decide_eq_false fun q => (Fld.ne F_ordinal_EXACTLY_ONE F_ordinal_FIRST_ONLY (own_neI (by decide))) (Value.ref.inj q)) (by decide) (by decide) k) ?_
  refine own_pre (T' := T2) (f' := (mkF m 49 #[rv w_EXACTLY_ONE, iv (0 : Int32), iv (0 : Int32), .unset] [(.int (0 : Int32))])) (fun t k => XS.iloadN X2.here hx rfl (hb hby d1_48) rfl k) ?_
  refine own_pre (T' := T2) (f' := (mkF m 50 #[rv w_EXACTLY_ONE, iv (0 : Int32), iv (0 : Int32), .unset] [(.int (0 : Int32)), (.int (0 : Int32))])) (fun t k => XS.iloadN X2.here hx rfl (hb hby d1_49) rfl k) ?_
  refine own_pre (T' := T2) (f' := (mkF m 57 #[rv w_EXACTLY_ONE, iv (0 : Int32), iv (0 : Int32), .unset] [])) (fun t k => XS.icmpYes X2.here hx rfl (pc0 := 50) (pc' := 57) rfl (hb hby d1_50) rfl (teq (by decide : (0 : Int32) = (0 : Int32))).1 (by decide) (by decide) k) ?_
  refine own_pre (T' := T2) (f' := (mkF m 58 #[rv w_EXACTLY_ONE, iv (0 : Int32), iv (0 : Int32), .unset] [(.int (0 : Int32))])) (fun t k => XS.iconst X2.here hx rfl (hb hby d1_57) k) ?_
  refine own_pre (T' := T2) (f' := (mkF m 59 #[rv w_EXACTLY_ONE, iv (0 : Int32), iv (0 : Int32), iv (0 : Int32)] [])) (fun t k => XS.istoreN X2.here hx rfl (hb hby d1_58) rfl (l' := #[rv w_EXACTLY_ONE, iv (0 : Int32), iv (0 : Int32), iv (0 : Int32)]) rfl k) ?_
  refine own_pre (T' := T2) (f' := (mkF m 60 #[rv w_EXACTLY_ONE, iv (0 : Int32), iv (0 : Int32), iv (0 : Int32)] [(.int (0 : Int32))])) (fun t k => XS.iloadN X2.here hx rfl (hb hby d1_59) rfl k) ?_
  exact own_retZ X2 hx hlk hret (hb hby d1_60) rfl (⟨rfl, e2, rfl⟩) (by decide) (by decide)
theorem d1_53 : decode prog_16_method_4_code 53 = .ok (.iconst 1, 1) := by decide +kernel
theorem d1_54 : decode prog_16_method_4_code 54 = .ok (.goto 4, 3) := by decide +kernel
set_option maxRecDepth 65536 in
set_option maxHeartbeats 40000000 in
theorem own_b1_EXACTLY_ONE_01 (l : Launch) (Z : State) (a0 : Array Value) (hw : ∀ d ∈ tables_1, d.before a0 Z = true) (ws : List Jvm.Cond) (w_BOTH w_EXACTLY_ONE w_FIRST_ONLY : Addr) (h0 : Heap) (F : own_F Z h0 w_BOTH w_EXACTLY_ONE w_FIRST_ONLY)  :
    own_C l (⟨"com/example/witness/witness/pattern/Dfa$Combination", "accepts", "(ZZ)Z"⟩ : MethodName) prog_16_method_4_code 4 (some .boolean) ws (own_R 0 0) #[(.ref w_EXACTLY_ONE), (.int (0 : Int32)), (.int (1 : Int32))] Z h0 (own_Q0 (some (.int (1 : Int32))) h0) := by
  have F0 := F
  obtain ⟨S_BOTH, E_BOTH, S_EXACTLY_ONE, E_EXACTLY_ONE, S_FIRST_ONLY, E_FIRST_ONLY, F_ordinal_EXACTLY_ONE, F_ordinal_BOTH, F_ordinal_FIRST_ONLY⟩ := F
  refine own_enter (LS := #[rv w_EXACTLY_ONE, iv (0 : Int32), iv (1 : Int32), .unset]) (plainFor_of_name (by first | (simp [plainName, overriddenIn, x]; done) | decide +kernel)) (fun m => by first | (simp [entryFrame, mkF, argsToLocals, Value.category, maxLocals]; done) | rfl) ?_
  intro p e s m below meth c s₁ hx hby hml hown0 hnm hret hlk hZ X0 e0 hsh
  have hown : s.vm.findClass "com/example/witness/witness/pattern/Dfa$Combination" = some m.cls := hown0
  refine own_pre (T' := s₁) (f' := (mkF m 1 #[rv w_EXACTLY_ONE, iv (0 : Int32), iv (1 : Int32), .unset] [(.ref w_EXACTLY_ONE)])) (fun t k => XS.aloadN X0.here hx rfl (hb hby d1_0) rfl rfl k) ?_
  obtain ⟨T1, X1, e1, st1⟩ := getS2 X0 hx hZ hown (host := "") (Or.inl (hw _ (List.mem_of_getElem? (i := 9) rfl))) Via.refl e0 S_BOTH (g := (mkF m 1 #[rv w_EXACTLY_ONE, iv (0 : Int32), iv (1 : Int32), .unset] [(.ref w_EXACTLY_ONE)])) rfl (hb hby d1_1)
  refine own_pre (T' := T1) (f' := (mkF m 4 #[rv w_EXACTLY_ONE, iv (0 : Int32), iv (1 : Int32), .unset] [(.ref w_BOTH), (.ref w_EXACTLY_ONE)])) (fun t k => st1 t k) ?_
  refine own_pre (T' := T1) (f' := (mkF m 24 #[rv w_EXACTLY_ONE, iv (0 : Int32), iv (1 : Int32), .unset] [])) (fun t k => Jvm.RoadKit.acmp (g := (mkF m 4 #[rv w_EXACTLY_ONE, iv (0 : Int32), iv (1 : Int32), .unset] [(.ref w_BOTH), (.ref w_EXACTLY_ONE)])) X1 hx rfl rfl rfl (pc0 := 4) (pc' := 24) (same := false) rfl (hb hby d1_4) rfl (decide_eq_false fun q => (Fld.ne F_ordinal_EXACTLY_ONE F_ordinal_BOTH (own_neI (by decide))) (Value.ref.inj q)) (by decide) (by decide) k) ?_
  refine own_pre (T' := T1) (f' := (mkF m 25 #[rv w_EXACTLY_ONE, iv (0 : Int32), iv (1 : Int32), .unset] [(.ref w_EXACTLY_ONE)])) (fun t k => XS.aloadN X1.here hx rfl (hb hby d1_24) rfl rfl k) ?_
  obtain ⟨T2, X2, e2, st2⟩ := getS2 X1 hx hZ hown (host := "") (Or.inl (hw _ (List.mem_of_getElem? (i := 12) rfl))) Via.refl e1 S_FIRST_ONLY (g := (mkF m 25 #[rv w_EXACTLY_ONE, iv (0 : Int32), iv (1 : Int32), .unset] [(.ref w_EXACTLY_ONE)])) rfl (hb hby d1_25)
  refine own_pre (T' := T2) (f' := (mkF m 28 #[rv w_EXACTLY_ONE, iv (0 : Int32), iv (1 : Int32), .unset] [(.ref w_FIRST_ONLY), (.ref w_EXACTLY_ONE)])) (fun t k => st2 t k) ?_
  refine own_pre (T' := T2) (f' := (mkF m 48 #[rv w_EXACTLY_ONE, iv (0 : Int32), iv (1 : Int32), .unset] [])) (fun t k => Jvm.RoadKit.acmp (g := (mkF m 28 #[rv w_EXACTLY_ONE, iv (0 : Int32), iv (1 : Int32), .unset] [(.ref w_FIRST_ONLY), (.ref w_EXACTLY_ONE)])) X2 hx rfl rfl rfl (pc0 := 28) (pc' := 48) (same := false) rfl (hb hby d1_28) rfl (decide_eq_false fun q => (Fld.ne F_ordinal_EXACTLY_ONE F_ordinal_FIRST_ONLY (own_neI (by decide))) (Value.ref.inj q)) (by decide) (by decide) k) ?_
  refine own_pre (T' := T2) (f' := (mkF m 49 #[rv w_EXACTLY_ONE, iv (0 : Int32), iv (1 : Int32), .unset] [(.int (0 : Int32))])) (fun t k => XS.iloadN X2.here hx rfl (hb hby d1_48) rfl k) ?_
  refine own_pre (T' := T2) (f' := (mkF m 50 #[rv w_EXACTLY_ONE, iv (0 : Int32), iv (1 : Int32), .unset] [(.int (1 : Int32)), (.int (0 : Int32))])) (fun t k => XS.iloadN X2.here hx rfl (hb hby d1_49) rfl k) ?_
  refine own_pre (T' := T2) (f' := (mkF m 53 #[rv w_EXACTLY_ONE, iv (0 : Int32), iv (1 : Int32), .unset] [])) (fun t k => XS.icmpNo X2.here hx rfl (hb hby d1_50) rfl (feq (by decide : ¬ ((0 : Int32) = (1 : Int32)))).1 k) ?_
  refine own_pre (T' := T2) (f' := (mkF m 54 #[rv w_EXACTLY_ONE, iv (0 : Int32), iv (1 : Int32), .unset] [(.int (1 : Int32))])) (fun t k => XS.iconst X2.here hx rfl (hb hby d1_53) k) ?_
  refine own_pre (T' := T2) (f' := (mkF m 58 #[rv w_EXACTLY_ONE, iv (0 : Int32), iv (1 : Int32), .unset] [(.int (1 : Int32))])) (fun t k => XS.goto X2.here hx rfl (pc0 := 54) (pc' := 58) rfl (hb hby d1_54) (by decide) (by decide) k) ?_
  refine own_pre (T' := T2) (f' := (mkF m 59 #[rv w_EXACTLY_ONE, iv (0 : Int32), iv (1 : Int32), iv (1 : Int32)] [])) (fun t k => XS.istoreN X2.here hx rfl (hb hby d1_58) rfl (l' := #[rv w_EXACTLY_ONE, iv (0 : Int32), iv (1 : Int32), iv (1 : Int32)]) rfl k) ?_
  refine own_pre (T' := T2) (f' := (mkF m 60 #[rv w_EXACTLY_ONE, iv (0 : Int32), iv (1 : Int32), iv (1 : Int32)] [(.int (1 : Int32))])) (fun t k => XS.iloadN X2.here hx rfl (hb hby d1_59) rfl k) ?_
  exact own_retZ X2 hx hlk hret (hb hby d1_60) rfl (⟨rfl, e2, rfl⟩) (by decide) (by decide)
set_option maxRecDepth 65536 in
set_option maxHeartbeats 40000000 in
theorem own_b1_EXACTLY_ONE_10 (l : Launch) (Z : State) (a0 : Array Value) (hw : ∀ d ∈ tables_1, d.before a0 Z = true) (ws : List Jvm.Cond) (w_BOTH w_EXACTLY_ONE w_FIRST_ONLY : Addr) (h0 : Heap) (F : own_F Z h0 w_BOTH w_EXACTLY_ONE w_FIRST_ONLY)  :
    own_C l (⟨"com/example/witness/witness/pattern/Dfa$Combination", "accepts", "(ZZ)Z"⟩ : MethodName) prog_16_method_4_code 4 (some .boolean) ws (own_R 0 0) #[(.ref w_EXACTLY_ONE), (.int (1 : Int32)), (.int (0 : Int32))] Z h0 (own_Q0 (some (.int (1 : Int32))) h0) := by
  have F0 := F
  obtain ⟨S_BOTH, E_BOTH, S_EXACTLY_ONE, E_EXACTLY_ONE, S_FIRST_ONLY, E_FIRST_ONLY, F_ordinal_EXACTLY_ONE, F_ordinal_BOTH, F_ordinal_FIRST_ONLY⟩ := F
  refine own_enter (LS := #[rv w_EXACTLY_ONE, iv (1 : Int32), iv (0 : Int32), .unset]) (plainFor_of_name (by first | (simp [plainName, overriddenIn, x]; done) | decide +kernel)) (fun m => by first | (simp [entryFrame, mkF, argsToLocals, Value.category, maxLocals]; done) | rfl) ?_
  intro p e s m below meth c s₁ hx hby hml hown0 hnm hret hlk hZ X0 e0 hsh
  have hown : s.vm.findClass "com/example/witness/witness/pattern/Dfa$Combination" = some m.cls := hown0
  refine own_pre (T' := s₁) (f' := (mkF m 1 #[rv w_EXACTLY_ONE, iv (1 : Int32), iv (0 : Int32), .unset] [(.ref w_EXACTLY_ONE)])) (fun t k => XS.aloadN X0.here hx rfl (hb hby d1_0) rfl rfl k) ?_
  obtain ⟨T1, X1, e1, st1⟩ := getS2 X0 hx hZ hown (host := "") (Or.inl (hw _ (List.mem_of_getElem? (i := 9) rfl))) Via.refl e0 S_BOTH (g := (mkF m 1 #[rv w_EXACTLY_ONE, iv (1 : Int32), iv (0 : Int32), .unset] [(.ref w_EXACTLY_ONE)])) rfl (hb hby d1_1)
  refine own_pre (T' := T1) (f' := (mkF m 4 #[rv w_EXACTLY_ONE, iv (1 : Int32), iv (0 : Int32), .unset] [(.ref w_BOTH), (.ref w_EXACTLY_ONE)])) (fun t k => st1 t k) ?_
  refine own_pre (T' := T1) (f' := (mkF m 24 #[rv w_EXACTLY_ONE, iv (1 : Int32), iv (0 : Int32), .unset] [])) (fun t k => Jvm.RoadKit.acmp (g := (mkF m 4 #[rv w_EXACTLY_ONE, iv (1 : Int32), iv (0 : Int32), .unset] [(.ref w_BOTH), (.ref w_EXACTLY_ONE)])) X1 hx rfl rfl rfl (pc0 := 4) (pc' := 24) (same := false) rfl (hb hby d1_4) rfl (decide_eq_false fun q => (Fld.ne F_ordinal_EXACTLY_ONE F_ordinal_BOTH (own_neI (by decide))) (Value.ref.inj q)) (by decide) (by decide) k) ?_
  refine own_pre (T' := T1) (f' := (mkF m 25 #[rv w_EXACTLY_ONE, iv (1 : Int32), iv (0 : Int32), .unset] [(.ref w_EXACTLY_ONE)])) (fun t k => XS.aloadN X1.here hx rfl (hb hby d1_24) rfl rfl k) ?_
  obtain ⟨T2, X2, e2, st2⟩ := getS2 X1 hx hZ hown (host := "") (Or.inl (hw _ (List.mem_of_getElem? (i := 12) rfl))) Via.refl e1 S_FIRST_ONLY (g := (mkF m 25 #[rv w_EXACTLY_ONE, iv (1 : Int32), iv (0 : Int32), .unset] [(.ref w_EXACTLY_ONE)])) rfl (hb hby d1_25)
  refine own_pre (T' := T2) (f' := (mkF m 28 #[rv w_EXACTLY_ONE, iv (1 : Int32), iv (0 : Int32), .unset] [(.ref w_FIRST_ONLY), (.ref w_EXACTLY_ONE)])) (fun t k => st2 t k) ?_
  refine own_pre (T' := T2) (f' := (mkF m 48 #[rv w_EXACTLY_ONE, iv (1 : Int32), iv (0 : Int32), .unset] [])) (fun t k => Jvm.RoadKit.acmp (g := (mkF m 28 #[rv w_EXACTLY_ONE, iv (1 : Int32), iv (0 : Int32), .unset] [(.ref w_FIRST_ONLY), (.ref w_EXACTLY_ONE)])) X2 hx rfl rfl rfl (pc0 := 28) (pc' := 48) (same := false) rfl (hb hby d1_28) rfl (decide_eq_false fun q => (Fld.ne F_ordinal_EXACTLY_ONE F_ordinal_FIRST_ONLY (own_neI (by decide))) (Value.ref.inj q)) (by decide) (by decide) k) ?_
  refine own_pre (T' := T2) (f' := (mkF m 49 #[rv w_EXACTLY_ONE, iv (1 : Int32), iv (0 : Int32), .unset] [(.int (1 : Int32))])) (fun t k => XS.iloadN X2.here hx rfl (hb hby d1_48) rfl k) ?_
  refine own_pre (T' := T2) (f' := (mkF m 50 #[rv w_EXACTLY_ONE, iv (1 : Int32), iv (0 : Int32), .unset] [(.int (0 : Int32)), (.int (1 : Int32))])) (fun t k => XS.iloadN X2.here hx rfl (hb hby d1_49) rfl k) ?_
  refine own_pre (T' := T2) (f' := (mkF m 53 #[rv w_EXACTLY_ONE, iv (1 : Int32), iv (0 : Int32), .unset] [])) (fun t k => XS.icmpNo X2.here hx rfl (hb hby d1_50) rfl (feq (by decide : ¬ ((1 : Int32) = (0 : Int32)))).1 k) ?_
  refine own_pre (T' := T2) (f' := (mkF m 54 #[rv w_EXACTLY_ONE, iv (1 : Int32), iv (0 : Int32), .unset] [(.int (1 : Int32))])) (fun t k => XS.iconst X2.here hx rfl (hb hby d1_53) k) ?_
  refine own_pre (T' := T2) (f' := (mkF m 58 #[rv w_EXACTLY_ONE, iv (1 : Int32), iv (0 : Int32), .unset] [(.int (1 : Int32))])) (fun t k => XS.goto X2.here hx rfl (pc0 := 54) (pc' := 58) rfl (hb hby d1_54) (by decide) (by decide) k) ?_
  refine own_pre (T' := T2) (f' := (mkF m 59 #[rv w_EXACTLY_ONE, iv (1 : Int32), iv (0 : Int32), iv (1 : Int32)] [])) (fun t k => XS.istoreN X2.here hx rfl (hb hby d1_58) rfl (l' := #[rv w_EXACTLY_ONE, iv (1 : Int32), iv (0 : Int32), iv (1 : Int32)]) rfl k) ?_
  refine own_pre (T' := T2) (f' := (mkF m 60 #[rv w_EXACTLY_ONE, iv (1 : Int32), iv (0 : Int32), iv (1 : Int32)] [(.int (1 : Int32))])) (fun t k => XS.iloadN X2.here hx rfl (hb hby d1_59) rfl k) ?_
  exact own_retZ X2 hx hlk hret (hb hby d1_60) rfl (⟨rfl, e2, rfl⟩) (by decide) (by decide)
set_option maxRecDepth 65536 in
set_option maxHeartbeats 40000000 in
theorem own_b1_EXACTLY_ONE_11 (l : Launch) (Z : State) (a0 : Array Value) (hw : ∀ d ∈ tables_1, d.before a0 Z = true) (ws : List Jvm.Cond) (w_BOTH w_EXACTLY_ONE w_FIRST_ONLY : Addr) (h0 : Heap) (F : own_F Z h0 w_BOTH w_EXACTLY_ONE w_FIRST_ONLY)  :
    own_C l (⟨"com/example/witness/witness/pattern/Dfa$Combination", "accepts", "(ZZ)Z"⟩ : MethodName) prog_16_method_4_code 4 (some .boolean) ws (own_R 0 0) #[(.ref w_EXACTLY_ONE), (.int (1 : Int32)), (.int (1 : Int32))] Z h0 (own_Q0 (some (.int (0 : Int32))) h0) := by
  have F0 := F
  obtain ⟨S_BOTH, E_BOTH, S_EXACTLY_ONE, E_EXACTLY_ONE, S_FIRST_ONLY, E_FIRST_ONLY, F_ordinal_EXACTLY_ONE, F_ordinal_BOTH, F_ordinal_FIRST_ONLY⟩ := F
  refine own_enter (LS := #[rv w_EXACTLY_ONE, iv (1 : Int32), iv (1 : Int32), .unset]) (plainFor_of_name (by first | (simp [plainName, overriddenIn, x]; done) | decide +kernel)) (fun m => by first | (simp [entryFrame, mkF, argsToLocals, Value.category, maxLocals]; done) | rfl) ?_
  intro p e s m below meth c s₁ hx hby hml hown0 hnm hret hlk hZ X0 e0 hsh
  have hown : s.vm.findClass "com/example/witness/witness/pattern/Dfa$Combination" = some m.cls := hown0
  refine own_pre (T' := s₁) (f' := (mkF m 1 #[rv w_EXACTLY_ONE, iv (1 : Int32), iv (1 : Int32), .unset] [(.ref w_EXACTLY_ONE)])) (fun t k => XS.aloadN X0.here hx rfl (hb hby d1_0) rfl rfl k) ?_
  obtain ⟨T1, X1, e1, st1⟩ := getS2 X0 hx hZ hown (host := "") (Or.inl (hw _ (List.mem_of_getElem? (i := 9) rfl))) Via.refl e0 S_BOTH (g := (mkF m 1 #[rv w_EXACTLY_ONE, iv (1 : Int32), iv (1 : Int32), .unset] [(.ref w_EXACTLY_ONE)])) rfl (hb hby d1_1)
  refine own_pre (T' := T1) (f' := (mkF m 4 #[rv w_EXACTLY_ONE, iv (1 : Int32), iv (1 : Int32), .unset] [(.ref w_BOTH), (.ref w_EXACTLY_ONE)])) (fun t k => st1 t k) ?_
  refine own_pre (T' := T1) (f' := (mkF m 24 #[rv w_EXACTLY_ONE, iv (1 : Int32), iv (1 : Int32), .unset] [])) (fun t k => Jvm.RoadKit.acmp (g := (mkF m 4 #[rv w_EXACTLY_ONE, iv (1 : Int32), iv (1 : Int32), .unset] [(.ref w_BOTH), (.ref w_EXACTLY_ONE)])) X1 hx rfl rfl rfl (pc0 := 4) (pc' := 24) (same := false) rfl (hb hby d1_4) rfl (decide_eq_false fun q => (Fld.ne F_ordinal_EXACTLY_ONE F_ordinal_BOTH (own_neI (by decide))) (Value.ref.inj q)) (by decide) (by decide) k) ?_
  refine own_pre (T' := T1) (f' := (mkF m 25 #[rv w_EXACTLY_ONE, iv (1 : Int32), iv (1 : Int32), .unset] [(.ref w_EXACTLY_ONE)])) (fun t k => XS.aloadN X1.here hx rfl (hb hby d1_24) rfl rfl k) ?_
  obtain ⟨T2, X2, e2, st2⟩ := getS2 X1 hx hZ hown (host := "") (Or.inl (hw _ (List.mem_of_getElem? (i := 12) rfl))) Via.refl e1 S_FIRST_ONLY (g := (mkF m 25 #[rv w_EXACTLY_ONE, iv (1 : Int32), iv (1 : Int32), .unset] [(.ref w_EXACTLY_ONE)])) rfl (hb hby d1_25)
  refine own_pre (T' := T2) (f' := (mkF m 28 #[rv w_EXACTLY_ONE, iv (1 : Int32), iv (1 : Int32), .unset] [(.ref w_FIRST_ONLY), (.ref w_EXACTLY_ONE)])) (fun t k => st2 t k) ?_
  refine own_pre (T' := T2) (f' := (mkF m 48 #[rv w_EXACTLY_ONE, iv (1 : Int32), iv (1 : Int32), .unset] [])) (fun t k => Jvm.RoadKit.acmp (g := (mkF m 28 #[rv w_EXACTLY_ONE, iv (1 : Int32), iv (1 : Int32), .unset] [(.ref w_FIRST_ONLY), (.ref w_EXACTLY_ONE)])) X2 hx rfl rfl rfl (pc0 := 28) (pc' := 48) (same := false) rfl (hb hby d1_28) rfl (decide_eq_false fun q => (Fld.ne F_ordinal_EXACTLY_ONE F_ordinal_FIRST_ONLY (own_neI (by decide))) (Value.ref.inj q)) (by decide) (by decide) k) ?_
  refine own_pre (T' := T2) (f' := (mkF m 49 #[rv w_EXACTLY_ONE, iv (1 : Int32), iv (1 : Int32), .unset] [(.int (1 : Int32))])) (fun t k => XS.iloadN X2.here hx rfl (hb hby d1_48) rfl k) ?_
  refine own_pre (T' := T2) (f' := (mkF m 50 #[rv w_EXACTLY_ONE, iv (1 : Int32), iv (1 : Int32), .unset] [(.int (1 : Int32)), (.int (1 : Int32))])) (fun t k => XS.iloadN X2.here hx rfl (hb hby d1_49) rfl k) ?_
  refine own_pre (T' := T2) (f' := (mkF m 57 #[rv w_EXACTLY_ONE, iv (1 : Int32), iv (1 : Int32), .unset] [])) (fun t k => XS.icmpYes X2.here hx rfl (pc0 := 50) (pc' := 57) rfl (hb hby d1_50) rfl (teq (by decide : (1 : Int32) = (1 : Int32))).1 (by decide) (by decide) k) ?_
  refine own_pre (T' := T2) (f' := (mkF m 58 #[rv w_EXACTLY_ONE, iv (1 : Int32), iv (1 : Int32), .unset] [(.int (0 : Int32))])) (fun t k => XS.iconst X2.here hx rfl (hb hby d1_57) k) ?_
  refine own_pre (T' := T2) (f' := (mkF m 59 #[rv w_EXACTLY_ONE, iv (1 : Int32), iv (1 : Int32), iv (0 : Int32)] [])) (fun t k => XS.istoreN X2.here hx rfl (hb hby d1_58) rfl (l' := #[rv w_EXACTLY_ONE, iv (1 : Int32), iv (1 : Int32), iv (0 : Int32)]) rfl k) ?_
  refine own_pre (T' := T2) (f' := (mkF m 60 #[rv w_EXACTLY_ONE, iv (1 : Int32), iv (1 : Int32), iv (0 : Int32)] [(.int (0 : Int32))])) (fun t k => XS.iloadN X2.here hx rfl (hb hby d1_59) rfl k) ?_
  exact own_retZ X2 hx hlk hret (hb hby d1_60) rfl (⟨rfl, e2, rfl⟩) (by decide) (by decide)
theorem d1_31 : decode prog_16_method_4_code 31 = .ok (.iload_n 1, 1) := by decide +kernel
theorem d1_32 : decode prog_16_method_4_code 32 = .ok (.ifCond .eq 11, 3) := by decide +kernel
theorem d1_43 : decode prog_16_method_4_code 43 = .ok (.iconst 0, 1) := by decide +kernel
theorem d1_44 : decode prog_16_method_4_code 44 = .ok (.istore_n 3, 1) := by decide +kernel
theorem d1_45 : decode prog_16_method_4_code 45 = .ok (.goto 14, 3) := by decide +kernel
set_option maxRecDepth 65536 in
set_option maxHeartbeats 40000000 in
theorem own_b1_FIRST_ONLY_00 (l : Launch) (Z : State) (a0 : Array Value) (hw : ∀ d ∈ tables_1, d.before a0 Z = true) (ws : List Jvm.Cond) (w_BOTH w_EXACTLY_ONE w_FIRST_ONLY : Addr) (h0 : Heap) (F : own_F Z h0 w_BOTH w_EXACTLY_ONE w_FIRST_ONLY)  :
    own_C l (⟨"com/example/witness/witness/pattern/Dfa$Combination", "accepts", "(ZZ)Z"⟩ : MethodName) prog_16_method_4_code 4 (some .boolean) ws (own_R 0 0) #[(.ref w_FIRST_ONLY), (.int (0 : Int32)), (.int (0 : Int32))] Z h0 (own_Q0 (some (.int (0 : Int32))) h0) := by
  have F0 := F
  obtain ⟨S_BOTH, E_BOTH, S_EXACTLY_ONE, E_EXACTLY_ONE, S_FIRST_ONLY, E_FIRST_ONLY, F_ordinal_EXACTLY_ONE, F_ordinal_BOTH, F_ordinal_FIRST_ONLY⟩ := F
  refine own_enter (LS := #[rv w_FIRST_ONLY, iv (0 : Int32), iv (0 : Int32), .unset]) (plainFor_of_name (by first | (simp [plainName, overriddenIn, x]; done) | decide +kernel)) (fun m => by first | (simp [entryFrame, mkF, argsToLocals, Value.category, maxLocals]; done) | rfl) ?_
  intro p e s m below meth c s₁ hx hby hml hown0 hnm hret hlk hZ X0 e0 hsh
  have hown : s.vm.findClass "com/example/witness/witness/pattern/Dfa$Combination" = some m.cls := hown0
  refine own_pre (T' := s₁) (f' := (mkF m 1 #[rv w_FIRST_ONLY, iv (0 : Int32), iv (0 : Int32), .unset] [(.ref w_FIRST_ONLY)])) (fun t k => XS.aloadN X0.here hx rfl (hb hby d1_0) rfl rfl k) ?_
  obtain ⟨T1, X1, e1, st1⟩ := getS2 X0 hx hZ hown (host := "") (Or.inl (hw _ (List.mem_of_getElem? (i := 9) rfl))) Via.refl e0 S_BOTH (g := (mkF m 1 #[rv w_FIRST_ONLY, iv (0 : Int32), iv (0 : Int32), .unset] [(.ref w_FIRST_ONLY)])) rfl (hb hby d1_1)
  refine own_pre (T' := T1) (f' := (mkF m 4 #[rv w_FIRST_ONLY, iv (0 : Int32), iv (0 : Int32), .unset] [(.ref w_BOTH), (.ref w_FIRST_ONLY)])) (fun t k => st1 t k) ?_
  refine own_pre (T' := T1) (f' := (mkF m 24 #[rv w_FIRST_ONLY, iv (0 : Int32), iv (0 : Int32), .unset] [])) (fun t k => Jvm.RoadKit.acmp (g := (mkF m 4 #[rv w_FIRST_ONLY, iv (0 : Int32), iv (0 : Int32), .unset] [(.ref w_BOTH), (.ref w_FIRST_ONLY)])) X1 hx rfl rfl rfl (pc0 := 4) (pc' := 24) (same := false) rfl (hb hby d1_4) rfl (decide_eq_false fun q => (Fld.ne F_ordinal_FIRST_ONLY F_ordinal_BOTH (own_neI (by decide))) (Value.ref.inj q)) (by decide) (by decide) k) ?_
  refine own_pre (T' := T1) (f' := (mkF m 25 #[rv w_FIRST_ONLY, iv (0 : Int32), iv (0 : Int32), .unset] [(.ref w_FIRST_ONLY)])) (fun t k => XS.aloadN X1.here hx rfl (hb hby d1_24) rfl rfl k) ?_
  obtain ⟨T2, X2, e2, st2⟩ := getS2 X1 hx hZ hown (host := "") (Or.inl (hw _ (List.mem_of_getElem? (i := 12) rfl))) Via.refl e1 S_FIRST_ONLY (g := (mkF m 25 #[rv w_FIRST_ONLY, iv (0 : Int32), iv (0 : Int32), .unset] [(.ref w_FIRST_ONLY)])) rfl (hb hby d1_25)
  refine own_pre (T' := T2) (f' := (mkF m 28 #[rv w_FIRST_ONLY, iv (0 : Int32), iv (0 : Int32), .unset] [(.ref w_FIRST_ONLY), (.ref w_FIRST_ONLY)])) (fun t k => st2 t k) ?_
  refine own_pre (T' := T2) (f' := (mkF m 31 #[rv w_FIRST_ONLY, iv (0 : Int32), iv (0 : Int32), .unset] [])) (fun t k => Jvm.RoadKit.acmp (g := (mkF m 28 #[rv w_FIRST_ONLY, iv (0 : Int32), iv (0 : Int32), .unset] [(.ref w_FIRST_ONLY), (.ref w_FIRST_ONLY)])) X2 hx rfl rfl rfl (pc0 := 28) (pc' := 31) (same := true) rfl (hb hby d1_28) rfl (decide_eq_true rfl) (by decide) (by decide) k) ?_
  refine own_pre (T' := T2) (f' := (mkF m 32 #[rv w_FIRST_ONLY, iv (0 : Int32), iv (0 : Int32), .unset] [(.int (0 : Int32))])) (fun t k => XS.iloadN X2.here hx rfl (hb hby d1_31) rfl k) ?_
  refine own_pre (T' := T2) (f' := (mkF m 43 #[rv w_FIRST_ONLY, iv (0 : Int32), iv (0 : Int32), .unset] [])) (fun t k => XS.ifYes X2.here hx rfl (pc0 := 32) (pc' := 43) rfl (hb hby d1_32) rfl ((if0 _ _).trans (teq (by decide : (0 : Int32) = (0 : Int32))).1) (by decide) (by decide) k) ?_
  refine own_pre (T' := T2) (f' := (mkF m 44 #[rv w_FIRST_ONLY, iv (0 : Int32), iv (0 : Int32), .unset] [(.int (0 : Int32))])) (fun t k => XS.iconst X2.here hx rfl (hb hby d1_43) k) ?_
  refine own_pre (T' := T2) (f' := (mkF m 45 #[rv w_FIRST_ONLY, iv (0 : Int32), iv (0 : Int32), iv (0 : Int32)] [])) (fun t k => XS.istoreN X2.here hx rfl (hb hby d1_44) rfl (l' := #[rv w_FIRST_ONLY, iv (0 : Int32), iv (0 : Int32), iv (0 : Int32)]) rfl k) ?_
  refine own_pre (T' := T2) (f' := (mkF m 59 #[rv w_FIRST_ONLY, iv (0 : Int32), iv (0 : Int32), iv (0 : Int32)] [])) (fun t k => XS.goto X2.here hx rfl (pc0 := 45) (pc' := 59) rfl (hb hby d1_45) (by decide) (by decide) k) ?_
  refine own_pre (T' := T2) (f' := (mkF m 60 #[rv w_FIRST_ONLY, iv (0 : Int32), iv (0 : Int32), iv (0 : Int32)] [(.int (0 : Int32))])) (fun t k => XS.iloadN X2.here hx rfl (hb hby d1_59) rfl k) ?_
  exact own_retZ X2 hx hlk hret (hb hby d1_60) rfl (⟨rfl, e2, rfl⟩) (by decide) (by decide)
set_option maxRecDepth 65536 in
set_option maxHeartbeats 40000000 in
theorem own_b1_FIRST_ONLY_01 (l : Launch) (Z : State) (a0 : Array Value) (hw : ∀ d ∈ tables_1, d.before a0 Z = true) (ws : List Jvm.Cond) (w_BOTH w_EXACTLY_ONE w_FIRST_ONLY : Addr) (h0 : Heap) (F : own_F Z h0 w_BOTH w_EXACTLY_ONE w_FIRST_ONLY)  :
    own_C l (⟨"com/example/witness/witness/pattern/Dfa$Combination", "accepts", "(ZZ)Z"⟩ : MethodName) prog_16_method_4_code 4 (some .boolean) ws (own_R 0 0) #[(.ref w_FIRST_ONLY), (.int (0 : Int32)), (.int (1 : Int32))] Z h0 (own_Q0 (some (.int (0 : Int32))) h0) := by
  have F0 := F
  obtain ⟨S_BOTH, E_BOTH, S_EXACTLY_ONE, E_EXACTLY_ONE, S_FIRST_ONLY, E_FIRST_ONLY, F_ordinal_EXACTLY_ONE, F_ordinal_BOTH, F_ordinal_FIRST_ONLY⟩ := F
  refine own_enter (LS := #[rv w_FIRST_ONLY, iv (0 : Int32), iv (1 : Int32), .unset]) (plainFor_of_name (by first | (simp [plainName, overriddenIn, x]; done) | decide +kernel)) (fun m => by first | (simp [entryFrame, mkF, argsToLocals, Value.category, maxLocals]; done) | rfl) ?_
  intro p e s m below meth c s₁ hx hby hml hown0 hnm hret hlk hZ X0 e0 hsh
  have hown : s.vm.findClass "com/example/witness/witness/pattern/Dfa$Combination" = some m.cls := hown0
  refine own_pre (T' := s₁) (f' := (mkF m 1 #[rv w_FIRST_ONLY, iv (0 : Int32), iv (1 : Int32), .unset] [(.ref w_FIRST_ONLY)])) (fun t k => XS.aloadN X0.here hx rfl (hb hby d1_0) rfl rfl k) ?_
  obtain ⟨T1, X1, e1, st1⟩ := getS2 X0 hx hZ hown (host := "") (Or.inl (hw _ (List.mem_of_getElem? (i := 9) rfl))) Via.refl e0 S_BOTH (g := (mkF m 1 #[rv w_FIRST_ONLY, iv (0 : Int32), iv (1 : Int32), .unset] [(.ref w_FIRST_ONLY)])) rfl (hb hby d1_1)
  refine own_pre (T' := T1) (f' := (mkF m 4 #[rv w_FIRST_ONLY, iv (0 : Int32), iv (1 : Int32), .unset] [(.ref w_BOTH), (.ref w_FIRST_ONLY)])) (fun t k => st1 t k) ?_
  refine own_pre (T' := T1) (f' := (mkF m 24 #[rv w_FIRST_ONLY, iv (0 : Int32), iv (1 : Int32), .unset] [])) (fun t k => Jvm.RoadKit.acmp (g := (mkF m 4 #[rv w_FIRST_ONLY, iv (0 : Int32), iv (1 : Int32), .unset] [(.ref w_BOTH), (.ref w_FIRST_ONLY)])) X1 hx rfl rfl rfl (pc0 := 4) (pc' := 24) (same := false) rfl (hb hby d1_4) rfl (decide_eq_false fun q => (Fld.ne F_ordinal_FIRST_ONLY F_ordinal_BOTH (own_neI (by decide))) (Value.ref.inj q)) (by decide) (by decide) k) ?_
  refine own_pre (T' := T1) (f' := (mkF m 25 #[rv w_FIRST_ONLY, iv (0 : Int32), iv (1 : Int32), .unset] [(.ref w_FIRST_ONLY)])) (fun t k => XS.aloadN X1.here hx rfl (hb hby d1_24) rfl rfl k) ?_
  obtain ⟨T2, X2, e2, st2⟩ := getS2 X1 hx hZ hown (host := "") (Or.inl (hw _ (List.mem_of_getElem? (i := 12) rfl))) Via.refl e1 S_FIRST_ONLY (g := (mkF m 25 #[rv w_FIRST_ONLY, iv (0 : Int32), iv (1 : Int32), .unset] [(.ref w_FIRST_ONLY)])) rfl (hb hby d1_25)
  refine own_pre (T' := T2) (f' := (mkF m 28 #[rv w_FIRST_ONLY, iv (0 : Int32), iv (1 : Int32), .unset] [(.ref w_FIRST_ONLY), (.ref w_FIRST_ONLY)])) (fun t k => st2 t k) ?_
  refine own_pre (T' := T2) (f' := (mkF m 31 #[rv w_FIRST_ONLY, iv (0 : Int32), iv (1 : Int32), .unset] [])) (fun t k => Jvm.RoadKit.acmp (g := (mkF m 28 #[rv w_FIRST_ONLY, iv (0 : Int32), iv (1 : Int32), .unset] [(.ref w_FIRST_ONLY), (.ref w_FIRST_ONLY)])) X2 hx rfl rfl rfl (pc0 := 28) (pc' := 31) (same := true) rfl (hb hby d1_28) rfl (decide_eq_true rfl) (by decide) (by decide) k) ?_
  refine own_pre (T' := T2) (f' := (mkF m 32 #[rv w_FIRST_ONLY, iv (0 : Int32), iv (1 : Int32), .unset] [(.int (0 : Int32))])) (fun t k => XS.iloadN X2.here hx rfl (hb hby d1_31) rfl k) ?_
  refine own_pre (T' := T2) (f' := (mkF m 43 #[rv w_FIRST_ONLY, iv (0 : Int32), iv (1 : Int32), .unset] [])) (fun t k => XS.ifYes X2.here hx rfl (pc0 := 32) (pc' := 43) rfl (hb hby d1_32) rfl ((if0 _ _).trans (teq (by decide : (0 : Int32) = (0 : Int32))).1) (by decide) (by decide) k) ?_
  refine own_pre (T' := T2) (f' := (mkF m 44 #[rv w_FIRST_ONLY, iv (0 : Int32), iv (1 : Int32), .unset] [(.int (0 : Int32))])) (fun t k => XS.iconst X2.here hx rfl (hb hby d1_43) k) ?_
  refine own_pre (T' := T2) (f' := (mkF m 45 #[rv w_FIRST_ONLY, iv (0 : Int32), iv (1 : Int32), iv (0 : Int32)] [])) (fun t k => XS.istoreN X2.here hx rfl (hb hby d1_44) rfl (l' := #[rv w_FIRST_ONLY, iv (0 : Int32), iv (1 : Int32), iv (0 : Int32)]) rfl k) ?_
  refine own_pre (T' := T2) (f' := (mkF m 59 #[rv w_FIRST_ONLY, iv (0 : Int32), iv (1 : Int32), iv (0 : Int32)] [])) (fun t k => XS.goto X2.here hx rfl (pc0 := 45) (pc' := 59) rfl (hb hby d1_45) (by decide) (by decide) k) ?_
  refine own_pre (T' := T2) (f' := (mkF m 60 #[rv w_FIRST_ONLY, iv (0 : Int32), iv (1 : Int32), iv (0 : Int32)] [(.int (0 : Int32))])) (fun t k => XS.iloadN X2.here hx rfl (hb hby d1_59) rfl k) ?_
  exact own_retZ X2 hx hlk hret (hb hby d1_60) rfl (⟨rfl, e2, rfl⟩) (by decide) (by decide)
theorem d1_35 : decode prog_16_method_4_code 35 = .ok (.iload_n 2, 1) := by decide +kernel
theorem d1_36 : decode prog_16_method_4_code 36 = .ok (.ifCond .ne 7, 3) := by decide +kernel
theorem d1_39 : decode prog_16_method_4_code 39 = .ok (.iconst 1, 1) := by decide +kernel
theorem d1_40 : decode prog_16_method_4_code 40 = .ok (.goto 4, 3) := by decide +kernel
set_option maxRecDepth 65536 in
set_option maxHeartbeats 40000000 in
theorem own_b1_FIRST_ONLY_10 (l : Launch) (Z : State) (a0 : Array Value) (hw : ∀ d ∈ tables_1, d.before a0 Z = true) (ws : List Jvm.Cond) (w_BOTH w_EXACTLY_ONE w_FIRST_ONLY : Addr) (h0 : Heap) (F : own_F Z h0 w_BOTH w_EXACTLY_ONE w_FIRST_ONLY)  :
    own_C l (⟨"com/example/witness/witness/pattern/Dfa$Combination", "accepts", "(ZZ)Z"⟩ : MethodName) prog_16_method_4_code 4 (some .boolean) ws (own_R 0 0) #[(.ref w_FIRST_ONLY), (.int (1 : Int32)), (.int (0 : Int32))] Z h0 (own_Q0 (some (.int (1 : Int32))) h0) := by
  have F0 := F
  obtain ⟨S_BOTH, E_BOTH, S_EXACTLY_ONE, E_EXACTLY_ONE, S_FIRST_ONLY, E_FIRST_ONLY, F_ordinal_EXACTLY_ONE, F_ordinal_BOTH, F_ordinal_FIRST_ONLY⟩ := F
  refine own_enter (LS := #[rv w_FIRST_ONLY, iv (1 : Int32), iv (0 : Int32), .unset]) (plainFor_of_name (by first | (simp [plainName, overriddenIn, x]; done) | decide +kernel)) (fun m => by first | (simp [entryFrame, mkF, argsToLocals, Value.category, maxLocals]; done) | rfl) ?_
  intro p e s m below meth c s₁ hx hby hml hown0 hnm hret hlk hZ X0 e0 hsh
  have hown : s.vm.findClass "com/example/witness/witness/pattern/Dfa$Combination" = some m.cls := hown0
  refine own_pre (T' := s₁) (f' := (mkF m 1 #[rv w_FIRST_ONLY, iv (1 : Int32), iv (0 : Int32), .unset] [(.ref w_FIRST_ONLY)])) (fun t k => XS.aloadN X0.here hx rfl (hb hby d1_0) rfl rfl k) ?_
  obtain ⟨T1, X1, e1, st1⟩ := getS2 X0 hx hZ hown (host := "") (Or.inl (hw _ (List.mem_of_getElem? (i := 9) rfl))) Via.refl e0 S_BOTH (g := (mkF m 1 #[rv w_FIRST_ONLY, iv (1 : Int32), iv (0 : Int32), .unset] [(.ref w_FIRST_ONLY)])) rfl (hb hby d1_1)
  refine own_pre (T' := T1) (f' := (mkF m 4 #[rv w_FIRST_ONLY, iv (1 : Int32), iv (0 : Int32), .unset] [(.ref w_BOTH), (.ref w_FIRST_ONLY)])) (fun t k => st1 t k) ?_
  refine own_pre (T' := T1) (f' := (mkF m 24 #[rv w_FIRST_ONLY, iv (1 : Int32), iv (0 : Int32), .unset] [])) (fun t k => Jvm.RoadKit.acmp (g := (mkF m 4 #[rv w_FIRST_ONLY, iv (1 : Int32), iv (0 : Int32), .unset] [(.ref w_BOTH), (.ref w_FIRST_ONLY)])) X1 hx rfl rfl rfl (pc0 := 4) (pc' := 24) (same := false) rfl (hb hby d1_4) rfl (decide_eq_false fun q => (Fld.ne F_ordinal_FIRST_ONLY F_ordinal_BOTH (own_neI (by decide))) (Value.ref.inj q)) (by decide) (by decide) k) ?_
  refine own_pre (T' := T1) (f' := (mkF m 25 #[rv w_FIRST_ONLY, iv (1 : Int32), iv (0 : Int32), .unset] [(.ref w_FIRST_ONLY)])) (fun t k => XS.aloadN X1.here hx rfl (hb hby d1_24) rfl rfl k) ?_
  obtain ⟨T2, X2, e2, st2⟩ := getS2 X1 hx hZ hown (host := "") (Or.inl (hw _ (List.mem_of_getElem? (i := 12) rfl))) Via.refl e1 S_FIRST_ONLY (g := (mkF m 25 #[rv w_FIRST_ONLY, iv (1 : Int32), iv (0 : Int32), .unset] [(.ref w_FIRST_ONLY)])) rfl (hb hby d1_25)
  refine own_pre (T' := T2) (f' := (mkF m 28 #[rv w_FIRST_ONLY, iv (1 : Int32), iv (0 : Int32), .unset] [(.ref w_FIRST_ONLY), (.ref w_FIRST_ONLY)])) (fun t k => st2 t k) ?_
  refine own_pre (T' := T2) (f' := (mkF m 31 #[rv w_FIRST_ONLY, iv (1 : Int32), iv (0 : Int32), .unset] [])) (fun t k => Jvm.RoadKit.acmp (g := (mkF m 28 #[rv w_FIRST_ONLY, iv (1 : Int32), iv (0 : Int32), .unset] [(.ref w_FIRST_ONLY), (.ref w_FIRST_ONLY)])) X2 hx rfl rfl rfl (pc0 := 28) (pc' := 31) (same := true) rfl (hb hby d1_28) rfl (decide_eq_true rfl) (by decide) (by decide) k) ?_
  refine own_pre (T' := T2) (f' := (mkF m 32 #[rv w_FIRST_ONLY, iv (1 : Int32), iv (0 : Int32), .unset] [(.int (1 : Int32))])) (fun t k => XS.iloadN X2.here hx rfl (hb hby d1_31) rfl k) ?_
  refine own_pre (T' := T2) (f' := (mkF m 35 #[rv w_FIRST_ONLY, iv (1 : Int32), iv (0 : Int32), .unset] [])) (fun t k => XS.ifNo X2.here hx rfl (hb hby d1_32) rfl ((if0 _ _).trans (feq (by decide : ¬ ((1 : Int32) = (0 : Int32)))).1) k) ?_
  refine own_pre (T' := T2) (f' := (mkF m 36 #[rv w_FIRST_ONLY, iv (1 : Int32), iv (0 : Int32), .unset] [(.int (0 : Int32))])) (fun t k => XS.iloadN X2.here hx rfl (hb hby d1_35) rfl k) ?_
  refine own_pre (T' := T2) (f' := (mkF m 39 #[rv w_FIRST_ONLY, iv (1 : Int32), iv (0 : Int32), .unset] [])) (fun t k => XS.ifNo X2.here hx rfl (hb hby d1_36) rfl ((if0 _ _).trans (teq (by decide : (0 : Int32) = (0 : Int32))).2) k) ?_
  refine own_pre (T' := T2) (f' := (mkF m 40 #[rv w_FIRST_ONLY, iv (1 : Int32), iv (0 : Int32), .unset] [(.int (1 : Int32))])) (fun t k => XS.iconst X2.here hx rfl (hb hby d1_39) k) ?_
  refine own_pre (T' := T2) (f' := (mkF m 44 #[rv w_FIRST_ONLY, iv (1 : Int32), iv (0 : Int32), .unset] [(.int (1 : Int32))])) (fun t k => XS.goto X2.here hx rfl (pc0 := 40) (pc' := 44) rfl (hb hby d1_40) (by decide) (by decide) k) ?_
  refine own_pre (T' := T2) (f' := (mkF m 45 #[rv w_FIRST_ONLY, iv (1 : Int32), iv (0 : Int32), iv (1 : Int32)] [])) (fun t k => XS.istoreN X2.here hx rfl (hb hby d1_44) rfl (l' := #[rv w_FIRST_ONLY, iv (1 : Int32), iv (0 : Int32), iv (1 : Int32)]) rfl k) ?_
  refine own_pre (T' := T2) (f' := (mkF m 59 #[rv w_FIRST_ONLY, iv (1 : Int32), iv (0 : Int32), iv (1 : Int32)] [])) (fun t k => XS.goto X2.here hx rfl (pc0 := 45) (pc' := 59) rfl (hb hby d1_45) (by decide) (by decide) k) ?_
  refine own_pre (T' := T2) (f' := (mkF m 60 #[rv w_FIRST_ONLY, iv (1 : Int32), iv (0 : Int32), iv (1 : Int32)] [(.int (1 : Int32))])) (fun t k => XS.iloadN X2.here hx rfl (hb hby d1_59) rfl k) ?_
  exact own_retZ X2 hx hlk hret (hb hby d1_60) rfl (⟨rfl, e2, rfl⟩) (by decide) (by decide)
set_option maxRecDepth 65536 in
set_option maxHeartbeats 40000000 in
theorem own_b1_FIRST_ONLY_11 (l : Launch) (Z : State) (a0 : Array Value) (hw : ∀ d ∈ tables_1, d.before a0 Z = true) (ws : List Jvm.Cond) (w_BOTH w_EXACTLY_ONE w_FIRST_ONLY : Addr) (h0 : Heap) (F : own_F Z h0 w_BOTH w_EXACTLY_ONE w_FIRST_ONLY)  :
    own_C l (⟨"com/example/witness/witness/pattern/Dfa$Combination", "accepts", "(ZZ)Z"⟩ : MethodName) prog_16_method_4_code 4 (some .boolean) ws (own_R 0 0) #[(.ref w_FIRST_ONLY), (.int (1 : Int32)), (.int (1 : Int32))] Z h0 (own_Q0 (some (.int (0 : Int32))) h0) := by
  have F0 := F
  obtain ⟨S_BOTH, E_BOTH, S_EXACTLY_ONE, E_EXACTLY_ONE, S_FIRST_ONLY, E_FIRST_ONLY, F_ordinal_EXACTLY_ONE, F_ordinal_BOTH, F_ordinal_FIRST_ONLY⟩ := F
  refine own_enter (LS := #[rv w_FIRST_ONLY, iv (1 : Int32), iv (1 : Int32), .unset]) (plainFor_of_name (by first | (simp [plainName, overriddenIn, x]; done) | decide +kernel)) (fun m => by first | (simp [entryFrame, mkF, argsToLocals, Value.category, maxLocals]; done) | rfl) ?_
  intro p e s m below meth c s₁ hx hby hml hown0 hnm hret hlk hZ X0 e0 hsh
  have hown : s.vm.findClass "com/example/witness/witness/pattern/Dfa$Combination" = some m.cls := hown0
  refine own_pre (T' := s₁) (f' := (mkF m 1 #[rv w_FIRST_ONLY, iv (1 : Int32), iv (1 : Int32), .unset] [(.ref w_FIRST_ONLY)])) (fun t k => XS.aloadN X0.here hx rfl (hb hby d1_0) rfl rfl k) ?_
  obtain ⟨T1, X1, e1, st1⟩ := getS2 X0 hx hZ hown (host := "") (Or.inl (hw _ (List.mem_of_getElem? (i := 9) rfl))) Via.refl e0 S_BOTH (g := (mkF m 1 #[rv w_FIRST_ONLY, iv (1 : Int32), iv (1 : Int32), .unset] [(.ref w_FIRST_ONLY)])) rfl (hb hby d1_1)
  refine own_pre (T' := T1) (f' := (mkF m 4 #[rv w_FIRST_ONLY, iv (1 : Int32), iv (1 : Int32), .unset] [(.ref w_BOTH), (.ref w_FIRST_ONLY)])) (fun t k => st1 t k) ?_
  refine own_pre (T' := T1) (f' := (mkF m 24 #[rv w_FIRST_ONLY, iv (1 : Int32), iv (1 : Int32), .unset] [])) (fun t k => Jvm.RoadKit.acmp (g := (mkF m 4 #[rv w_FIRST_ONLY, iv (1 : Int32), iv (1 : Int32), .unset] [(.ref w_BOTH), (.ref w_FIRST_ONLY)])) X1 hx rfl rfl rfl (pc0 := 4) (pc' := 24) (same := false) rfl (hb hby d1_4) rfl (decide_eq_false fun q => (Fld.ne F_ordinal_FIRST_ONLY F_ordinal_BOTH (own_neI (by decide))) (Value.ref.inj q)) (by decide) (by decide) k) ?_
  refine own_pre (T' := T1) (f' := (mkF m 25 #[rv w_FIRST_ONLY, iv (1 : Int32), iv (1 : Int32), .unset] [(.ref w_FIRST_ONLY)])) (fun t k => XS.aloadN X1.here hx rfl (hb hby d1_24) rfl rfl k) ?_
  obtain ⟨T2, X2, e2, st2⟩ := getS2 X1 hx hZ hown (host := "") (Or.inl (hw _ (List.mem_of_getElem? (i := 12) rfl))) Via.refl e1 S_FIRST_ONLY (g := (mkF m 25 #[rv w_FIRST_ONLY, iv (1 : Int32), iv (1 : Int32), .unset] [(.ref w_FIRST_ONLY)])) rfl (hb hby d1_25)
  refine own_pre (T' := T2) (f' := (mkF m 28 #[rv w_FIRST_ONLY, iv (1 : Int32), iv (1 : Int32), .unset] [(.ref w_FIRST_ONLY), (.ref w_FIRST_ONLY)])) (fun t k => st2 t k) ?_
  refine own_pre (T' := T2) (f' := (mkF m 31 #[rv w_FIRST_ONLY, iv (1 : Int32), iv (1 : Int32), .unset] [])) (fun t k => Jvm.RoadKit.acmp (g := (mkF m 28 #[rv w_FIRST_ONLY, iv (1 : Int32), iv (1 : Int32), .unset] [(.ref w_FIRST_ONLY), (.ref w_FIRST_ONLY)])) X2 hx rfl rfl rfl (pc0 := 28) (pc' := 31) (same := true) rfl (hb hby d1_28) rfl (decide_eq_true rfl) (by decide) (by decide) k) ?_
  refine own_pre (T' := T2) (f' := (mkF m 32 #[rv w_FIRST_ONLY, iv (1 : Int32), iv (1 : Int32), .unset] [(.int (1 : Int32))])) (fun t k => XS.iloadN X2.here hx rfl (hb hby d1_31) rfl k) ?_
  refine own_pre (T' := T2) (f' := (mkF m 35 #[rv w_FIRST_ONLY, iv (1 : Int32), iv (1 : Int32), .unset] [])) (fun t k => XS.ifNo X2.here hx rfl (hb hby d1_32) rfl ((if0 _ _).trans (feq (by decide : ¬ ((1 : Int32) = (0 : Int32)))).1) k) ?_
  refine own_pre (T' := T2) (f' := (mkF m 36 #[rv w_FIRST_ONLY, iv (1 : Int32), iv (1 : Int32), .unset] [(.int (1 : Int32))])) (fun t k => XS.iloadN X2.here hx rfl (hb hby d1_35) rfl k) ?_
  refine own_pre (T' := T2) (f' := (mkF m 43 #[rv w_FIRST_ONLY, iv (1 : Int32), iv (1 : Int32), .unset] [])) (fun t k => XS.ifYes X2.here hx rfl (pc0 := 36) (pc' := 43) rfl (hb hby d1_36) rfl ((if0 _ _).trans (feq (by decide : ¬ ((1 : Int32) = (0 : Int32)))).2) (by decide) (by decide) k) ?_
  refine own_pre (T' := T2) (f' := (mkF m 44 #[rv w_FIRST_ONLY, iv (1 : Int32), iv (1 : Int32), .unset] [(.int (0 : Int32))])) (fun t k => XS.iconst X2.here hx rfl (hb hby d1_43) k) ?_
  refine own_pre (T' := T2) (f' := (mkF m 45 #[rv w_FIRST_ONLY, iv (1 : Int32), iv (1 : Int32), iv (0 : Int32)] [])) (fun t k => XS.istoreN X2.here hx rfl (hb hby d1_44) rfl (l' := #[rv w_FIRST_ONLY, iv (1 : Int32), iv (1 : Int32), iv (0 : Int32)]) rfl k) ?_
  refine own_pre (T' := T2) (f' := (mkF m 59 #[rv w_FIRST_ONLY, iv (1 : Int32), iv (1 : Int32), iv (0 : Int32)] [])) (fun t k => XS.goto X2.here hx rfl (pc0 := 45) (pc' := 59) rfl (hb hby d1_45) (by decide) (by decide) k) ?_
  refine own_pre (T' := T2) (f' := (mkF m 60 #[rv w_FIRST_ONLY, iv (1 : Int32), iv (1 : Int32), iv (0 : Int32)] [(.int (0 : Int32))])) (fun t k => XS.iloadN X2.here hx rfl (hb hby d1_59) rfl k) ?_
  exact own_retZ X2 hx hlk hret (hb hby d1_60) rfl (⟨rfl, e2, rfl⟩) (by decide) (by decide)
set_option maxRecDepth 65536 in
set_option maxHeartbeats 40000000 in
theorem own_law (l : Launch) (Z : State) (a0 : Array Value) (hw : ∀ d ∈ tables_1, d.before a0 Z = true) (ws : List Jvm.Cond) (w_BOTH w_EXACTLY_ONE w_FIRST_ONLY : Addr) (h0 : Heap) (F : own_F Z h0 w_BOTH w_EXACTLY_ONE w_FIRST_ONLY) (p1 : Int32) (p2 : Int32) :
    own_C l x code maxLocals ret ws room_1 #[(.int p1), (.int p2)] Z h0 (fun v _ L => v = some (.int (1 : Int32)) ∧ Fr h0.size L) := by
  have F0 := F
  obtain ⟨S_BOTH, E_BOTH, S_EXACTLY_ONE, E_EXACTLY_ONE, S_FIRST_ONLY, E_FIRST_ONLY, F_ordinal_EXACTLY_ONE, F_ordinal_BOTH, F_ordinal_FIRST_ONLY⟩ := F
  refine own_enter (LS := #[iv p1, iv p2, .unset, .unset, .unset, .unset, .unset, .unset]) (plainFor_of_name (by first | (simp [plainName, overriddenIn, x]; done) | decide +kernel)) (fun m => by first | (simp [entryFrame, mkF, argsToLocals, Value.category, maxLocals]; done) | rfl) ?_
  intro p e s m below meth c s₁ hx hby hml hown0 hnm hret hlk hZ X0 e0 hsh
  have hown : s.vm.findClass "com/example/witness/witness/pattern/CombinationAcceptsPinLaw" = some m.cls := hown0
  refine own_pre (T' := s₁) (f' := (mkF m 1 #[iv p1, iv p2, .unset, .unset, .unset, .unset, .unset, .unset] [(.int p1)])) (fun t k => XS.iloadN X0.here hx rfl (hb hby at_0) rfl k) ?_
  refine own_pre (T' := s₁) (f' := (mkF m 3 #[iv p1, iv p2, .unset, .unset, .unset, .unset, .unset, .unset] [(.int (2147483647 : Int32)), (.int p1)])) (fun t k => X0.ldcInt hx hown (mvT hZ (hw _ (List.mem_of_getElem? (i := 0) rfl))) (g := (mkF m 1 #[iv p1, iv p2, .unset, .unset, .unset, .unset, .unset, .unset] [(.int p1)])) rfl (hb hby at_1) t k) ?_
  refine own_pre (T' := s₁) (f' := (mkF m 4 #[iv p1, iv p2, .unset, .unset, .unset, .unset, .unset, .unset] [(.int (p1 &&& (2147483647 : Int32)))])) (fun t k => XS.iand X0.here hx rfl (hb hby at_3) rfl k) ?_
  refine own_pre (T' := s₁) (f' := (mkF m 5 #[iv p1, iv p2, .unset, .unset, .unset, .unset, .unset, .unset] [(.int (3 : Int32)), (.int (p1 &&& (2147483647 : Int32)))])) (fun t k => XS.iconst X0.here hx rfl (hb hby at_4) k) ?_
  refine own_pre (T' := s₁) (f' := (mkF m 6 #[iv p1, iv p2, .unset, .unset, .unset, .unset, .unset, .unset] [(.int ((p1 &&& (2147483647 : Int32)) % (3 : Int32)))])) (fun t k => iremM X0 hx rfl (hb hby at_5) rfl (by decide) k) ?_
  rcases own_r3 p1 with hj | hj | hj
  · rw [hj]
    refine own_pre (T' := s₁) (f' := (mkF m 7 #[iv p1, iv p2, iv (0 : Int32), .unset, .unset, .unset, .unset, .unset] [])) (fun t k => XS.istoreN X0.here hx rfl (hb hby at_6) rfl (l' := #[iv p1, iv p2, iv (0 : Int32), .unset, .unset, .unset, .unset, .unset]) rfl k) ?_
    refine own_pre (T' := s₁) (f' := (mkF m 8 #[iv p1, iv p2, iv (0 : Int32), .unset, .unset, .unset, .unset, .unset] [(.int p2)])) (fun t k => XS.iloadN X0.here hx rfl (hb hby at_7) rfl k) ?_
    refine own_pre (T' := s₁) (f' := (mkF m 9 #[iv p1, iv p2, iv (0 : Int32), .unset, .unset, .unset, .unset, .unset] [(.int (1 : Int32)), (.int p2)])) (fun t k => XS.iconst X0.here hx rfl (hb hby at_8) k) ?_
    refine own_pre (T' := s₁) (f' := (mkF m 10 #[iv p1, iv p2, iv (0 : Int32), .unset, .unset, .unset, .unset, .unset] [(.int (p2 &&& (1 : Int32)))])) (fun t k => XS.iand X0.here hx rfl (hb hby at_9) rfl k) ?_
    by_cases hc1 : (p2 &&& (1 : Int32)) = (0 : Int32)
    · refine own_pre (T' := s₁) (f' := (mkF m 17 #[iv p1, iv p2, iv (0 : Int32), .unset, .unset, .unset, .unset, .unset] [])) (fun t k => XS.ifYes X0.here hx rfl (pc0 := 10) (pc' := 17) rfl (hb hby at_10) rfl ((if0 _ _).trans (teq hc1).1) (by decide) (by decide) k) ?_
      refine own_pre (T' := s₁) (f' := (mkF m 18 #[iv p1, iv p2, iv (0 : Int32), .unset, .unset, .unset, .unset, .unset] [(.int (0 : Int32))])) (fun t k => XS.iconst X0.here hx rfl (hb hby at_17) k) ?_
      refine own_pre (T' := s₁) (f' := (mkF m 19 #[iv p1, iv p2, iv (0 : Int32), iv (0 : Int32), .unset, .unset, .unset, .unset] [])) (fun t k => XS.istoreN X0.here hx rfl (hb hby at_18) rfl (l' := #[iv p1, iv p2, iv (0 : Int32), iv (0 : Int32), .unset, .unset, .unset, .unset]) rfl k) ?_
      refine own_pre (T' := s₁) (f' := (mkF m 20 #[iv p1, iv p2, iv (0 : Int32), iv (0 : Int32), .unset, .unset, .unset, .unset] [(.int p2)])) (fun t k => XS.iloadN X0.here hx rfl (hb hby at_19) rfl k) ?_
      refine own_pre (T' := s₁) (f' := (mkF m 21 #[iv p1, iv p2, iv (0 : Int32), iv (0 : Int32), .unset, .unset, .unset, .unset] [(.int (2 : Int32)), (.int p2)])) (fun t k => XS.iconst X0.here hx rfl (hb hby at_20) k) ?_
      refine own_pre (T' := s₁) (f' := (mkF m 22 #[iv p1, iv p2, iv (0 : Int32), iv (0 : Int32), .unset, .unset, .unset, .unset] [(.int (p2 &&& (2 : Int32)))])) (fun t k => XS.iand X0.here hx rfl (hb hby at_21) rfl k) ?_
      by_cases hc2 : (p2 &&& (2 : Int32)) = (0 : Int32)
      · refine own_pre (T' := s₁) (f' := (mkF m 29 #[iv p1, iv p2, iv (0 : Int32), iv (0 : Int32), .unset, .unset, .unset, .unset] [])) (fun t k => XS.ifYes X0.here hx rfl (pc0 := 22) (pc' := 29) rfl (hb hby at_22) rfl ((if0 _ _).trans (teq hc2).1) (by decide) (by decide) k) ?_
        refine own_pre (T' := s₁) (f' := (mkF m 30 #[iv p1, iv p2, iv (0 : Int32), iv (0 : Int32), .unset, .unset, .unset, .unset] [(.int (0 : Int32))])) (fun t k => XS.iconst X0.here hx rfl (hb hby at_29) k) ?_
        refine own_pre (T' := s₁) (f' := (mkF m 32 #[iv p1, iv p2, iv (0 : Int32), iv (0 : Int32), iv (0 : Int32), .unset, .unset, .unset] [])) (fun t k => XS.istore X0.here hx rfl (hb hby at_30) rfl (l' := #[iv p1, iv p2, iv (0 : Int32), iv (0 : Int32), iv (0 : Int32), .unset, .unset, .unset]) rfl k) ?_
        refine own_pre (T' := s₁) (f' := (mkF m 33 #[iv p1, iv p2, iv (0 : Int32), iv (0 : Int32), iv (0 : Int32), .unset, .unset, .unset] [(.int (0 : Int32))])) (fun t k => XS.iloadN X0.here hx rfl (hb hby at_32) rfl k) ?_
        refine own_pre (T' := s₁) (f' := (mkF m 36 #[iv p1, iv p2, iv (0 : Int32), iv (0 : Int32), iv (0 : Int32), .unset, .unset, .unset] [])) (fun t k => XS.ifNo X0.here hx rfl (hb hby at_33) rfl ((if0 _ _).trans (teq (by decide : (0 : Int32) = (0 : Int32))).2) k) ?_
        obtain ⟨T3, X3, e3, st3⟩ := getS2 X0 hx hZ hown (host := "") (Or.inl (hw _ (List.mem_of_getElem? (i := 1) rfl))) Via.refl e0 S_BOTH (g := (mkF m 36 #[iv p1, iv p2, iv (0 : Int32), iv (0 : Int32), iv (0 : Int32), .unset, .unset, .unset] [])) rfl (hb hby at_36)
        refine own_pre (T' := T3) (f' := (mkF m 39 #[iv p1, iv p2, iv (0 : Int32), iv (0 : Int32), iv (0 : Int32), .unset, .unset, .unset] [(.ref w_BOTH)])) (fun t k => st3 t k) ?_
        refine own_pre (T' := T3) (f' := (mkF m 41 #[iv p1, iv p2, iv (0 : Int32), iv (0 : Int32), iv (0 : Int32), rv w_BOTH, .unset, .unset] [])) (fun t k => XS.astore X3.here hx rfl (hb hby at_39) rfl rfl (l' := #[iv p1, iv p2, iv (0 : Int32), iv (0 : Int32), iv (0 : Int32), rv w_BOTH, .unset, .unset]) rfl k) ?_
        refine own_pre (T' := T3) (f' := (mkF m 62 #[iv p1, iv p2, iv (0 : Int32), iv (0 : Int32), iv (0 : Int32), rv w_BOTH, .unset, .unset] [])) (fun t k => XS.goto X3.here hx rfl (pc0 := 41) (pc' := 62) rfl (hb hby at_41) (by decide) (by decide) k) ?_
        refine own_pre (T' := T3) (f' := (mkF m 63 #[iv p1, iv p2, iv (0 : Int32), iv (0 : Int32), iv (0 : Int32), rv w_BOTH, .unset, .unset] [(.int (0 : Int32))])) (fun t k => XS.iloadN X3.here hx rfl (hb hby at_62) rfl k) ?_
        refine own_pre (T' := T3) (f' := (mkF m 70 #[iv p1, iv p2, iv (0 : Int32), iv (0 : Int32), iv (0 : Int32), rv w_BOTH, .unset, .unset] [])) (fun t k => XS.ifYes X3.here hx rfl (pc0 := 63) (pc' := 70) rfl (hb hby at_63) rfl ((if0 _ _).trans (teq (by decide : (0 : Int32) = (0 : Int32))).1) (by decide) (by decide) k) ?_
        refine own_pre (T' := T3) (f' := (mkF m 71 #[iv p1, iv p2, iv (0 : Int32), iv (0 : Int32), iv (0 : Int32), rv w_BOTH, .unset, .unset] [(.int (0 : Int32))])) (fun t k => XS.iconst X3.here hx rfl (hb hby at_70) k) ?_
        refine own_pre (T' := T3) (f' := (mkF m 73 #[iv p1, iv p2, iv (0 : Int32), iv (0 : Int32), iv (0 : Int32), rv w_BOTH, .unset, .unset] [(.int (0 : Int32)), (.int (0 : Int32))])) (fun t k => XS.iload X3.here hx rfl (hb hby at_71) rfl k) ?_
        refine own_pre (T' := T3) (f' := (mkF m 80 #[iv p1, iv p2, iv (0 : Int32), iv (0 : Int32), iv (0 : Int32), rv w_BOTH, .unset, .unset] [(.int (0 : Int32))])) (fun t k => XS.ifYes X3.here hx rfl (pc0 := 73) (pc' := 80) rfl (hb hby at_73) rfl ((if0 _ _).trans (teq (by decide : (0 : Int32) = (0 : Int32))).1) (by decide) (by decide) k) ?_
        refine own_pre (T' := T3) (f' := (mkF m 81 #[iv p1, iv p2, iv (0 : Int32), iv (0 : Int32), iv (0 : Int32), rv w_BOTH, .unset, .unset] [(.int (0 : Int32)), (.int (0 : Int32))])) (fun t k => XS.iconst X3.here hx rfl (hb hby at_80) k) ?_
        refine own_pre (T' := T3) (f' := (mkF m 82 #[iv p1, iv p2, iv (0 : Int32), iv (0 : Int32), iv (0 : Int32), rv w_BOTH, .unset, .unset] [(.int ((0 : Int32) + (0 : Int32)))])) (fun t k => XS.iadd X3.here hx rfl (hb hby at_81) rfl k) ?_
        rw [show ((0 : Int32) + (0 : Int32)) = (0 : Int32) from by decide]
        refine own_pre (T' := T3) (f' := (mkF m 84 #[iv p1, iv p2, iv (0 : Int32), iv (0 : Int32), iv (0 : Int32), rv w_BOTH, iv (0 : Int32), .unset] [])) (fun t k => XS.istore X3.here hx rfl (hb hby at_82) rfl (l' := #[iv p1, iv p2, iv (0 : Int32), iv (0 : Int32), iv (0 : Int32), rv w_BOTH, iv (0 : Int32), .unset]) rfl k) ?_
        refine own_pre (T' := T3) (f' := (mkF m 85 #[iv p1, iv p2, iv (0 : Int32), iv (0 : Int32), iv (0 : Int32), rv w_BOTH, iv (0 : Int32), .unset] [(.int (0 : Int32))])) (fun t k => XS.iloadN X3.here hx rfl (hb hby at_84) rfl k) ?_
        refine own_pre (T' := T3) (f' := (mkF m 88 #[iv p1, iv p2, iv (0 : Int32), iv (0 : Int32), iv (0 : Int32), rv w_BOTH, iv (0 : Int32), .unset] [])) (fun t k => XS.ifNo X3.here hx rfl (hb hby at_85) rfl ((if0 _ _).trans (teq (by decide : (0 : Int32) = (0 : Int32))).2) k) ?_
        refine own_pre (T' := T3) (f' := (mkF m 90 #[iv p1, iv p2, iv (0 : Int32), iv (0 : Int32), iv (0 : Int32), rv w_BOTH, iv (0 : Int32), .unset] [(.int (0 : Int32))])) (fun t k => XS.iload X3.here hx rfl (hb hby at_88) rfl k) ?_
        refine own_pre (T' := T3) (f' := (mkF m 91 #[iv p1, iv p2, iv (0 : Int32), iv (0 : Int32), iv (0 : Int32), rv w_BOTH, iv (0 : Int32), .unset] [(.int (2 : Int32)), (.int (0 : Int32))])) (fun t k => XS.iconst X3.here hx rfl (hb hby at_90) k) ?_
        refine own_pre (T' := T3) (f' := (mkF m 98 #[iv p1, iv p2, iv (0 : Int32), iv (0 : Int32), iv (0 : Int32), rv w_BOTH, iv (0 : Int32), .unset] [])) (fun t k => XS.icmpYes X3.here hx rfl (pc0 := 91) (pc' := 98) rfl (hb hby at_91) rfl (feq (by decide : ¬ ((0 : Int32) = (2 : Int32)))).2 (by decide) (by decide) k) ?_
        refine own_pre (T' := T3) (f' := (mkF m 99 #[iv p1, iv p2, iv (0 : Int32), iv (0 : Int32), iv (0 : Int32), rv w_BOTH, iv (0 : Int32), .unset] [(.int (0 : Int32))])) (fun t k => XS.iconst X3.here hx rfl (hb hby at_98) k) ?_
        refine own_pre (T' := T3) (f' := (mkF m 101 #[iv p1, iv p2, iv (0 : Int32), iv (0 : Int32), iv (0 : Int32), rv w_BOTH, iv (0 : Int32), iv (0 : Int32)] [])) (fun t k => XS.istore X3.here hx rfl (hb hby at_99) rfl (l' := #[iv p1, iv p2, iv (0 : Int32), iv (0 : Int32), iv (0 : Int32), rv w_BOTH, iv (0 : Int32), iv (0 : Int32)]) rfl k) ?_
        refine own_pre (T' := T3) (f' := (mkF m 142 #[iv p1, iv p2, iv (0 : Int32), iv (0 : Int32), iv (0 : Int32), rv w_BOTH, iv (0 : Int32), iv (0 : Int32)] [])) (fun t k => XS.goto X3.here hx rfl (pc0 := 101) (pc' := 142) rfl (hb hby at_101) (by decide) (by decide) k) ?_
        refine own_pre (T' := T3) (f' := (mkF m 144 #[iv p1, iv p2, iv (0 : Int32), iv (0 : Int32), iv (0 : Int32), rv w_BOTH, iv (0 : Int32), iv (0 : Int32)] [(.ref w_BOTH)])) (fun t k => XS.aload X3.here hx rfl (hb hby at_142) rfl rfl k) ?_
        refine own_pre (T' := T3) (f' := (mkF m 145 #[iv p1, iv p2, iv (0 : Int32), iv (0 : Int32), iv (0 : Int32), rv w_BOTH, iv (0 : Int32), iv (0 : Int32)] [(.int (0 : Int32)), (.ref w_BOTH)])) (fun t k => XS.iloadN X3.here hx rfl (hb hby at_144) rfl k) ?_
        refine own_pre (T' := T3) (f' := (mkF m 147 #[iv p1, iv p2, iv (0 : Int32), iv (0 : Int32), iv (0 : Int32), rv w_BOTH, iv (0 : Int32), iv (0 : Int32)] [(.int (0 : Int32)), (.int (0 : Int32)), (.ref w_BOTH)])) (fun t k => XS.iload X3.here hx rfl (hb hby at_145) rfl k) ?_
        obtain ⟨T4, X4, e4, st4⟩ := own_pure (f := 0) (n := 0) (v := (some (.int (0 : Int32)))) (own_callV X3 hx hZ e3 (y := (⟨"com/example/witness/witness/pattern/Dfa$Combination", "accepts", "(ZZ)Z"⟩ : MethodName)) hown (hw _ (List.mem_of_getElem? (i := 4) rfl)) (hw _ (List.mem_of_getElem? (i := 5) rfl)) (hw _ (List.mem_of_getElem? (i := 7) rfl)) (hw _ (List.mem_of_getElem? (i := 6) rfl)) (hw _ (List.mem_of_getElem? (i := 8) rfl)) (hw _ (List.mem_of_getElem? (i := 2) rfl)) (by decide) 0 [(.int (0 : Int32)), (.int (0 : Int32))] [] (own_b1_BOTH_00 l Z a0 hw [] w_BOTH w_EXACTLY_ONE w_FIRST_ONLY h0 F0) (by decide) (by decide) (by decide) (by decide) E_BOTH (g := (mkF m 147 #[iv p1, iv p2, iv (0 : Int32), iv (0 : Int32), iv (0 : Int32), rv w_BOTH, iv (0 : Int32), iv (0 : Int32)] [(.int (0 : Int32)), (.int (0 : Int32)), (.ref w_BOTH)])) rfl (by rw [hml]; rfl) (lenOf pd_0 rfl) rfl (by show 2 * 0 + _ ≤ _; exact Nat.le_of_eq rfl) (hb hby at_147))
        refine own_pre (T' := T4) (f' := (mkF m 150 #[iv p1, iv p2, iv (0 : Int32), iv (0 : Int32), iv (0 : Int32), rv w_BOTH, iv (0 : Int32), iv (0 : Int32)] [(.int (0 : Int32))])) (fun t k => st4 t k) ?_
        refine own_pre (T' := T4) (f' := (mkF m 152 #[iv p1, iv p2, iv (0 : Int32), iv (0 : Int32), iv (0 : Int32), rv w_BOTH, iv (0 : Int32), iv (0 : Int32)] [(.int (0 : Int32)), (.int (0 : Int32))])) (fun t k => XS.iload X4.here hx rfl (hb hby at_150) rfl k) ?_
        refine own_pre (T' := T4) (f' := (mkF m 155 #[iv p1, iv p2, iv (0 : Int32), iv (0 : Int32), iv (0 : Int32), rv w_BOTH, iv (0 : Int32), iv (0 : Int32)] [])) (fun t k => XS.icmpNo X4.here hx rfl (hb hby at_152) rfl (teq (by decide : (0 : Int32) = (0 : Int32))).2 k) ?_
        refine own_pre (T' := T4) (f' := (mkF m 156 #[iv p1, iv p2, iv (0 : Int32), iv (0 : Int32), iv (0 : Int32), rv w_BOTH, iv (0 : Int32), iv (0 : Int32)] [(.int (1 : Int32))])) (fun t k => XS.iconst X4.here hx rfl (hb hby at_155) k) ?_
        refine own_pre (T' := T4) (f' := (mkF m 160 #[iv p1, iv p2, iv (0 : Int32), iv (0 : Int32), iv (0 : Int32), rv w_BOTH, iv (0 : Int32), iv (0 : Int32)] [(.int (1 : Int32))])) (fun t k => XS.goto X4.here hx rfl (pc0 := 156) (pc' := 160) rfl (hb hby at_156) (by decide) (by decide) k) ?_
        exact own_retZ X4 hx hlk hret (hb hby at_160) rfl (⟨rfl, Fr.nil _⟩) (by decide) (by decide)
      · refine own_pre (T' := s₁) (f' := (mkF m 25 #[iv p1, iv p2, iv (0 : Int32), iv (0 : Int32), .unset, .unset, .unset, .unset] [])) (fun t k => XS.ifNo X0.here hx rfl (hb hby at_22) rfl ((if0 _ _).trans (feq hc2).1) k) ?_
        refine own_pre (T' := s₁) (f' := (mkF m 26 #[iv p1, iv p2, iv (0 : Int32), iv (0 : Int32), .unset, .unset, .unset, .unset] [(.int (1 : Int32))])) (fun t k => XS.iconst X0.here hx rfl (hb hby at_25) k) ?_
        refine own_pre (T' := s₁) (f' := (mkF m 30 #[iv p1, iv p2, iv (0 : Int32), iv (0 : Int32), .unset, .unset, .unset, .unset] [(.int (1 : Int32))])) (fun t k => XS.goto X0.here hx rfl (pc0 := 26) (pc' := 30) rfl (hb hby at_26) (by decide) (by decide) k) ?_
        refine own_pre (T' := s₁) (f' := (mkF m 32 #[iv p1, iv p2, iv (0 : Int32), iv (0 : Int32), iv (1 : Int32), .unset, .unset, .unset] [])) (fun t k => XS.istore X0.here hx rfl (hb hby at_30) rfl (l' := #[iv p1, iv p2, iv (0 : Int32), iv (0 : Int32), iv (1 : Int32), .unset, .unset, .unset]) rfl k) ?_
        refine own_pre (T' := s₁) (f' := (mkF m 33 #[iv p1, iv p2, iv (0 : Int32), iv (0 : Int32), iv (1 : Int32), .unset, .unset, .unset] [(.int (0 : Int32))])) (fun t k => XS.iloadN X0.here hx rfl (hb hby at_32) rfl k) ?_
        refine own_pre (T' := s₁) (f' := (mkF m 36 #[iv p1, iv p2, iv (0 : Int32), iv (0 : Int32), iv (1 : Int32), .unset, .unset, .unset] [])) (fun t k => XS.ifNo X0.here hx rfl (hb hby at_33) rfl ((if0 _ _).trans (teq (by decide : (0 : Int32) = (0 : Int32))).2) k) ?_
        obtain ⟨T5, X5, e5, st5⟩ := getS2 X0 hx hZ hown (host := "") (Or.inl (hw _ (List.mem_of_getElem? (i := 1) rfl))) Via.refl e0 S_BOTH (g := (mkF m 36 #[iv p1, iv p2, iv (0 : Int32), iv (0 : Int32), iv (1 : Int32), .unset, .unset, .unset] [])) rfl (hb hby at_36)
        refine own_pre (T' := T5) (f' := (mkF m 39 #[iv p1, iv p2, iv (0 : Int32), iv (0 : Int32), iv (1 : Int32), .unset, .unset, .unset] [(.ref w_BOTH)])) (fun t k => st5 t k) ?_
        refine own_pre (T' := T5) (f' := (mkF m 41 #[iv p1, iv p2, iv (0 : Int32), iv (0 : Int32), iv (1 : Int32), rv w_BOTH, .unset, .unset] [])) (fun t k => XS.astore X5.here hx rfl (hb hby at_39) rfl rfl (l' := #[iv p1, iv p2, iv (0 : Int32), iv (0 : Int32), iv (1 : Int32), rv w_BOTH, .unset, .unset]) rfl k) ?_
        refine own_pre (T' := T5) (f' := (mkF m 62 #[iv p1, iv p2, iv (0 : Int32), iv (0 : Int32), iv (1 : Int32), rv w_BOTH, .unset, .unset] [])) (fun t k => XS.goto X5.here hx rfl (pc0 := 41) (pc' := 62) rfl (hb hby at_41) (by decide) (by decide) k) ?_
        refine own_pre (T' := T5) (f' := (mkF m 63 #[iv p1, iv p2, iv (0 : Int32), iv (0 : Int32), iv (1 : Int32), rv w_BOTH, .unset, .unset] [(.int (0 : Int32))])) (fun t k => XS.iloadN X5.here hx rfl (hb hby at_62) rfl k) ?_
        refine own_pre (T' := T5) (f' := (mkF m 70 #[iv p1, iv p2, iv (0 : Int32), iv (0 : Int32), iv (1 : Int32), rv w_BOTH, .unset, .unset] [])) (fun t k => XS.ifYes X5.here hx rfl (pc0 := 63) (pc' := 70) rfl (hb hby at_63) rfl ((if0 _ _).trans (teq (by decide : (0 : Int32) = (0 : Int32))).1) (by decide) (by decide) k) ?_
        refine own_pre (T' := T5) (f' := (mkF m 71 #[iv p1, iv p2, iv (0 : Int32), iv (0 : Int32), iv (1 : Int32), rv w_BOTH, .unset, .unset] [(.int (0 : Int32))])) (fun t k => XS.iconst X5.here hx rfl (hb hby at_70) k) ?_
        refine own_pre (T' := T5) (f' := (mkF m 73 #[iv p1, iv p2, iv (0 : Int32), iv (0 : Int32), iv (1 : Int32), rv w_BOTH, .unset, .unset] [(.int (1 : Int32)), (.int (0 : Int32))])) (fun t k => XS.iload X5.here hx rfl (hb hby at_71) rfl k) ?_
        refine own_pre (T' := T5) (f' := (mkF m 76 #[iv p1, iv p2, iv (0 : Int32), iv (0 : Int32), iv (1 : Int32), rv w_BOTH, .unset, .unset] [(.int (0 : Int32))])) (fun t k => XS.ifNo X5.here hx rfl (hb hby at_73) rfl ((if0 _ _).trans (feq (by decide : ¬ ((1 : Int32) = (0 : Int32)))).1) k) ?_
        refine own_pre (T' := T5) (f' := (mkF m 77 #[iv p1, iv p2, iv (0 : Int32), iv (0 : Int32), iv (1 : Int32), rv w_BOTH, .unset, .unset] [(.int (1 : Int32)), (.int (0 : Int32))])) (fun t k => XS.iconst X5.here hx rfl (hb hby at_76) k) ?_
        refine own_pre (T' := T5) (f' := (mkF m 81 #[iv p1, iv p2, iv (0 : Int32), iv (0 : Int32), iv (1 : Int32), rv w_BOTH, .unset, .unset] [(.int (1 : Int32)), (.int (0 : Int32))])) (fun t k => XS.goto X5.here hx rfl (pc0 := 77) (pc' := 81) rfl (hb hby at_77) (by decide) (by decide) k) ?_
        refine own_pre (T' := T5) (f' := (mkF m 82 #[iv p1, iv p2, iv (0 : Int32), iv (0 : Int32), iv (1 : Int32), rv w_BOTH, .unset, .unset] [(.int ((0 : Int32) + (1 : Int32)))])) (fun t k => XS.iadd X5.here hx rfl (hb hby at_81) rfl k) ?_
        rw [show ((0 : Int32) + (1 : Int32)) = (1 : Int32) from by decide]
        refine own_pre (T' := T5) (f' := (mkF m 84 #[iv p1, iv p2, iv (0 : Int32), iv (0 : Int32), iv (1 : Int32), rv w_BOTH, iv (1 : Int32), .unset] [])) (fun t k => XS.istore X5.here hx rfl (hb hby at_82) rfl (l' := #[iv p1, iv p2, iv (0 : Int32), iv (0 : Int32), iv (1 : Int32), rv w_BOTH, iv (1 : Int32), .unset]) rfl k) ?_
        refine own_pre (T' := T5) (f' := (mkF m 85 #[iv p1, iv p2, iv (0 : Int32), iv (0 : Int32), iv (1 : Int32), rv w_BOTH, iv (1 : Int32), .unset] [(.int (0 : Int32))])) (fun t k => XS.iloadN X5.here hx rfl (hb hby at_84) rfl k) ?_
        refine own_pre (T' := T5) (f' := (mkF m 88 #[iv p1, iv p2, iv (0 : Int32), iv (0 : Int32), iv (1 : Int32), rv w_BOTH, iv (1 : Int32), .unset] [])) (fun t k => XS.ifNo X5.here hx rfl (hb hby at_85) rfl ((if0 _ _).trans (teq (by decide : (0 : Int32) = (0 : Int32))).2) k) ?_
        refine own_pre (T' := T5) (f' := (mkF m 90 #[iv p1, iv p2, iv (0 : Int32), iv (0 : Int32), iv (1 : Int32), rv w_BOTH, iv (1 : Int32), .unset] [(.int (1 : Int32))])) (fun t k => XS.iload X5.here hx rfl (hb hby at_88) rfl k) ?_
        refine own_pre (T' := T5) (f' := (mkF m 91 #[iv p1, iv p2, iv (0 : Int32), iv (0 : Int32), iv (1 : Int32), rv w_BOTH, iv (1 : Int32), .unset] [(.int (2 : Int32)), (.int (1 : Int32))])) (fun t k => XS.iconst X5.here hx rfl (hb hby at_90) k) ?_
        refine own_pre (T' := T5) (f' := (mkF m 98 #[iv p1, iv p2, iv (0 : Int32), iv (0 : Int32), iv (1 : Int32), rv w_BOTH, iv (1 : Int32), .unset] [])) (fun t k => XS.icmpYes X5.here hx rfl (pc0 := 91) (pc' := 98) rfl (hb hby at_91) rfl (feq (by decide : ¬ ((1 : Int32) = (2 : Int32)))).2 (by decide) (by decide) k) ?_
        refine own_pre (T' := T5) (f' := (mkF m 99 #[iv p1, iv p2, iv (0 : Int32), iv (0 : Int32), iv (1 : Int32), rv w_BOTH, iv (1 : Int32), .unset] [(.int (0 : Int32))])) (fun t k => XS.iconst X5.here hx rfl (hb hby at_98) k) ?_
        refine own_pre (T' := T5) (f' := (mkF m 101 #[iv p1, iv p2, iv (0 : Int32), iv (0 : Int32), iv (1 : Int32), rv w_BOTH, iv (1 : Int32), iv (0 : Int32)] [])) (fun t k => XS.istore X5.here hx rfl (hb hby at_99) rfl (l' := #[iv p1, iv p2, iv (0 : Int32), iv (0 : Int32), iv (1 : Int32), rv w_BOTH, iv (1 : Int32), iv (0 : Int32)]) rfl k) ?_
        refine own_pre (T' := T5) (f' := (mkF m 142 #[iv p1, iv p2, iv (0 : Int32), iv (0 : Int32), iv (1 : Int32), rv w_BOTH, iv (1 : Int32), iv (0 : Int32)] [])) (fun t k => XS.goto X5.here hx rfl (pc0 := 101) (pc' := 142) rfl (hb hby at_101) (by decide) (by decide) k) ?_
        refine own_pre (T' := T5) (f' := (mkF m 144 #[iv p1, iv p2, iv (0 : Int32), iv (0 : Int32), iv (1 : Int32), rv w_BOTH, iv (1 : Int32), iv (0 : Int32)] [(.ref w_BOTH)])) (fun t k => XS.aload X5.here hx rfl (hb hby at_142) rfl rfl k) ?_
        refine own_pre (T' := T5) (f' := (mkF m 145 #[iv p1, iv p2, iv (0 : Int32), iv (0 : Int32), iv (1 : Int32), rv w_BOTH, iv (1 : Int32), iv (0 : Int32)] [(.int (0 : Int32)), (.ref w_BOTH)])) (fun t k => XS.iloadN X5.here hx rfl (hb hby at_144) rfl k) ?_
        refine own_pre (T' := T5) (f' := (mkF m 147 #[iv p1, iv p2, iv (0 : Int32), iv (0 : Int32), iv (1 : Int32), rv w_BOTH, iv (1 : Int32), iv (0 : Int32)] [(.int (1 : Int32)), (.int (0 : Int32)), (.ref w_BOTH)])) (fun t k => XS.iload X5.here hx rfl (hb hby at_145) rfl k) ?_
        obtain ⟨T6, X6, e6, st6⟩ := own_pure (f := 0) (n := 0) (v := (some (.int (0 : Int32)))) (own_callV X5 hx hZ e5 (y := (⟨"com/example/witness/witness/pattern/Dfa$Combination", "accepts", "(ZZ)Z"⟩ : MethodName)) hown (hw _ (List.mem_of_getElem? (i := 4) rfl)) (hw _ (List.mem_of_getElem? (i := 5) rfl)) (hw _ (List.mem_of_getElem? (i := 7) rfl)) (hw _ (List.mem_of_getElem? (i := 6) rfl)) (hw _ (List.mem_of_getElem? (i := 8) rfl)) (hw _ (List.mem_of_getElem? (i := 2) rfl)) (by decide) 0 [(.int (0 : Int32)), (.int (1 : Int32))] [] (own_b1_BOTH_01 l Z a0 hw [] w_BOTH w_EXACTLY_ONE w_FIRST_ONLY h0 F0) (by decide) (by decide) (by decide) (by decide) E_BOTH (g := (mkF m 147 #[iv p1, iv p2, iv (0 : Int32), iv (0 : Int32), iv (1 : Int32), rv w_BOTH, iv (1 : Int32), iv (0 : Int32)] [(.int (1 : Int32)), (.int (0 : Int32)), (.ref w_BOTH)])) rfl (by rw [hml]; rfl) (lenOf pd_0 rfl) rfl (by show 2 * 0 + _ ≤ _; exact Nat.le_of_eq rfl) (hb hby at_147))
        refine own_pre (T' := T6) (f' := (mkF m 150 #[iv p1, iv p2, iv (0 : Int32), iv (0 : Int32), iv (1 : Int32), rv w_BOTH, iv (1 : Int32), iv (0 : Int32)] [(.int (0 : Int32))])) (fun t k => st6 t k) ?_
        refine own_pre (T' := T6) (f' := (mkF m 152 #[iv p1, iv p2, iv (0 : Int32), iv (0 : Int32), iv (1 : Int32), rv w_BOTH, iv (1 : Int32), iv (0 : Int32)] [(.int (0 : Int32)), (.int (0 : Int32))])) (fun t k => XS.iload X6.here hx rfl (hb hby at_150) rfl k) ?_
        refine own_pre (T' := T6) (f' := (mkF m 155 #[iv p1, iv p2, iv (0 : Int32), iv (0 : Int32), iv (1 : Int32), rv w_BOTH, iv (1 : Int32), iv (0 : Int32)] [])) (fun t k => XS.icmpNo X6.here hx rfl (hb hby at_152) rfl (teq (by decide : (0 : Int32) = (0 : Int32))).2 k) ?_
        refine own_pre (T' := T6) (f' := (mkF m 156 #[iv p1, iv p2, iv (0 : Int32), iv (0 : Int32), iv (1 : Int32), rv w_BOTH, iv (1 : Int32), iv (0 : Int32)] [(.int (1 : Int32))])) (fun t k => XS.iconst X6.here hx rfl (hb hby at_155) k) ?_
        refine own_pre (T' := T6) (f' := (mkF m 160 #[iv p1, iv p2, iv (0 : Int32), iv (0 : Int32), iv (1 : Int32), rv w_BOTH, iv (1 : Int32), iv (0 : Int32)] [(.int (1 : Int32))])) (fun t k => XS.goto X6.here hx rfl (pc0 := 156) (pc' := 160) rfl (hb hby at_156) (by decide) (by decide) k) ?_
        exact own_retZ X6 hx hlk hret (hb hby at_160) rfl (⟨rfl, Fr.nil _⟩) (by decide) (by decide)
    · refine own_pre (T' := s₁) (f' := (mkF m 13 #[iv p1, iv p2, iv (0 : Int32), .unset, .unset, .unset, .unset, .unset] [])) (fun t k => XS.ifNo X0.here hx rfl (hb hby at_10) rfl ((if0 _ _).trans (feq hc1).1) k) ?_
      refine own_pre (T' := s₁) (f' := (mkF m 14 #[iv p1, iv p2, iv (0 : Int32), .unset, .unset, .unset, .unset, .unset] [(.int (1 : Int32))])) (fun t k => XS.iconst X0.here hx rfl (hb hby at_13) k) ?_
      refine own_pre (T' := s₁) (f' := (mkF m 18 #[iv p1, iv p2, iv (0 : Int32), .unset, .unset, .unset, .unset, .unset] [(.int (1 : Int32))])) (fun t k => XS.goto X0.here hx rfl (pc0 := 14) (pc' := 18) rfl (hb hby at_14) (by decide) (by decide) k) ?_
      refine own_pre (T' := s₁) (f' := (mkF m 19 #[iv p1, iv p2, iv (0 : Int32), iv (1 : Int32), .unset, .unset, .unset, .unset] [])) (fun t k => XS.istoreN X0.here hx rfl (hb hby at_18) rfl (l' := #[iv p1, iv p2, iv (0 : Int32), iv (1 : Int32), .unset, .unset, .unset, .unset]) rfl k) ?_
      refine own_pre (T' := s₁) (f' := (mkF m 20 #[iv p1, iv p2, iv (0 : Int32), iv (1 : Int32), .unset, .unset, .unset, .unset] [(.int p2)])) (fun t k => XS.iloadN X0.here hx rfl (hb hby at_19) rfl k) ?_
      refine own_pre (T' := s₁) (f' := (mkF m 21 #[iv p1, iv p2, iv (0 : Int32), iv (1 : Int32), .unset, .unset, .unset, .unset] [(.int (2 : Int32)), (.int p2)])) (fun t k => XS.iconst X0.here hx rfl (hb hby at_20) k) ?_
      refine own_pre (T' := s₁) (f' := (mkF m 22 #[iv p1, iv p2, iv (0 : Int32), iv (1 : Int32), .unset, .unset, .unset, .unset] [(.int (p2 &&& (2 : Int32)))])) (fun t k => XS.iand X0.here hx rfl (hb hby at_21) rfl k) ?_
      by_cases hc7 : (p2 &&& (2 : Int32)) = (0 : Int32)
      · refine own_pre (T' := s₁) (f' := (mkF m 29 #[iv p1, iv p2, iv (0 : Int32), iv (1 : Int32), .unset, .unset, .unset, .unset] [])) (fun t k => XS.ifYes X0.here hx rfl (pc0 := 22) (pc' := 29) rfl (hb hby at_22) rfl ((if0 _ _).trans (teq hc7).1) (by decide) (by decide) k) ?_
        refine own_pre (T' := s₁) (f' := (mkF m 30 #[iv p1, iv p2, iv (0 : Int32), iv (1 : Int32), .unset, .unset, .unset, .unset] [(.int (0 : Int32))])) (fun t k => XS.iconst X0.here hx rfl (hb hby at_29) k) ?_
        refine own_pre (T' := s₁) (f' := (mkF m 32 #[iv p1, iv p2, iv (0 : Int32), iv (1 : Int32), iv (0 : Int32), .unset, .unset, .unset] [])) (fun t k => XS.istore X0.here hx rfl (hb hby at_30) rfl (l' := #[iv p1, iv p2, iv (0 : Int32), iv (1 : Int32), iv (0 : Int32), .unset, .unset, .unset]) rfl k) ?_
        refine own_pre (T' := s₁) (f' := (mkF m 33 #[iv p1, iv p2, iv (0 : Int32), iv (1 : Int32), iv (0 : Int32), .unset, .unset, .unset] [(.int (0 : Int32))])) (fun t k => XS.iloadN X0.here hx rfl (hb hby at_32) rfl k) ?_
        refine own_pre (T' := s₁) (f' := (mkF m 36 #[iv p1, iv p2, iv (0 : Int32), iv (1 : Int32), iv (0 : Int32), .unset, .unset, .unset] [])) (fun t k => XS.ifNo X0.here hx rfl (hb hby at_33) rfl ((if0 _ _).trans (teq (by decide : (0 : Int32) = (0 : Int32))).2) k) ?_
        obtain ⟨T8, X8, e8, st8⟩ := getS2 X0 hx hZ hown (host := "") (Or.inl (hw _ (List.mem_of_getElem? (i := 1) rfl))) Via.refl e0 S_BOTH (g := (mkF m 36 #[iv p1, iv p2, iv (0 : Int32), iv (1 : Int32), iv (0 : Int32), .unset, .unset, .unset] [])) rfl (hb hby at_36)
        refine own_pre (T' := T8) (f' := (mkF m 39 #[iv p1, iv p2, iv (0 : Int32), iv (1 : Int32), iv (0 : Int32), .unset, .unset, .unset] [(.ref w_BOTH)])) (fun t k => st8 t k) ?_
        refine own_pre (T' := T8) (f' := (mkF m 41 #[iv p1, iv p2, iv (0 : Int32), iv (1 : Int32), iv (0 : Int32), rv w_BOTH, .unset, .unset] [])) (fun t k => XS.astore X8.here hx rfl (hb hby at_39) rfl rfl (l' := #[iv p1, iv p2, iv (0 : Int32), iv (1 : Int32), iv (0 : Int32), rv w_BOTH, .unset, .unset]) rfl k) ?_
        refine own_pre (T' := T8) (f' := (mkF m 62 #[iv p1, iv p2, iv (0 : Int32), iv (1 : Int32), iv (0 : Int32), rv w_BOTH, .unset, .unset] [])) (fun t k => XS.goto X8.here hx rfl (pc0 := 41) (pc' := 62) rfl (hb hby at_41) (by decide) (by decide) k) ?_
        refine own_pre (T' := T8) (f' := (mkF m 63 #[iv p1, iv p2, iv (0 : Int32), iv (1 : Int32), iv (0 : Int32), rv w_BOTH, .unset, .unset] [(.int (1 : Int32))])) (fun t k => XS.iloadN X8.here hx rfl (hb hby at_62) rfl k) ?_
        refine own_pre (T' := T8) (f' := (mkF m 66 #[iv p1, iv p2, iv (0 : Int32), iv (1 : Int32), iv (0 : Int32), rv w_BOTH, .unset, .unset] [])) (fun t k => XS.ifNo X8.here hx rfl (hb hby at_63) rfl ((if0 _ _).trans (feq (by decide : ¬ ((1 : Int32) = (0 : Int32)))).1) k) ?_
        refine own_pre (T' := T8) (f' := (mkF m 67 #[iv p1, iv p2, iv (0 : Int32), iv (1 : Int32), iv (0 : Int32), rv w_BOTH, .unset, .unset] [(.int (1 : Int32))])) (fun t k => XS.iconst X8.here hx rfl (hb hby at_66) k) ?_
        refine own_pre (T' := T8) (f' := (mkF m 71 #[iv p1, iv p2, iv (0 : Int32), iv (1 : Int32), iv (0 : Int32), rv w_BOTH, .unset, .unset] [(.int (1 : Int32))])) (fun t k => XS.goto X8.here hx rfl (pc0 := 67) (pc' := 71) rfl (hb hby at_67) (by decide) (by decide) k) ?_
        refine own_pre (T' := T8) (f' := (mkF m 73 #[iv p1, iv p2, iv (0 : Int32), iv (1 : Int32), iv (0 : Int32), rv w_BOTH, .unset, .unset] [(.int (0 : Int32)), (.int (1 : Int32))])) (fun t k => XS.iload X8.here hx rfl (hb hby at_71) rfl k) ?_
        refine own_pre (T' := T8) (f' := (mkF m 80 #[iv p1, iv p2, iv (0 : Int32), iv (1 : Int32), iv (0 : Int32), rv w_BOTH, .unset, .unset] [(.int (1 : Int32))])) (fun t k => XS.ifYes X8.here hx rfl (pc0 := 73) (pc' := 80) rfl (hb hby at_73) rfl ((if0 _ _).trans (teq (by decide : (0 : Int32) = (0 : Int32))).1) (by decide) (by decide) k) ?_
        refine own_pre (T' := T8) (f' := (mkF m 81 #[iv p1, iv p2, iv (0 : Int32), iv (1 : Int32), iv (0 : Int32), rv w_BOTH, .unset, .unset] [(.int (0 : Int32)), (.int (1 : Int32))])) (fun t k => XS.iconst X8.here hx rfl (hb hby at_80) k) ?_
        refine own_pre (T' := T8) (f' := (mkF m 82 #[iv p1, iv p2, iv (0 : Int32), iv (1 : Int32), iv (0 : Int32), rv w_BOTH, .unset, .unset] [(.int ((1 : Int32) + (0 : Int32)))])) (fun t k => XS.iadd X8.here hx rfl (hb hby at_81) rfl k) ?_
        rw [show ((1 : Int32) + (0 : Int32)) = (1 : Int32) from by decide]
        refine own_pre (T' := T8) (f' := (mkF m 84 #[iv p1, iv p2, iv (0 : Int32), iv (1 : Int32), iv (0 : Int32), rv w_BOTH, iv (1 : Int32), .unset] [])) (fun t k => XS.istore X8.here hx rfl (hb hby at_82) rfl (l' := #[iv p1, iv p2, iv (0 : Int32), iv (1 : Int32), iv (0 : Int32), rv w_BOTH, iv (1 : Int32), .unset]) rfl k) ?_
        refine own_pre (T' := T8) (f' := (mkF m 85 #[iv p1, iv p2, iv (0 : Int32), iv (1 : Int32), iv (0 : Int32), rv w_BOTH, iv (1 : Int32), .unset] [(.int (0 : Int32))])) (fun t k => XS.iloadN X8.here hx rfl (hb hby at_84) rfl k) ?_
        refine own_pre (T' := T8) (f' := (mkF m 88 #[iv p1, iv p2, iv (0 : Int32), iv (1 : Int32), iv (0 : Int32), rv w_BOTH, iv (1 : Int32), .unset] [])) (fun t k => XS.ifNo X8.here hx rfl (hb hby at_85) rfl ((if0 _ _).trans (teq (by decide : (0 : Int32) = (0 : Int32))).2) k) ?_
        refine own_pre (T' := T8) (f' := (mkF m 90 #[iv p1, iv p2, iv (0 : Int32), iv (1 : Int32), iv (0 : Int32), rv w_BOTH, iv (1 : Int32), .unset] [(.int (1 : Int32))])) (fun t k => XS.iload X8.here hx rfl (hb hby at_88) rfl k) ?_
        refine own_pre (T' := T8) (f' := (mkF m 91 #[iv p1, iv p2, iv (0 : Int32), iv (1 : Int32), iv (0 : Int32), rv w_BOTH, iv (1 : Int32), .unset] [(.int (2 : Int32)), (.int (1 : Int32))])) (fun t k => XS.iconst X8.here hx rfl (hb hby at_90) k) ?_
        refine own_pre (T' := T8) (f' := (mkF m 98 #[iv p1, iv p2, iv (0 : Int32), iv (1 : Int32), iv (0 : Int32), rv w_BOTH, iv (1 : Int32), .unset] [])) (fun t k => XS.icmpYes X8.here hx rfl (pc0 := 91) (pc' := 98) rfl (hb hby at_91) rfl (feq (by decide : ¬ ((1 : Int32) = (2 : Int32)))).2 (by decide) (by decide) k) ?_
        refine own_pre (T' := T8) (f' := (mkF m 99 #[iv p1, iv p2, iv (0 : Int32), iv (1 : Int32), iv (0 : Int32), rv w_BOTH, iv (1 : Int32), .unset] [(.int (0 : Int32))])) (fun t k => XS.iconst X8.here hx rfl (hb hby at_98) k) ?_
        refine own_pre (T' := T8) (f' := (mkF m 101 #[iv p1, iv p2, iv (0 : Int32), iv (1 : Int32), iv (0 : Int32), rv w_BOTH, iv (1 : Int32), iv (0 : Int32)] [])) (fun t k => XS.istore X8.here hx rfl (hb hby at_99) rfl (l' := #[iv p1, iv p2, iv (0 : Int32), iv (1 : Int32), iv (0 : Int32), rv w_BOTH, iv (1 : Int32), iv (0 : Int32)]) rfl k) ?_
        refine own_pre (T' := T8) (f' := (mkF m 142 #[iv p1, iv p2, iv (0 : Int32), iv (1 : Int32), iv (0 : Int32), rv w_BOTH, iv (1 : Int32), iv (0 : Int32)] [])) (fun t k => XS.goto X8.here hx rfl (pc0 := 101) (pc' := 142) rfl (hb hby at_101) (by decide) (by decide) k) ?_
        refine own_pre (T' := T8) (f' := (mkF m 144 #[iv p1, iv p2, iv (0 : Int32), iv (1 : Int32), iv (0 : Int32), rv w_BOTH, iv (1 : Int32), iv (0 : Int32)] [(.ref w_BOTH)])) (fun t k => XS.aload X8.here hx rfl (hb hby at_142) rfl rfl k) ?_
        refine own_pre (T' := T8) (f' := (mkF m 145 #[iv p1, iv p2, iv (0 : Int32), iv (1 : Int32), iv (0 : Int32), rv w_BOTH, iv (1 : Int32), iv (0 : Int32)] [(.int (1 : Int32)), (.ref w_BOTH)])) (fun t k => XS.iloadN X8.here hx rfl (hb hby at_144) rfl k) ?_
        refine own_pre (T' := T8) (f' := (mkF m 147 #[iv p1, iv p2, iv (0 : Int32), iv (1 : Int32), iv (0 : Int32), rv w_BOTH, iv (1 : Int32), iv (0 : Int32)] [(.int (0 : Int32)), (.int (1 : Int32)), (.ref w_BOTH)])) (fun t k => XS.iload X8.here hx rfl (hb hby at_145) rfl k) ?_
        obtain ⟨T9, X9, e9, st9⟩ := own_pure (f := 0) (n := 0) (v := (some (.int (0 : Int32)))) (own_callV X8 hx hZ e8 (y := (⟨"com/example/witness/witness/pattern/Dfa$Combination", "accepts", "(ZZ)Z"⟩ : MethodName)) hown (hw _ (List.mem_of_getElem? (i := 4) rfl)) (hw _ (List.mem_of_getElem? (i := 5) rfl)) (hw _ (List.mem_of_getElem? (i := 7) rfl)) (hw _ (List.mem_of_getElem? (i := 6) rfl)) (hw _ (List.mem_of_getElem? (i := 8) rfl)) (hw _ (List.mem_of_getElem? (i := 2) rfl)) (by decide) 0 [(.int (1 : Int32)), (.int (0 : Int32))] [] (own_b1_BOTH_10 l Z a0 hw [] w_BOTH w_EXACTLY_ONE w_FIRST_ONLY h0 F0) (by decide) (by decide) (by decide) (by decide) E_BOTH (g := (mkF m 147 #[iv p1, iv p2, iv (0 : Int32), iv (1 : Int32), iv (0 : Int32), rv w_BOTH, iv (1 : Int32), iv (0 : Int32)] [(.int (0 : Int32)), (.int (1 : Int32)), (.ref w_BOTH)])) rfl (by rw [hml]; rfl) (lenOf pd_0 rfl) rfl (by show 2 * 0 + _ ≤ _; exact Nat.le_of_eq rfl) (hb hby at_147))
        refine own_pre (T' := T9) (f' := (mkF m 150 #[iv p1, iv p2, iv (0 : Int32), iv (1 : Int32), iv (0 : Int32), rv w_BOTH, iv (1 : Int32), iv (0 : Int32)] [(.int (0 : Int32))])) (fun t k => st9 t k) ?_
        refine own_pre (T' := T9) (f' := (mkF m 152 #[iv p1, iv p2, iv (0 : Int32), iv (1 : Int32), iv (0 : Int32), rv w_BOTH, iv (1 : Int32), iv (0 : Int32)] [(.int (0 : Int32)), (.int (0 : Int32))])) (fun t k => XS.iload X9.here hx rfl (hb hby at_150) rfl k) ?_
        refine own_pre (T' := T9) (f' := (mkF m 155 #[iv p1, iv p2, iv (0 : Int32), iv (1 : Int32), iv (0 : Int32), rv w_BOTH, iv (1 : Int32), iv (0 : Int32)] [])) (fun t k => XS.icmpNo X9.here hx rfl (hb hby at_152) rfl (teq (by decide : (0 : Int32) = (0 : Int32))).2 k) ?_
        refine own_pre (T' := T9) (f' := (mkF m 156 #[iv p1, iv p2, iv (0 : Int32), iv (1 : Int32), iv (0 : Int32), rv w_BOTH, iv (1 : Int32), iv (0 : Int32)] [(.int (1 : Int32))])) (fun t k => XS.iconst X9.here hx rfl (hb hby at_155) k) ?_
        refine own_pre (T' := T9) (f' := (mkF m 160 #[iv p1, iv p2, iv (0 : Int32), iv (1 : Int32), iv (0 : Int32), rv w_BOTH, iv (1 : Int32), iv (0 : Int32)] [(.int (1 : Int32))])) (fun t k => XS.goto X9.here hx rfl (pc0 := 156) (pc' := 160) rfl (hb hby at_156) (by decide) (by decide) k) ?_
        exact own_retZ X9 hx hlk hret (hb hby at_160) rfl (⟨rfl, Fr.nil _⟩) (by decide) (by decide)
      · refine own_pre (T' := s₁) (f' := (mkF m 25 #[iv p1, iv p2, iv (0 : Int32), iv (1 : Int32), .unset, .unset, .unset, .unset] [])) (fun t k => XS.ifNo X0.here hx rfl (hb hby at_22) rfl ((if0 _ _).trans (feq hc7).1) k) ?_
        refine own_pre (T' := s₁) (f' := (mkF m 26 #[iv p1, iv p2, iv (0 : Int32), iv (1 : Int32), .unset, .unset, .unset, .unset] [(.int (1 : Int32))])) (fun t k => XS.iconst X0.here hx rfl (hb hby at_25) k) ?_
        refine own_pre (T' := s₁) (f' := (mkF m 30 #[iv p1, iv p2, iv (0 : Int32), iv (1 : Int32), .unset, .unset, .unset, .unset] [(.int (1 : Int32))])) (fun t k => XS.goto X0.here hx rfl (pc0 := 26) (pc' := 30) rfl (hb hby at_26) (by decide) (by decide) k) ?_
        refine own_pre (T' := s₁) (f' := (mkF m 32 #[iv p1, iv p2, iv (0 : Int32), iv (1 : Int32), iv (1 : Int32), .unset, .unset, .unset] [])) (fun t k => XS.istore X0.here hx rfl (hb hby at_30) rfl (l' := #[iv p1, iv p2, iv (0 : Int32), iv (1 : Int32), iv (1 : Int32), .unset, .unset, .unset]) rfl k) ?_
        refine own_pre (T' := s₁) (f' := (mkF m 33 #[iv p1, iv p2, iv (0 : Int32), iv (1 : Int32), iv (1 : Int32), .unset, .unset, .unset] [(.int (0 : Int32))])) (fun t k => XS.iloadN X0.here hx rfl (hb hby at_32) rfl k) ?_
        refine own_pre (T' := s₁) (f' := (mkF m 36 #[iv p1, iv p2, iv (0 : Int32), iv (1 : Int32), iv (1 : Int32), .unset, .unset, .unset] [])) (fun t k => XS.ifNo X0.here hx rfl (hb hby at_33) rfl ((if0 _ _).trans (teq (by decide : (0 : Int32) = (0 : Int32))).2) k) ?_
        obtain ⟨T10, X10, e10, st10⟩ := getS2 X0 hx hZ hown (host := "") (Or.inl (hw _ (List.mem_of_getElem? (i := 1) rfl))) Via.refl e0 S_BOTH (g := (mkF m 36 #[iv p1, iv p2, iv (0 : Int32), iv (1 : Int32), iv (1 : Int32), .unset, .unset, .unset] [])) rfl (hb hby at_36)
        refine own_pre (T' := T10) (f' := (mkF m 39 #[iv p1, iv p2, iv (0 : Int32), iv (1 : Int32), iv (1 : Int32), .unset, .unset, .unset] [(.ref w_BOTH)])) (fun t k => st10 t k) ?_
        refine own_pre (T' := T10) (f' := (mkF m 41 #[iv p1, iv p2, iv (0 : Int32), iv (1 : Int32), iv (1 : Int32), rv w_BOTH, .unset, .unset] [])) (fun t k => XS.astore X10.here hx rfl (hb hby at_39) rfl rfl (l' := #[iv p1, iv p2, iv (0 : Int32), iv (1 : Int32), iv (1 : Int32), rv w_BOTH, .unset, .unset]) rfl k) ?_
        refine own_pre (T' := T10) (f' := (mkF m 62 #[iv p1, iv p2, iv (0 : Int32), iv (1 : Int32), iv (1 : Int32), rv w_BOTH, .unset, .unset] [])) (fun t k => XS.goto X10.here hx rfl (pc0 := 41) (pc' := 62) rfl (hb hby at_41) (by decide) (by decide) k) ?_
        refine own_pre (T' := T10) (f' := (mkF m 63 #[iv p1, iv p2, iv (0 : Int32), iv (1 : Int32), iv (1 : Int32), rv w_BOTH, .unset, .unset] [(.int (1 : Int32))])) (fun t k => XS.iloadN X10.here hx rfl (hb hby at_62) rfl k) ?_
        refine own_pre (T' := T10) (f' := (mkF m 66 #[iv p1, iv p2, iv (0 : Int32), iv (1 : Int32), iv (1 : Int32), rv w_BOTH, .unset, .unset] [])) (fun t k => XS.ifNo X10.here hx rfl (hb hby at_63) rfl ((if0 _ _).trans (feq (by decide : ¬ ((1 : Int32) = (0 : Int32)))).1) k) ?_
        refine own_pre (T' := T10) (f' := (mkF m 67 #[iv p1, iv p2, iv (0 : Int32), iv (1 : Int32), iv (1 : Int32), rv w_BOTH, .unset, .unset] [(.int (1 : Int32))])) (fun t k => XS.iconst X10.here hx rfl (hb hby at_66) k) ?_
        refine own_pre (T' := T10) (f' := (mkF m 71 #[iv p1, iv p2, iv (0 : Int32), iv (1 : Int32), iv (1 : Int32), rv w_BOTH, .unset, .unset] [(.int (1 : Int32))])) (fun t k => XS.goto X10.here hx rfl (pc0 := 67) (pc' := 71) rfl (hb hby at_67) (by decide) (by decide) k) ?_
        refine own_pre (T' := T10) (f' := (mkF m 73 #[iv p1, iv p2, iv (0 : Int32), iv (1 : Int32), iv (1 : Int32), rv w_BOTH, .unset, .unset] [(.int (1 : Int32)), (.int (1 : Int32))])) (fun t k => XS.iload X10.here hx rfl (hb hby at_71) rfl k) ?_
        refine own_pre (T' := T10) (f' := (mkF m 76 #[iv p1, iv p2, iv (0 : Int32), iv (1 : Int32), iv (1 : Int32), rv w_BOTH, .unset, .unset] [(.int (1 : Int32))])) (fun t k => XS.ifNo X10.here hx rfl (hb hby at_73) rfl ((if0 _ _).trans (feq (by decide : ¬ ((1 : Int32) = (0 : Int32)))).1) k) ?_
        refine own_pre (T' := T10) (f' := (mkF m 77 #[iv p1, iv p2, iv (0 : Int32), iv (1 : Int32), iv (1 : Int32), rv w_BOTH, .unset, .unset] [(.int (1 : Int32)), (.int (1 : Int32))])) (fun t k => XS.iconst X10.here hx rfl (hb hby at_76) k) ?_
        refine own_pre (T' := T10) (f' := (mkF m 81 #[iv p1, iv p2, iv (0 : Int32), iv (1 : Int32), iv (1 : Int32), rv w_BOTH, .unset, .unset] [(.int (1 : Int32)), (.int (1 : Int32))])) (fun t k => XS.goto X10.here hx rfl (pc0 := 77) (pc' := 81) rfl (hb hby at_77) (by decide) (by decide) k) ?_
        refine own_pre (T' := T10) (f' := (mkF m 82 #[iv p1, iv p2, iv (0 : Int32), iv (1 : Int32), iv (1 : Int32), rv w_BOTH, .unset, .unset] [(.int ((1 : Int32) + (1 : Int32)))])) (fun t k => XS.iadd X10.here hx rfl (hb hby at_81) rfl k) ?_
        rw [show ((1 : Int32) + (1 : Int32)) = (2 : Int32) from by decide]
        refine own_pre (T' := T10) (f' := (mkF m 84 #[iv p1, iv p2, iv (0 : Int32), iv (1 : Int32), iv (1 : Int32), rv w_BOTH, iv (2 : Int32), .unset] [])) (fun t k => XS.istore X10.here hx rfl (hb hby at_82) rfl (l' := #[iv p1, iv p2, iv (0 : Int32), iv (1 : Int32), iv (1 : Int32), rv w_BOTH, iv (2 : Int32), .unset]) rfl k) ?_
        refine own_pre (T' := T10) (f' := (mkF m 85 #[iv p1, iv p2, iv (0 : Int32), iv (1 : Int32), iv (1 : Int32), rv w_BOTH, iv (2 : Int32), .unset] [(.int (0 : Int32))])) (fun t k => XS.iloadN X10.here hx rfl (hb hby at_84) rfl k) ?_
        refine own_pre (T' := T10) (f' := (mkF m 88 #[iv p1, iv p2, iv (0 : Int32), iv (1 : Int32), iv (1 : Int32), rv w_BOTH, iv (2 : Int32), .unset] [])) (fun t k => XS.ifNo X10.here hx rfl (hb hby at_85) rfl ((if0 _ _).trans (teq (by decide : (0 : Int32) = (0 : Int32))).2) k) ?_
        refine own_pre (T' := T10) (f' := (mkF m 90 #[iv p1, iv p2, iv (0 : Int32), iv (1 : Int32), iv (1 : Int32), rv w_BOTH, iv (2 : Int32), .unset] [(.int (2 : Int32))])) (fun t k => XS.iload X10.here hx rfl (hb hby at_88) rfl k) ?_
        refine own_pre (T' := T10) (f' := (mkF m 91 #[iv p1, iv p2, iv (0 : Int32), iv (1 : Int32), iv (1 : Int32), rv w_BOTH, iv (2 : Int32), .unset] [(.int (2 : Int32)), (.int (2 : Int32))])) (fun t k => XS.iconst X10.here hx rfl (hb hby at_90) k) ?_
        refine own_pre (T' := T10) (f' := (mkF m 94 #[iv p1, iv p2, iv (0 : Int32), iv (1 : Int32), iv (1 : Int32), rv w_BOTH, iv (2 : Int32), .unset] [])) (fun t k => XS.icmpNo X10.here hx rfl (hb hby at_91) rfl (teq (by decide : (2 : Int32) = (2 : Int32))).2 k) ?_
        refine own_pre (T' := T10) (f' := (mkF m 95 #[iv p1, iv p2, iv (0 : Int32), iv (1 : Int32), iv (1 : Int32), rv w_BOTH, iv (2 : Int32), .unset] [(.int (1 : Int32))])) (fun t k => XS.iconst X10.here hx rfl (hb hby at_94) k) ?_
        refine own_pre (T' := T10) (f' := (mkF m 99 #[iv p1, iv p2, iv (0 : Int32), iv (1 : Int32), iv (1 : Int32), rv w_BOTH, iv (2 : Int32), .unset] [(.int (1 : Int32))])) (fun t k => XS.goto X10.here hx rfl (pc0 := 95) (pc' := 99) rfl (hb hby at_95) (by decide) (by decide) k) ?_
        refine own_pre (T' := T10) (f' := (mkF m 101 #[iv p1, iv p2, iv (0 : Int32), iv (1 : Int32), iv (1 : Int32), rv w_BOTH, iv (2 : Int32), iv (1 : Int32)] [])) (fun t k => XS.istore X10.here hx rfl (hb hby at_99) rfl (l' := #[iv p1, iv p2, iv (0 : Int32), iv (1 : Int32), iv (1 : Int32), rv w_BOTH, iv (2 : Int32), iv (1 : Int32)]) rfl k) ?_
        refine own_pre (T' := T10) (f' := (mkF m 142 #[iv p1, iv p2, iv (0 : Int32), iv (1 : Int32), iv (1 : Int32), rv w_BOTH, iv (2 : Int32), iv (1 : Int32)] [])) (fun t k => XS.goto X10.here hx rfl (pc0 := 101) (pc' := 142) rfl (hb hby at_101) (by decide) (by decide) k) ?_
        refine own_pre (T' := T10) (f' := (mkF m 144 #[iv p1, iv p2, iv (0 : Int32), iv (1 : Int32), iv (1 : Int32), rv w_BOTH, iv (2 : Int32), iv (1 : Int32)] [(.ref w_BOTH)])) (fun t k => XS.aload X10.here hx rfl (hb hby at_142) rfl rfl k) ?_
        refine own_pre (T' := T10) (f' := (mkF m 145 #[iv p1, iv p2, iv (0 : Int32), iv (1 : Int32), iv (1 : Int32), rv w_BOTH, iv (2 : Int32), iv (1 : Int32)] [(.int (1 : Int32)), (.ref w_BOTH)])) (fun t k => XS.iloadN X10.here hx rfl (hb hby at_144) rfl k) ?_
        refine own_pre (T' := T10) (f' := (mkF m 147 #[iv p1, iv p2, iv (0 : Int32), iv (1 : Int32), iv (1 : Int32), rv w_BOTH, iv (2 : Int32), iv (1 : Int32)] [(.int (1 : Int32)), (.int (1 : Int32)), (.ref w_BOTH)])) (fun t k => XS.iload X10.here hx rfl (hb hby at_145) rfl k) ?_
        obtain ⟨T11, X11, e11, st11⟩ := own_pure (f := 0) (n := 0) (v := (some (.int (1 : Int32)))) (own_callV X10 hx hZ e10 (y := (⟨"com/example/witness/witness/pattern/Dfa$Combination", "accepts", "(ZZ)Z"⟩ : MethodName)) hown (hw _ (List.mem_of_getElem? (i := 4) rfl)) (hw _ (List.mem_of_getElem? (i := 5) rfl)) (hw _ (List.mem_of_getElem? (i := 7) rfl)) (hw _ (List.mem_of_getElem? (i := 6) rfl)) (hw _ (List.mem_of_getElem? (i := 8) rfl)) (hw _ (List.mem_of_getElem? (i := 2) rfl)) (by decide) 0 [(.int (1 : Int32)), (.int (1 : Int32))] [] (own_b1_BOTH_11 l Z a0 hw [] w_BOTH w_EXACTLY_ONE w_FIRST_ONLY h0 F0) (by decide) (by decide) (by decide) (by decide) E_BOTH (g := (mkF m 147 #[iv p1, iv p2, iv (0 : Int32), iv (1 : Int32), iv (1 : Int32), rv w_BOTH, iv (2 : Int32), iv (1 : Int32)] [(.int (1 : Int32)), (.int (1 : Int32)), (.ref w_BOTH)])) rfl (by rw [hml]; rfl) (lenOf pd_0 rfl) rfl (by show 2 * 0 + _ ≤ _; exact Nat.le_of_eq rfl) (hb hby at_147))
        refine own_pre (T' := T11) (f' := (mkF m 150 #[iv p1, iv p2, iv (0 : Int32), iv (1 : Int32), iv (1 : Int32), rv w_BOTH, iv (2 : Int32), iv (1 : Int32)] [(.int (1 : Int32))])) (fun t k => st11 t k) ?_
        refine own_pre (T' := T11) (f' := (mkF m 152 #[iv p1, iv p2, iv (0 : Int32), iv (1 : Int32), iv (1 : Int32), rv w_BOTH, iv (2 : Int32), iv (1 : Int32)] [(.int (1 : Int32)), (.int (1 : Int32))])) (fun t k => XS.iload X11.here hx rfl (hb hby at_150) rfl k) ?_
        refine own_pre (T' := T11) (f' := (mkF m 155 #[iv p1, iv p2, iv (0 : Int32), iv (1 : Int32), iv (1 : Int32), rv w_BOTH, iv (2 : Int32), iv (1 : Int32)] [])) (fun t k => XS.icmpNo X11.here hx rfl (hb hby at_152) rfl (teq (by decide : (1 : Int32) = (1 : Int32))).2 k) ?_
        refine own_pre (T' := T11) (f' := (mkF m 156 #[iv p1, iv p2, iv (0 : Int32), iv (1 : Int32), iv (1 : Int32), rv w_BOTH, iv (2 : Int32), iv (1 : Int32)] [(.int (1 : Int32))])) (fun t k => XS.iconst X11.here hx rfl (hb hby at_155) k) ?_
        refine own_pre (T' := T11) (f' := (mkF m 160 #[iv p1, iv p2, iv (0 : Int32), iv (1 : Int32), iv (1 : Int32), rv w_BOTH, iv (2 : Int32), iv (1 : Int32)] [(.int (1 : Int32))])) (fun t k => XS.goto X11.here hx rfl (pc0 := 156) (pc' := 160) rfl (hb hby at_156) (by decide) (by decide) k) ?_
        exact own_retZ X11 hx hlk hret (hb hby at_160) rfl (⟨rfl, Fr.nil _⟩) (by decide) (by decide)
  · rw [hj]
    refine own_pre (T' := s₁) (f' := (mkF m 7 #[iv p1, iv p2, iv (1 : Int32), .unset, .unset, .unset, .unset, .unset] [])) (fun t k => XS.istoreN X0.here hx rfl (hb hby at_6) rfl (l' := #[iv p1, iv p2, iv (1 : Int32), .unset, .unset, .unset, .unset, .unset]) rfl k) ?_
    refine own_pre (T' := s₁) (f' := (mkF m 8 #[iv p1, iv p2, iv (1 : Int32), .unset, .unset, .unset, .unset, .unset] [(.int p2)])) (fun t k => XS.iloadN X0.here hx rfl (hb hby at_7) rfl k) ?_
    refine own_pre (T' := s₁) (f' := (mkF m 9 #[iv p1, iv p2, iv (1 : Int32), .unset, .unset, .unset, .unset, .unset] [(.int (1 : Int32)), (.int p2)])) (fun t k => XS.iconst X0.here hx rfl (hb hby at_8) k) ?_
    refine own_pre (T' := s₁) (f' := (mkF m 10 #[iv p1, iv p2, iv (1 : Int32), .unset, .unset, .unset, .unset, .unset] [(.int (p2 &&& (1 : Int32)))])) (fun t k => XS.iand X0.here hx rfl (hb hby at_9) rfl k) ?_
    by_cases hc12 : (p2 &&& (1 : Int32)) = (0 : Int32)
    · refine own_pre (T' := s₁) (f' := (mkF m 17 #[iv p1, iv p2, iv (1 : Int32), .unset, .unset, .unset, .unset, .unset] [])) (fun t k => XS.ifYes X0.here hx rfl (pc0 := 10) (pc' := 17) rfl (hb hby at_10) rfl ((if0 _ _).trans (teq hc12).1) (by decide) (by decide) k) ?_
      refine own_pre (T' := s₁) (f' := (mkF m 18 #[iv p1, iv p2, iv (1 : Int32), .unset, .unset, .unset, .unset, .unset] [(.int (0 : Int32))])) (fun t k => XS.iconst X0.here hx rfl (hb hby at_17) k) ?_
      refine own_pre (T' := s₁) (f' := (mkF m 19 #[iv p1, iv p2, iv (1 : Int32), iv (0 : Int32), .unset, .unset, .unset, .unset] [])) (fun t k => XS.istoreN X0.here hx rfl (hb hby at_18) rfl (l' := #[iv p1, iv p2, iv (1 : Int32), iv (0 : Int32), .unset, .unset, .unset, .unset]) rfl k) ?_
      refine own_pre (T' := s₁) (f' := (mkF m 20 #[iv p1, iv p2, iv (1 : Int32), iv (0 : Int32), .unset, .unset, .unset, .unset] [(.int p2)])) (fun t k => XS.iloadN X0.here hx rfl (hb hby at_19) rfl k) ?_
      refine own_pre (T' := s₁) (f' := (mkF m 21 #[iv p1, iv p2, iv (1 : Int32), iv (0 : Int32), .unset, .unset, .unset, .unset] [(.int (2 : Int32)), (.int p2)])) (fun t k => XS.iconst X0.here hx rfl (hb hby at_20) k) ?_
      refine own_pre (T' := s₁) (f' := (mkF m 22 #[iv p1, iv p2, iv (1 : Int32), iv (0 : Int32), .unset, .unset, .unset, .unset] [(.int (p2 &&& (2 : Int32)))])) (fun t k => XS.iand X0.here hx rfl (hb hby at_21) rfl k) ?_
      by_cases hc13 : (p2 &&& (2 : Int32)) = (0 : Int32)
      · refine own_pre (T' := s₁) (f' := (mkF m 29 #[iv p1, iv p2, iv (1 : Int32), iv (0 : Int32), .unset, .unset, .unset, .unset] [])) (fun t k => XS.ifYes X0.here hx rfl (pc0 := 22) (pc' := 29) rfl (hb hby at_22) rfl ((if0 _ _).trans (teq hc13).1) (by decide) (by decide) k) ?_
        refine own_pre (T' := s₁) (f' := (mkF m 30 #[iv p1, iv p2, iv (1 : Int32), iv (0 : Int32), .unset, .unset, .unset, .unset] [(.int (0 : Int32))])) (fun t k => XS.iconst X0.here hx rfl (hb hby at_29) k) ?_
        refine own_pre (T' := s₁) (f' := (mkF m 32 #[iv p1, iv p2, iv (1 : Int32), iv (0 : Int32), iv (0 : Int32), .unset, .unset, .unset] [])) (fun t k => XS.istore X0.here hx rfl (hb hby at_30) rfl (l' := #[iv p1, iv p2, iv (1 : Int32), iv (0 : Int32), iv (0 : Int32), .unset, .unset, .unset]) rfl k) ?_
        refine own_pre (T' := s₁) (f' := (mkF m 33 #[iv p1, iv p2, iv (1 : Int32), iv (0 : Int32), iv (0 : Int32), .unset, .unset, .unset] [(.int (1 : Int32))])) (fun t k => XS.iloadN X0.here hx rfl (hb hby at_32) rfl k) ?_
        refine own_pre (T' := s₁) (f' := (mkF m 44 #[iv p1, iv p2, iv (1 : Int32), iv (0 : Int32), iv (0 : Int32), .unset, .unset, .unset] [])) (fun t k => XS.ifYes X0.here hx rfl (pc0 := 33) (pc' := 44) rfl (hb hby at_33) rfl ((if0 _ _).trans (feq (by decide : ¬ ((1 : Int32) = (0 : Int32)))).2) (by decide) (by decide) k) ?_
        refine own_pre (T' := s₁) (f' := (mkF m 45 #[iv p1, iv p2, iv (1 : Int32), iv (0 : Int32), iv (0 : Int32), .unset, .unset, .unset] [(.int (1 : Int32))])) (fun t k => XS.iloadN X0.here hx rfl (hb hby at_44) rfl k) ?_
        refine own_pre (T' := s₁) (f' := (mkF m 46 #[iv p1, iv p2, iv (1 : Int32), iv (0 : Int32), iv (0 : Int32), .unset, .unset, .unset] [(.int (1 : Int32)), (.int (1 : Int32))])) (fun t k => XS.iconst X0.here hx rfl (hb hby at_45) k) ?_
        refine own_pre (T' := s₁) (f' := (mkF m 49 #[iv p1, iv p2, iv (1 : Int32), iv (0 : Int32), iv (0 : Int32), .unset, .unset, .unset] [])) (fun t k => XS.icmpNo X0.here hx rfl (hb hby at_46) rfl (teq (by decide : (1 : Int32) = (1 : Int32))).2 k) ?_
        obtain ⟨T14, X14, e14, st14⟩ := getS2 X0 hx hZ hown (host := "") (Or.inl (hw _ (List.mem_of_getElem? (i := 14) rfl))) Via.refl e0 S_FIRST_ONLY (g := (mkF m 49 #[iv p1, iv p2, iv (1 : Int32), iv (0 : Int32), iv (0 : Int32), .unset, .unset, .unset] [])) rfl (hb hby at_49)
        refine own_pre (T' := T14) (f' := (mkF m 52 #[iv p1, iv p2, iv (1 : Int32), iv (0 : Int32), iv (0 : Int32), .unset, .unset, .unset] [(.ref w_FIRST_ONLY)])) (fun t k => st14 t k) ?_
        refine own_pre (T' := T14) (f' := (mkF m 54 #[iv p1, iv p2, iv (1 : Int32), iv (0 : Int32), iv (0 : Int32), rv w_FIRST_ONLY, .unset, .unset] [])) (fun t k => XS.astore X14.here hx rfl (hb hby at_52) rfl rfl (l' := #[iv p1, iv p2, iv (1 : Int32), iv (0 : Int32), iv (0 : Int32), rv w_FIRST_ONLY, .unset, .unset]) rfl k) ?_
        refine own_pre (T' := T14) (f' := (mkF m 62 #[iv p1, iv p2, iv (1 : Int32), iv (0 : Int32), iv (0 : Int32), rv w_FIRST_ONLY, .unset, .unset] [])) (fun t k => XS.goto X14.here hx rfl (pc0 := 54) (pc' := 62) rfl (hb hby at_54) (by decide) (by decide) k) ?_
        refine own_pre (T' := T14) (f' := (mkF m 63 #[iv p1, iv p2, iv (1 : Int32), iv (0 : Int32), iv (0 : Int32), rv w_FIRST_ONLY, .unset, .unset] [(.int (0 : Int32))])) (fun t k => XS.iloadN X14.here hx rfl (hb hby at_62) rfl k) ?_
        refine own_pre (T' := T14) (f' := (mkF m 70 #[iv p1, iv p2, iv (1 : Int32), iv (0 : Int32), iv (0 : Int32), rv w_FIRST_ONLY, .unset, .unset] [])) (fun t k => XS.ifYes X14.here hx rfl (pc0 := 63) (pc' := 70) rfl (hb hby at_63) rfl ((if0 _ _).trans (teq (by decide : (0 : Int32) = (0 : Int32))).1) (by decide) (by decide) k) ?_
        refine own_pre (T' := T14) (f' := (mkF m 71 #[iv p1, iv p2, iv (1 : Int32), iv (0 : Int32), iv (0 : Int32), rv w_FIRST_ONLY, .unset, .unset] [(.int (0 : Int32))])) (fun t k => XS.iconst X14.here hx rfl (hb hby at_70) k) ?_
        refine own_pre (T' := T14) (f' := (mkF m 73 #[iv p1, iv p2, iv (1 : Int32), iv (0 : Int32), iv (0 : Int32), rv w_FIRST_ONLY, .unset, .unset] [(.int (0 : Int32)), (.int (0 : Int32))])) (fun t k => XS.iload X14.here hx rfl (hb hby at_71) rfl k) ?_
        refine own_pre (T' := T14) (f' := (mkF m 80 #[iv p1, iv p2, iv (1 : Int32), iv (0 : Int32), iv (0 : Int32), rv w_FIRST_ONLY, .unset, .unset] [(.int (0 : Int32))])) (fun t k => XS.ifYes X14.here hx rfl (pc0 := 73) (pc' := 80) rfl (hb hby at_73) rfl ((if0 _ _).trans (teq (by decide : (0 : Int32) = (0 : Int32))).1) (by decide) (by decide) k) ?_
        refine own_pre (T' := T14) (f' := (mkF m 81 #[iv p1, iv p2, iv (1 : Int32), iv (0 : Int32), iv (0 : Int32), rv w_FIRST_ONLY, .unset, .unset] [(.int (0 : Int32)), (.int (0 : Int32))])) (fun t k => XS.iconst X14.here hx rfl (hb hby at_80) k) ?_
        refine own_pre (T' := T14) (f' := (mkF m 82 #[iv p1, iv p2, iv (1 : Int32), iv (0 : Int32), iv (0 : Int32), rv w_FIRST_ONLY, .unset, .unset] [(.int ((0 : Int32) + (0 : Int32)))])) (fun t k => XS.iadd X14.here hx rfl (hb hby at_81) rfl k) ?_
        rw [show ((0 : Int32) + (0 : Int32)) = (0 : Int32) from by decide]
        refine own_pre (T' := T14) (f' := (mkF m 84 #[iv p1, iv p2, iv (1 : Int32), iv (0 : Int32), iv (0 : Int32), rv w_FIRST_ONLY, iv (0 : Int32), .unset] [])) (fun t k => XS.istore X14.here hx rfl (hb hby at_82) rfl (l' := #[iv p1, iv p2, iv (1 : Int32), iv (0 : Int32), iv (0 : Int32), rv w_FIRST_ONLY, iv (0 : Int32), .unset]) rfl k) ?_
        refine own_pre (T' := T14) (f' := (mkF m 85 #[iv p1, iv p2, iv (1 : Int32), iv (0 : Int32), iv (0 : Int32), rv w_FIRST_ONLY, iv (0 : Int32), .unset] [(.int (1 : Int32))])) (fun t k => XS.iloadN X14.here hx rfl (hb hby at_84) rfl k) ?_
        refine own_pre (T' := T14) (f' := (mkF m 104 #[iv p1, iv p2, iv (1 : Int32), iv (0 : Int32), iv (0 : Int32), rv w_FIRST_ONLY, iv (0 : Int32), .unset] [])) (fun t k => XS.ifYes X14.here hx rfl (pc0 := 85) (pc' := 104) rfl (hb hby at_85) rfl ((if0 _ _).trans (feq (by decide : ¬ ((1 : Int32) = (0 : Int32)))).2) (by decide) (by decide) k) ?_
        refine own_pre (T' := T14) (f' := (mkF m 105 #[iv p1, iv p2, iv (1 : Int32), iv (0 : Int32), iv (0 : Int32), rv w_FIRST_ONLY, iv (0 : Int32), .unset] [(.int (1 : Int32))])) (fun t k => XS.iloadN X14.here hx rfl (hb hby at_104) rfl k) ?_
        refine own_pre (T' := T14) (f' := (mkF m 106 #[iv p1, iv p2, iv (1 : Int32), iv (0 : Int32), iv (0 : Int32), rv w_FIRST_ONLY, iv (0 : Int32), .unset] [(.int (1 : Int32)), (.int (1 : Int32))])) (fun t k => XS.iconst X14.here hx rfl (hb hby at_105) k) ?_
        refine own_pre (T' := T14) (f' := (mkF m 109 #[iv p1, iv p2, iv (1 : Int32), iv (0 : Int32), iv (0 : Int32), rv w_FIRST_ONLY, iv (0 : Int32), .unset] [])) (fun t k => XS.icmpNo X14.here hx rfl (hb hby at_106) rfl (teq (by decide : (1 : Int32) = (1 : Int32))).2 k) ?_
        refine own_pre (T' := T14) (f' := (mkF m 110 #[iv p1, iv p2, iv (1 : Int32), iv (0 : Int32), iv (0 : Int32), rv w_FIRST_ONLY, iv (0 : Int32), .unset] [(.int (0 : Int32))])) (fun t k => XS.iloadN X14.here hx rfl (hb hby at_109) rfl k) ?_
        refine own_pre (T' := T14) (f' := (mkF m 123 #[iv p1, iv p2, iv (1 : Int32), iv (0 : Int32), iv (0 : Int32), rv w_FIRST_ONLY, iv (0 : Int32), .unset] [])) (fun t k => XS.ifYes X14.here hx rfl (pc0 := 110) (pc' := 123) rfl (hb hby at_110) rfl ((if0 _ _).trans (teq (by decide : (0 : Int32) = (0 : Int32))).1) (by decide) (by decide) k) ?_
        refine own_pre (T' := T14) (f' := (mkF m 124 #[iv p1, iv p2, iv (1 : Int32), iv (0 : Int32), iv (0 : Int32), rv w_FIRST_ONLY, iv (0 : Int32), .unset] [(.int (0 : Int32))])) (fun t k => XS.iconst X14.here hx rfl (hb hby at_123) k) ?_
        refine own_pre (T' := T14) (f' := (mkF m 126 #[iv p1, iv p2, iv (1 : Int32), iv (0 : Int32), iv (0 : Int32), rv w_FIRST_ONLY, iv (0 : Int32), iv (0 : Int32)] [])) (fun t k => XS.istore X14.here hx rfl (hb hby at_124) rfl (l' := #[iv p1, iv p2, iv (1 : Int32), iv (0 : Int32), iv (0 : Int32), rv w_FIRST_ONLY, iv (0 : Int32), iv (0 : Int32)]) rfl k) ?_
        refine own_pre (T' := T14) (f' := (mkF m 142 #[iv p1, iv p2, iv (1 : Int32), iv (0 : Int32), iv (0 : Int32), rv w_FIRST_ONLY, iv (0 : Int32), iv (0 : Int32)] [])) (fun t k => XS.goto X14.here hx rfl (pc0 := 126) (pc' := 142) rfl (hb hby at_126) (by decide) (by decide) k) ?_
        refine own_pre (T' := T14) (f' := (mkF m 144 #[iv p1, iv p2, iv (1 : Int32), iv (0 : Int32), iv (0 : Int32), rv w_FIRST_ONLY, iv (0 : Int32), iv (0 : Int32)] [(.ref w_FIRST_ONLY)])) (fun t k => XS.aload X14.here hx rfl (hb hby at_142) rfl rfl k) ?_
        refine own_pre (T' := T14) (f' := (mkF m 145 #[iv p1, iv p2, iv (1 : Int32), iv (0 : Int32), iv (0 : Int32), rv w_FIRST_ONLY, iv (0 : Int32), iv (0 : Int32)] [(.int (0 : Int32)), (.ref w_FIRST_ONLY)])) (fun t k => XS.iloadN X14.here hx rfl (hb hby at_144) rfl k) ?_
        refine own_pre (T' := T14) (f' := (mkF m 147 #[iv p1, iv p2, iv (1 : Int32), iv (0 : Int32), iv (0 : Int32), rv w_FIRST_ONLY, iv (0 : Int32), iv (0 : Int32)] [(.int (0 : Int32)), (.int (0 : Int32)), (.ref w_FIRST_ONLY)])) (fun t k => XS.iload X14.here hx rfl (hb hby at_145) rfl k) ?_
        obtain ⟨T15, X15, e15, st15⟩ := own_pure (f := 0) (n := 0) (v := (some (.int (0 : Int32)))) (own_callV X14 hx hZ e14 (y := (⟨"com/example/witness/witness/pattern/Dfa$Combination", "accepts", "(ZZ)Z"⟩ : MethodName)) hown (hw _ (List.mem_of_getElem? (i := 4) rfl)) (hw _ (List.mem_of_getElem? (i := 5) rfl)) (hw _ (List.mem_of_getElem? (i := 7) rfl)) (hw _ (List.mem_of_getElem? (i := 6) rfl)) (hw _ (List.mem_of_getElem? (i := 8) rfl)) (hw _ (List.mem_of_getElem? (i := 2) rfl)) (by decide) 0 [(.int (0 : Int32)), (.int (0 : Int32))] [] (own_b1_FIRST_ONLY_00 l Z a0 hw [] w_BOTH w_EXACTLY_ONE w_FIRST_ONLY h0 F0) (by decide) (by decide) (by decide) (by decide) E_FIRST_ONLY (g := (mkF m 147 #[iv p1, iv p2, iv (1 : Int32), iv (0 : Int32), iv (0 : Int32), rv w_FIRST_ONLY, iv (0 : Int32), iv (0 : Int32)] [(.int (0 : Int32)), (.int (0 : Int32)), (.ref w_FIRST_ONLY)])) rfl (by rw [hml]; rfl) (lenOf pd_0 rfl) rfl (by show 2 * 0 + _ ≤ _; exact Nat.le_of_eq rfl) (hb hby at_147))
        refine own_pre (T' := T15) (f' := (mkF m 150 #[iv p1, iv p2, iv (1 : Int32), iv (0 : Int32), iv (0 : Int32), rv w_FIRST_ONLY, iv (0 : Int32), iv (0 : Int32)] [(.int (0 : Int32))])) (fun t k => st15 t k) ?_
        refine own_pre (T' := T15) (f' := (mkF m 152 #[iv p1, iv p2, iv (1 : Int32), iv (0 : Int32), iv (0 : Int32), rv w_FIRST_ONLY, iv (0 : Int32), iv (0 : Int32)] [(.int (0 : Int32)), (.int (0 : Int32))])) (fun t k => XS.iload X15.here hx rfl (hb hby at_150) rfl k) ?_
        refine own_pre (T' := T15) (f' := (mkF m 155 #[iv p1, iv p2, iv (1 : Int32), iv (0 : Int32), iv (0 : Int32), rv w_FIRST_ONLY, iv (0 : Int32), iv (0 : Int32)] [])) (fun t k => XS.icmpNo X15.here hx rfl (hb hby at_152) rfl (teq (by decide : (0 : Int32) = (0 : Int32))).2 k) ?_
        refine own_pre (T' := T15) (f' := (mkF m 156 #[iv p1, iv p2, iv (1 : Int32), iv (0 : Int32), iv (0 : Int32), rv w_FIRST_ONLY, iv (0 : Int32), iv (0 : Int32)] [(.int (1 : Int32))])) (fun t k => XS.iconst X15.here hx rfl (hb hby at_155) k) ?_
        refine own_pre (T' := T15) (f' := (mkF m 160 #[iv p1, iv p2, iv (1 : Int32), iv (0 : Int32), iv (0 : Int32), rv w_FIRST_ONLY, iv (0 : Int32), iv (0 : Int32)] [(.int (1 : Int32))])) (fun t k => XS.goto X15.here hx rfl (pc0 := 156) (pc' := 160) rfl (hb hby at_156) (by decide) (by decide) k) ?_
        exact own_retZ X15 hx hlk hret (hb hby at_160) rfl (⟨rfl, Fr.nil _⟩) (by decide) (by decide)
      · refine own_pre (T' := s₁) (f' := (mkF m 25 #[iv p1, iv p2, iv (1 : Int32), iv (0 : Int32), .unset, .unset, .unset, .unset] [])) (fun t k => XS.ifNo X0.here hx rfl (hb hby at_22) rfl ((if0 _ _).trans (feq hc13).1) k) ?_
        refine own_pre (T' := s₁) (f' := (mkF m 26 #[iv p1, iv p2, iv (1 : Int32), iv (0 : Int32), .unset, .unset, .unset, .unset] [(.int (1 : Int32))])) (fun t k => XS.iconst X0.here hx rfl (hb hby at_25) k) ?_
        refine own_pre (T' := s₁) (f' := (mkF m 30 #[iv p1, iv p2, iv (1 : Int32), iv (0 : Int32), .unset, .unset, .unset, .unset] [(.int (1 : Int32))])) (fun t k => XS.goto X0.here hx rfl (pc0 := 26) (pc' := 30) rfl (hb hby at_26) (by decide) (by decide) k) ?_
        refine own_pre (T' := s₁) (f' := (mkF m 32 #[iv p1, iv p2, iv (1 : Int32), iv (0 : Int32), iv (1 : Int32), .unset, .unset, .unset] [])) (fun t k => XS.istore X0.here hx rfl (hb hby at_30) rfl (l' := #[iv p1, iv p2, iv (1 : Int32), iv (0 : Int32), iv (1 : Int32), .unset, .unset, .unset]) rfl k) ?_
        refine own_pre (T' := s₁) (f' := (mkF m 33 #[iv p1, iv p2, iv (1 : Int32), iv (0 : Int32), iv (1 : Int32), .unset, .unset, .unset] [(.int (1 : Int32))])) (fun t k => XS.iloadN X0.here hx rfl (hb hby at_32) rfl k) ?_
        refine own_pre (T' := s₁) (f' := (mkF m 44 #[iv p1, iv p2, iv (1 : Int32), iv (0 : Int32), iv (1 : Int32), .unset, .unset, .unset] [])) (fun t k => XS.ifYes X0.here hx rfl (pc0 := 33) (pc' := 44) rfl (hb hby at_33) rfl ((if0 _ _).trans (feq (by decide : ¬ ((1 : Int32) = (0 : Int32)))).2) (by decide) (by decide) k) ?_
        refine own_pre (T' := s₁) (f' := (mkF m 45 #[iv p1, iv p2, iv (1 : Int32), iv (0 : Int32), iv (1 : Int32), .unset, .unset, .unset] [(.int (1 : Int32))])) (fun t k => XS.iloadN X0.here hx rfl (hb hby at_44) rfl k) ?_
        refine own_pre (T' := s₁) (f' := (mkF m 46 #[iv p1, iv p2, iv (1 : Int32), iv (0 : Int32), iv (1 : Int32), .unset, .unset, .unset] [(.int (1 : Int32)), (.int (1 : Int32))])) (fun t k => XS.iconst X0.here hx rfl (hb hby at_45) k) ?_
        refine own_pre (T' := s₁) (f' := (mkF m 49 #[iv p1, iv p2, iv (1 : Int32), iv (0 : Int32), iv (1 : Int32), .unset, .unset, .unset] [])) (fun t k => XS.icmpNo X0.here hx rfl (hb hby at_46) rfl (teq (by decide : (1 : Int32) = (1 : Int32))).2 k) ?_
        obtain ⟨T16, X16, e16, st16⟩ := getS2 X0 hx hZ hown (host := "") (Or.inl (hw _ (List.mem_of_getElem? (i := 14) rfl))) Via.refl e0 S_FIRST_ONLY (g := (mkF m 49 #[iv p1, iv p2, iv (1 : Int32), iv (0 : Int32), iv (1 : Int32), .unset, .unset, .unset] [])) rfl (hb hby at_49)
        refine own_pre (T' := T16) (f' := (mkF m 52 #[iv p1, iv p2, iv (1 : Int32), iv (0 : Int32), iv (1 : Int32), .unset, .unset, .unset] [(.ref w_FIRST_ONLY)])) (fun t k => st16 t k) ?_
        refine own_pre (T' := T16) (f' := (mkF m 54 #[iv p1, iv p2, iv (1 : Int32), iv (0 : Int32), iv (1 : Int32), rv w_FIRST_ONLY, .unset, .unset] [])) (fun t k => XS.astore X16.here hx rfl (hb hby at_52) rfl rfl (l' := #[iv p1, iv p2, iv (1 : Int32), iv (0 : Int32), iv (1 : Int32), rv w_FIRST_ONLY, .unset, .unset]) rfl k) ?_
        refine own_pre (T' := T16) (f' := (mkF m 62 #[iv p1, iv p2, iv (1 : Int32), iv (0 : Int32), iv (1 : Int32), rv w_FIRST_ONLY, .unset, .unset] [])) (fun t k => XS.goto X16.here hx rfl (pc0 := 54) (pc' := 62) rfl (hb hby at_54) (by decide) (by decide) k) ?_
        refine own_pre (T' := T16) (f' := (mkF m 63 #[iv p1, iv p2, iv (1 : Int32), iv (0 : Int32), iv (1 : Int32), rv w_FIRST_ONLY, .unset, .unset] [(.int (0 : Int32))])) (fun t k => XS.iloadN X16.here hx rfl (hb hby at_62) rfl k) ?_
        refine own_pre (T' := T16) (f' := (mkF m 70 #[iv p1, iv p2, iv (1 : Int32), iv (0 : Int32), iv (1 : Int32), rv w_FIRST_ONLY, .unset, .unset] [])) (fun t k => XS.ifYes X16.here hx rfl (pc0 := 63) (pc' := 70) rfl (hb hby at_63) rfl ((if0 _ _).trans (teq (by decide : (0 : Int32) = (0 : Int32))).1) (by decide) (by decide) k) ?_
        refine own_pre (T' := T16) (f' := (mkF m 71 #[iv p1, iv p2, iv (1 : Int32), iv (0 : Int32), iv (1 : Int32), rv w_FIRST_ONLY, .unset, .unset] [(.int (0 : Int32))])) (fun t k => XS.iconst X16.here hx rfl (hb hby at_70) k) ?_
        refine own_pre (T' := T16) (f' := (mkF m 73 #[iv p1, iv p2, iv (1 : Int32), iv (0 : Int32), iv (1 : Int32), rv w_FIRST_ONLY, .unset, .unset] [(.int (1 : Int32)), (.int (0 : Int32))])) (fun t k => XS.iload X16.here hx rfl (hb hby at_71) rfl k) ?_
        refine own_pre (T' := T16) (f' := (mkF m 76 #[iv p1, iv p2, iv (1 : Int32), iv (0 : Int32), iv (1 : Int32), rv w_FIRST_ONLY, .unset, .unset] [(.int (0 : Int32))])) (fun t k => XS.ifNo X16.here hx rfl (hb hby at_73) rfl ((if0 _ _).trans (feq (by decide : ¬ ((1 : Int32) = (0 : Int32)))).1) k) ?_
        refine own_pre (T' := T16) (f' := (mkF m 77 #[iv p1, iv p2, iv (1 : Int32), iv (0 : Int32), iv (1 : Int32), rv w_FIRST_ONLY, .unset, .unset] [(.int (1 : Int32)), (.int (0 : Int32))])) (fun t k => XS.iconst X16.here hx rfl (hb hby at_76) k) ?_
        refine own_pre (T' := T16) (f' := (mkF m 81 #[iv p1, iv p2, iv (1 : Int32), iv (0 : Int32), iv (1 : Int32), rv w_FIRST_ONLY, .unset, .unset] [(.int (1 : Int32)), (.int (0 : Int32))])) (fun t k => XS.goto X16.here hx rfl (pc0 := 77) (pc' := 81) rfl (hb hby at_77) (by decide) (by decide) k) ?_
        refine own_pre (T' := T16) (f' := (mkF m 82 #[iv p1, iv p2, iv (1 : Int32), iv (0 : Int32), iv (1 : Int32), rv w_FIRST_ONLY, .unset, .unset] [(.int ((0 : Int32) + (1 : Int32)))])) (fun t k => XS.iadd X16.here hx rfl (hb hby at_81) rfl k) ?_
        rw [show ((0 : Int32) + (1 : Int32)) = (1 : Int32) from by decide]
        refine own_pre (T' := T16) (f' := (mkF m 84 #[iv p1, iv p2, iv (1 : Int32), iv (0 : Int32), iv (1 : Int32), rv w_FIRST_ONLY, iv (1 : Int32), .unset] [])) (fun t k => XS.istore X16.here hx rfl (hb hby at_82) rfl (l' := #[iv p1, iv p2, iv (1 : Int32), iv (0 : Int32), iv (1 : Int32), rv w_FIRST_ONLY, iv (1 : Int32), .unset]) rfl k) ?_
        refine own_pre (T' := T16) (f' := (mkF m 85 #[iv p1, iv p2, iv (1 : Int32), iv (0 : Int32), iv (1 : Int32), rv w_FIRST_ONLY, iv (1 : Int32), .unset] [(.int (1 : Int32))])) (fun t k => XS.iloadN X16.here hx rfl (hb hby at_84) rfl k) ?_
        refine own_pre (T' := T16) (f' := (mkF m 104 #[iv p1, iv p2, iv (1 : Int32), iv (0 : Int32), iv (1 : Int32), rv w_FIRST_ONLY, iv (1 : Int32), .unset] [])) (fun t k => XS.ifYes X16.here hx rfl (pc0 := 85) (pc' := 104) rfl (hb hby at_85) rfl ((if0 _ _).trans (feq (by decide : ¬ ((1 : Int32) = (0 : Int32)))).2) (by decide) (by decide) k) ?_
        refine own_pre (T' := T16) (f' := (mkF m 105 #[iv p1, iv p2, iv (1 : Int32), iv (0 : Int32), iv (1 : Int32), rv w_FIRST_ONLY, iv (1 : Int32), .unset] [(.int (1 : Int32))])) (fun t k => XS.iloadN X16.here hx rfl (hb hby at_104) rfl k) ?_
        refine own_pre (T' := T16) (f' := (mkF m 106 #[iv p1, iv p2, iv (1 : Int32), iv (0 : Int32), iv (1 : Int32), rv w_FIRST_ONLY, iv (1 : Int32), .unset] [(.int (1 : Int32)), (.int (1 : Int32))])) (fun t k => XS.iconst X16.here hx rfl (hb hby at_105) k) ?_
        refine own_pre (T' := T16) (f' := (mkF m 109 #[iv p1, iv p2, iv (1 : Int32), iv (0 : Int32), iv (1 : Int32), rv w_FIRST_ONLY, iv (1 : Int32), .unset] [])) (fun t k => XS.icmpNo X16.here hx rfl (hb hby at_106) rfl (teq (by decide : (1 : Int32) = (1 : Int32))).2 k) ?_
        refine own_pre (T' := T16) (f' := (mkF m 110 #[iv p1, iv p2, iv (1 : Int32), iv (0 : Int32), iv (1 : Int32), rv w_FIRST_ONLY, iv (1 : Int32), .unset] [(.int (0 : Int32))])) (fun t k => XS.iloadN X16.here hx rfl (hb hby at_109) rfl k) ?_
        refine own_pre (T' := T16) (f' := (mkF m 123 #[iv p1, iv p2, iv (1 : Int32), iv (0 : Int32), iv (1 : Int32), rv w_FIRST_ONLY, iv (1 : Int32), .unset] [])) (fun t k => XS.ifYes X16.here hx rfl (pc0 := 110) (pc' := 123) rfl (hb hby at_110) rfl ((if0 _ _).trans (teq (by decide : (0 : Int32) = (0 : Int32))).1) (by decide) (by decide) k) ?_
        refine own_pre (T' := T16) (f' := (mkF m 124 #[iv p1, iv p2, iv (1 : Int32), iv (0 : Int32), iv (1 : Int32), rv w_FIRST_ONLY, iv (1 : Int32), .unset] [(.int (0 : Int32))])) (fun t k => XS.iconst X16.here hx rfl (hb hby at_123) k) ?_
        refine own_pre (T' := T16) (f' := (mkF m 126 #[iv p1, iv p2, iv (1 : Int32), iv (0 : Int32), iv (1 : Int32), rv w_FIRST_ONLY, iv (1 : Int32), iv (0 : Int32)] [])) (fun t k => XS.istore X16.here hx rfl (hb hby at_124) rfl (l' := #[iv p1, iv p2, iv (1 : Int32), iv (0 : Int32), iv (1 : Int32), rv w_FIRST_ONLY, iv (1 : Int32), iv (0 : Int32)]) rfl k) ?_
        refine own_pre (T' := T16) (f' := (mkF m 142 #[iv p1, iv p2, iv (1 : Int32), iv (0 : Int32), iv (1 : Int32), rv w_FIRST_ONLY, iv (1 : Int32), iv (0 : Int32)] [])) (fun t k => XS.goto X16.here hx rfl (pc0 := 126) (pc' := 142) rfl (hb hby at_126) (by decide) (by decide) k) ?_
        refine own_pre (T' := T16) (f' := (mkF m 144 #[iv p1, iv p2, iv (1 : Int32), iv (0 : Int32), iv (1 : Int32), rv w_FIRST_ONLY, iv (1 : Int32), iv (0 : Int32)] [(.ref w_FIRST_ONLY)])) (fun t k => XS.aload X16.here hx rfl (hb hby at_142) rfl rfl k) ?_
        refine own_pre (T' := T16) (f' := (mkF m 145 #[iv p1, iv p2, iv (1 : Int32), iv (0 : Int32), iv (1 : Int32), rv w_FIRST_ONLY, iv (1 : Int32), iv (0 : Int32)] [(.int (0 : Int32)), (.ref w_FIRST_ONLY)])) (fun t k => XS.iloadN X16.here hx rfl (hb hby at_144) rfl k) ?_
        refine own_pre (T' := T16) (f' := (mkF m 147 #[iv p1, iv p2, iv (1 : Int32), iv (0 : Int32), iv (1 : Int32), rv w_FIRST_ONLY, iv (1 : Int32), iv (0 : Int32)] [(.int (1 : Int32)), (.int (0 : Int32)), (.ref w_FIRST_ONLY)])) (fun t k => XS.iload X16.here hx rfl (hb hby at_145) rfl k) ?_
        obtain ⟨T17, X17, e17, st17⟩ := own_pure (f := 0) (n := 0) (v := (some (.int (0 : Int32)))) (own_callV X16 hx hZ e16 (y := (⟨"com/example/witness/witness/pattern/Dfa$Combination", "accepts", "(ZZ)Z"⟩ : MethodName)) hown (hw _ (List.mem_of_getElem? (i := 4) rfl)) (hw _ (List.mem_of_getElem? (i := 5) rfl)) (hw _ (List.mem_of_getElem? (i := 7) rfl)) (hw _ (List.mem_of_getElem? (i := 6) rfl)) (hw _ (List.mem_of_getElem? (i := 8) rfl)) (hw _ (List.mem_of_getElem? (i := 2) rfl)) (by decide) 0 [(.int (0 : Int32)), (.int (1 : Int32))] [] (own_b1_FIRST_ONLY_01 l Z a0 hw [] w_BOTH w_EXACTLY_ONE w_FIRST_ONLY h0 F0) (by decide) (by decide) (by decide) (by decide) E_FIRST_ONLY (g := (mkF m 147 #[iv p1, iv p2, iv (1 : Int32), iv (0 : Int32), iv (1 : Int32), rv w_FIRST_ONLY, iv (1 : Int32), iv (0 : Int32)] [(.int (1 : Int32)), (.int (0 : Int32)), (.ref w_FIRST_ONLY)])) rfl (by rw [hml]; rfl) (lenOf pd_0 rfl) rfl (by show 2 * 0 + _ ≤ _; exact Nat.le_of_eq rfl) (hb hby at_147))
        refine own_pre (T' := T17) (f' := (mkF m 150 #[iv p1, iv p2, iv (1 : Int32), iv (0 : Int32), iv (1 : Int32), rv w_FIRST_ONLY, iv (1 : Int32), iv (0 : Int32)] [(.int (0 : Int32))])) (fun t k => st17 t k) ?_
        refine own_pre (T' := T17) (f' := (mkF m 152 #[iv p1, iv p2, iv (1 : Int32), iv (0 : Int32), iv (1 : Int32), rv w_FIRST_ONLY, iv (1 : Int32), iv (0 : Int32)] [(.int (0 : Int32)), (.int (0 : Int32))])) (fun t k => XS.iload X17.here hx rfl (hb hby at_150) rfl k) ?_
        refine own_pre (T' := T17) (f' := (mkF m 155 #[iv p1, iv p2, iv (1 : Int32), iv (0 : Int32), iv (1 : Int32), rv w_FIRST_ONLY, iv (1 : Int32), iv (0 : Int32)] [])) (fun t k => XS.icmpNo X17.here hx rfl (hb hby at_152) rfl (teq (by decide : (0 : Int32) = (0 : Int32))).2 k) ?_
        refine own_pre (T' := T17) (f' := (mkF m 156 #[iv p1, iv p2, iv (1 : Int32), iv (0 : Int32), iv (1 : Int32), rv w_FIRST_ONLY, iv (1 : Int32), iv (0 : Int32)] [(.int (1 : Int32))])) (fun t k => XS.iconst X17.here hx rfl (hb hby at_155) k) ?_
        refine own_pre (T' := T17) (f' := (mkF m 160 #[iv p1, iv p2, iv (1 : Int32), iv (0 : Int32), iv (1 : Int32), rv w_FIRST_ONLY, iv (1 : Int32), iv (0 : Int32)] [(.int (1 : Int32))])) (fun t k => XS.goto X17.here hx rfl (pc0 := 156) (pc' := 160) rfl (hb hby at_156) (by decide) (by decide) k) ?_
        exact own_retZ X17 hx hlk hret (hb hby at_160) rfl (⟨rfl, Fr.nil _⟩) (by decide) (by decide)
    · refine own_pre (T' := s₁) (f' := (mkF m 13 #[iv p1, iv p2, iv (1 : Int32), .unset, .unset, .unset, .unset, .unset] [])) (fun t k => XS.ifNo X0.here hx rfl (hb hby at_10) rfl ((if0 _ _).trans (feq hc12).1) k) ?_
      refine own_pre (T' := s₁) (f' := (mkF m 14 #[iv p1, iv p2, iv (1 : Int32), .unset, .unset, .unset, .unset, .unset] [(.int (1 : Int32))])) (fun t k => XS.iconst X0.here hx rfl (hb hby at_13) k) ?_
      refine own_pre (T' := s₁) (f' := (mkF m 18 #[iv p1, iv p2, iv (1 : Int32), .unset, .unset, .unset, .unset, .unset] [(.int (1 : Int32))])) (fun t k => XS.goto X0.here hx rfl (pc0 := 14) (pc' := 18) rfl (hb hby at_14) (by decide) (by decide) k) ?_
      refine own_pre (T' := s₁) (f' := (mkF m 19 #[iv p1, iv p2, iv (1 : Int32), iv (1 : Int32), .unset, .unset, .unset, .unset] [])) (fun t k => XS.istoreN X0.here hx rfl (hb hby at_18) rfl (l' := #[iv p1, iv p2, iv (1 : Int32), iv (1 : Int32), .unset, .unset, .unset, .unset]) rfl k) ?_
      refine own_pre (T' := s₁) (f' := (mkF m 20 #[iv p1, iv p2, iv (1 : Int32), iv (1 : Int32), .unset, .unset, .unset, .unset] [(.int p2)])) (fun t k => XS.iloadN X0.here hx rfl (hb hby at_19) rfl k) ?_
      refine own_pre (T' := s₁) (f' := (mkF m 21 #[iv p1, iv p2, iv (1 : Int32), iv (1 : Int32), .unset, .unset, .unset, .unset] [(.int (2 : Int32)), (.int p2)])) (fun t k => XS.iconst X0.here hx rfl (hb hby at_20) k) ?_
      refine own_pre (T' := s₁) (f' := (mkF m 22 #[iv p1, iv p2, iv (1 : Int32), iv (1 : Int32), .unset, .unset, .unset, .unset] [(.int (p2 &&& (2 : Int32)))])) (fun t k => XS.iand X0.here hx rfl (hb hby at_21) rfl k) ?_
      by_cases hc18 : (p2 &&& (2 : Int32)) = (0 : Int32)
      · refine own_pre (T' := s₁) (f' := (mkF m 29 #[iv p1, iv p2, iv (1 : Int32), iv (1 : Int32), .unset, .unset, .unset, .unset] [])) (fun t k => XS.ifYes X0.here hx rfl (pc0 := 22) (pc' := 29) rfl (hb hby at_22) rfl ((if0 _ _).trans (teq hc18).1) (by decide) (by decide) k) ?_
        refine own_pre (T' := s₁) (f' := (mkF m 30 #[iv p1, iv p2, iv (1 : Int32), iv (1 : Int32), .unset, .unset, .unset, .unset] [(.int (0 : Int32))])) (fun t k => XS.iconst X0.here hx rfl (hb hby at_29) k) ?_
        refine own_pre (T' := s₁) (f' := (mkF m 32 #[iv p1, iv p2, iv (1 : Int32), iv (1 : Int32), iv (0 : Int32), .unset, .unset, .unset] [])) (fun t k => XS.istore X0.here hx rfl (hb hby at_30) rfl (l' := #[iv p1, iv p2, iv (1 : Int32), iv (1 : Int32), iv (0 : Int32), .unset, .unset, .unset]) rfl k) ?_
        refine own_pre (T' := s₁) (f' := (mkF m 33 #[iv p1, iv p2, iv (1 : Int32), iv (1 : Int32), iv (0 : Int32), .unset, .unset, .unset] [(.int (1 : Int32))])) (fun t k => XS.iloadN X0.here hx rfl (hb hby at_32) rfl k) ?_
        refine own_pre (T' := s₁) (f' := (mkF m 44 #[iv p1, iv p2, iv (1 : Int32), iv (1 : Int32), iv (0 : Int32), .unset, .unset, .unset] [])) (fun t k => XS.ifYes X0.here hx rfl (pc0 := 33) (pc' := 44) rfl (hb hby at_33) rfl ((if0 _ _).trans (feq (by decide : ¬ ((1 : Int32) = (0 : Int32)))).2) (by decide) (by decide) k) ?_
        refine own_pre (T' := s₁) (f' := (mkF m 45 #[iv p1, iv p2, iv (1 : Int32), iv (1 : Int32), iv (0 : Int32), .unset, .unset, .unset] [(.int (1 : Int32))])) (fun t k => XS.iloadN X0.here hx rfl (hb hby at_44) rfl k) ?_
        refine own_pre (T' := s₁) (f' := (mkF m 46 #[iv p1, iv p2, iv (1 : Int32), iv (1 : Int32), iv (0 : Int32), .unset, .unset, .unset] [(.int (1 : Int32)), (.int (1 : Int32))])) (fun t k => XS.iconst X0.here hx rfl (hb hby at_45) k) ?_
        refine own_pre (T' := s₁) (f' := (mkF m 49 #[iv p1, iv p2, iv (1 : Int32), iv (1 : Int32), iv (0 : Int32), .unset, .unset, .unset] [])) (fun t k => XS.icmpNo X0.here hx rfl (hb hby at_46) rfl (teq (by decide : (1 : Int32) = (1 : Int32))).2 k) ?_
        obtain ⟨T19, X19, e19, st19⟩ := getS2 X0 hx hZ hown (host := "") (Or.inl (hw _ (List.mem_of_getElem? (i := 14) rfl))) Via.refl e0 S_FIRST_ONLY (g := (mkF m 49 #[iv p1, iv p2, iv (1 : Int32), iv (1 : Int32), iv (0 : Int32), .unset, .unset, .unset] [])) rfl (hb hby at_49)
        refine own_pre (T' := T19) (f' := (mkF m 52 #[iv p1, iv p2, iv (1 : Int32), iv (1 : Int32), iv (0 : Int32), .unset, .unset, .unset] [(.ref w_FIRST_ONLY)])) (fun t k => st19 t k) ?_
        refine own_pre (T' := T19) (f' := (mkF m 54 #[iv p1, iv p2, iv (1 : Int32), iv (1 : Int32), iv (0 : Int32), rv w_FIRST_ONLY, .unset, .unset] [])) (fun t k => XS.astore X19.here hx rfl (hb hby at_52) rfl rfl (l' := #[iv p1, iv p2, iv (1 : Int32), iv (1 : Int32), iv (0 : Int32), rv w_FIRST_ONLY, .unset, .unset]) rfl k) ?_
        refine own_pre (T' := T19) (f' := (mkF m 62 #[iv p1, iv p2, iv (1 : Int32), iv (1 : Int32), iv (0 : Int32), rv w_FIRST_ONLY, .unset, .unset] [])) (fun t k => XS.goto X19.here hx rfl (pc0 := 54) (pc' := 62) rfl (hb hby at_54) (by decide) (by decide) k) ?_
        refine own_pre (T' := T19) (f' := (mkF m 63 #[iv p1, iv p2, iv (1 : Int32), iv (1 : Int32), iv (0 : Int32), rv w_FIRST_ONLY, .unset, .unset] [(.int (1 : Int32))])) (fun t k => XS.iloadN X19.here hx rfl (hb hby at_62) rfl k) ?_
        refine own_pre (T' := T19) (f' := (mkF m 66 #[iv p1, iv p2, iv (1 : Int32), iv (1 : Int32), iv (0 : Int32), rv w_FIRST_ONLY, .unset, .unset] [])) (fun t k => XS.ifNo X19.here hx rfl (hb hby at_63) rfl ((if0 _ _).trans (feq (by decide : ¬ ((1 : Int32) = (0 : Int32)))).1) k) ?_
        refine own_pre (T' := T19) (f' := (mkF m 67 #[iv p1, iv p2, iv (1 : Int32), iv (1 : Int32), iv (0 : Int32), rv w_FIRST_ONLY, .unset, .unset] [(.int (1 : Int32))])) (fun t k => XS.iconst X19.here hx rfl (hb hby at_66) k) ?_
        refine own_pre (T' := T19) (f' := (mkF m 71 #[iv p1, iv p2, iv (1 : Int32), iv (1 : Int32), iv (0 : Int32), rv w_FIRST_ONLY, .unset, .unset] [(.int (1 : Int32))])) (fun t k => XS.goto X19.here hx rfl (pc0 := 67) (pc' := 71) rfl (hb hby at_67) (by decide) (by decide) k) ?_
        refine own_pre (T' := T19) (f' := (mkF m 73 #[iv p1, iv p2, iv (1 : Int32), iv (1 : Int32), iv (0 : Int32), rv w_FIRST_ONLY, .unset, .unset] [(.int (0 : Int32)), (.int (1 : Int32))])) (fun t k => XS.iload X19.here hx rfl (hb hby at_71) rfl k) ?_
        refine own_pre (T' := T19) (f' := (mkF m 80 #[iv p1, iv p2, iv (1 : Int32), iv (1 : Int32), iv (0 : Int32), rv w_FIRST_ONLY, .unset, .unset] [(.int (1 : Int32))])) (fun t k => XS.ifYes X19.here hx rfl (pc0 := 73) (pc' := 80) rfl (hb hby at_73) rfl ((if0 _ _).trans (teq (by decide : (0 : Int32) = (0 : Int32))).1) (by decide) (by decide) k) ?_
        refine own_pre (T' := T19) (f' := (mkF m 81 #[iv p1, iv p2, iv (1 : Int32), iv (1 : Int32), iv (0 : Int32), rv w_FIRST_ONLY, .unset, .unset] [(.int (0 : Int32)), (.int (1 : Int32))])) (fun t k => XS.iconst X19.here hx rfl (hb hby at_80) k) ?_
        refine own_pre (T' := T19) (f' := (mkF m 82 #[iv p1, iv p2, iv (1 : Int32), iv (1 : Int32), iv (0 : Int32), rv w_FIRST_ONLY, .unset, .unset] [(.int ((1 : Int32) + (0 : Int32)))])) (fun t k => XS.iadd X19.here hx rfl (hb hby at_81) rfl k) ?_
        rw [show ((1 : Int32) + (0 : Int32)) = (1 : Int32) from by decide]
        refine own_pre (T' := T19) (f' := (mkF m 84 #[iv p1, iv p2, iv (1 : Int32), iv (1 : Int32), iv (0 : Int32), rv w_FIRST_ONLY, iv (1 : Int32), .unset] [])) (fun t k => XS.istore X19.here hx rfl (hb hby at_82) rfl (l' := #[iv p1, iv p2, iv (1 : Int32), iv (1 : Int32), iv (0 : Int32), rv w_FIRST_ONLY, iv (1 : Int32), .unset]) rfl k) ?_
        refine own_pre (T' := T19) (f' := (mkF m 85 #[iv p1, iv p2, iv (1 : Int32), iv (1 : Int32), iv (0 : Int32), rv w_FIRST_ONLY, iv (1 : Int32), .unset] [(.int (1 : Int32))])) (fun t k => XS.iloadN X19.here hx rfl (hb hby at_84) rfl k) ?_
        refine own_pre (T' := T19) (f' := (mkF m 104 #[iv p1, iv p2, iv (1 : Int32), iv (1 : Int32), iv (0 : Int32), rv w_FIRST_ONLY, iv (1 : Int32), .unset] [])) (fun t k => XS.ifYes X19.here hx rfl (pc0 := 85) (pc' := 104) rfl (hb hby at_85) rfl ((if0 _ _).trans (feq (by decide : ¬ ((1 : Int32) = (0 : Int32)))).2) (by decide) (by decide) k) ?_
        refine own_pre (T' := T19) (f' := (mkF m 105 #[iv p1, iv p2, iv (1 : Int32), iv (1 : Int32), iv (0 : Int32), rv w_FIRST_ONLY, iv (1 : Int32), .unset] [(.int (1 : Int32))])) (fun t k => XS.iloadN X19.here hx rfl (hb hby at_104) rfl k) ?_
        refine own_pre (T' := T19) (f' := (mkF m 106 #[iv p1, iv p2, iv (1 : Int32), iv (1 : Int32), iv (0 : Int32), rv w_FIRST_ONLY, iv (1 : Int32), .unset] [(.int (1 : Int32)), (.int (1 : Int32))])) (fun t k => XS.iconst X19.here hx rfl (hb hby at_105) k) ?_
        refine own_pre (T' := T19) (f' := (mkF m 109 #[iv p1, iv p2, iv (1 : Int32), iv (1 : Int32), iv (0 : Int32), rv w_FIRST_ONLY, iv (1 : Int32), .unset] [])) (fun t k => XS.icmpNo X19.here hx rfl (hb hby at_106) rfl (teq (by decide : (1 : Int32) = (1 : Int32))).2 k) ?_
        refine own_pre (T' := T19) (f' := (mkF m 110 #[iv p1, iv p2, iv (1 : Int32), iv (1 : Int32), iv (0 : Int32), rv w_FIRST_ONLY, iv (1 : Int32), .unset] [(.int (1 : Int32))])) (fun t k => XS.iloadN X19.here hx rfl (hb hby at_109) rfl k) ?_
        refine own_pre (T' := T19) (f' := (mkF m 113 #[iv p1, iv p2, iv (1 : Int32), iv (1 : Int32), iv (0 : Int32), rv w_FIRST_ONLY, iv (1 : Int32), .unset] [])) (fun t k => XS.ifNo X19.here hx rfl (hb hby at_110) rfl ((if0 _ _).trans (feq (by decide : ¬ ((1 : Int32) = (0 : Int32)))).1) k) ?_
        refine own_pre (T' := T19) (f' := (mkF m 115 #[iv p1, iv p2, iv (1 : Int32), iv (1 : Int32), iv (0 : Int32), rv w_FIRST_ONLY, iv (1 : Int32), .unset] [(.int (1 : Int32))])) (fun t k => XS.iload X19.here hx rfl (hb hby at_113) rfl k) ?_
        refine own_pre (T' := T19) (f' := (mkF m 116 #[iv p1, iv p2, iv (1 : Int32), iv (1 : Int32), iv (0 : Int32), rv w_FIRST_ONLY, iv (1 : Int32), .unset] [(.int (1 : Int32)), (.int (1 : Int32))])) (fun t k => XS.iconst X19.here hx rfl (hb hby at_115) k) ?_
        refine own_pre (T' := T19) (f' := (mkF m 119 #[iv p1, iv p2, iv (1 : Int32), iv (1 : Int32), iv (0 : Int32), rv w_FIRST_ONLY, iv (1 : Int32), .unset] [])) (fun t k => XS.icmpNo X19.here hx rfl (hb hby at_116) rfl (teq (by decide : (1 : Int32) = (1 : Int32))).2 k) ?_
        refine own_pre (T' := T19) (f' := (mkF m 120 #[iv p1, iv p2, iv (1 : Int32), iv (1 : Int32), iv (0 : Int32), rv w_FIRST_ONLY, iv (1 : Int32), .unset] [(.int (1 : Int32))])) (fun t k => XS.iconst X19.here hx rfl (hb hby at_119) k) ?_
        refine own_pre (T' := T19) (f' := (mkF m 124 #[iv p1, iv p2, iv (1 : Int32), iv (1 : Int32), iv (0 : Int32), rv w_FIRST_ONLY, iv (1 : Int32), .unset] [(.int (1 : Int32))])) (fun t k => XS.goto X19.here hx rfl (pc0 := 120) (pc' := 124) rfl (hb hby at_120) (by decide) (by decide) k) ?_
        refine own_pre (T' := T19) (f' := (mkF m 126 #[iv p1, iv p2, iv (1 : Int32), iv (1 : Int32), iv (0 : Int32), rv w_FIRST_ONLY, iv (1 : Int32), iv (1 : Int32)] [])) (fun t k => XS.istore X19.here hx rfl (hb hby at_124) rfl (l' := #[iv p1, iv p2, iv (1 : Int32), iv (1 : Int32), iv (0 : Int32), rv w_FIRST_ONLY, iv (1 : Int32), iv (1 : Int32)]) rfl k) ?_
        refine own_pre (T' := T19) (f' := (mkF m 142 #[iv p1, iv p2, iv (1 : Int32), iv (1 : Int32), iv (0 : Int32), rv w_FIRST_ONLY, iv (1 : Int32), iv (1 : Int32)] [])) (fun t k => XS.goto X19.here hx rfl (pc0 := 126) (pc' := 142) rfl (hb hby at_126) (by decide) (by decide) k) ?_
        refine own_pre (T' := T19) (f' := (mkF m 144 #[iv p1, iv p2, iv (1 : Int32), iv (1 : Int32), iv (0 : Int32), rv w_FIRST_ONLY, iv (1 : Int32), iv (1 : Int32)] [(.ref w_FIRST_ONLY)])) (fun t k => XS.aload X19.here hx rfl (hb hby at_142) rfl rfl k) ?_
        refine own_pre (T' := T19) (f' := (mkF m 145 #[iv p1, iv p2, iv (1 : Int32), iv (1 : Int32), iv (0 : Int32), rv w_FIRST_ONLY, iv (1 : Int32), iv (1 : Int32)] [(.int (1 : Int32)), (.ref w_FIRST_ONLY)])) (fun t k => XS.iloadN X19.here hx rfl (hb hby at_144) rfl k) ?_
        refine own_pre (T' := T19) (f' := (mkF m 147 #[iv p1, iv p2, iv (1 : Int32), iv (1 : Int32), iv (0 : Int32), rv w_FIRST_ONLY, iv (1 : Int32), iv (1 : Int32)] [(.int (0 : Int32)), (.int (1 : Int32)), (.ref w_FIRST_ONLY)])) (fun t k => XS.iload X19.here hx rfl (hb hby at_145) rfl k) ?_
        obtain ⟨T20, X20, e20, st20⟩ := own_pure (f := 0) (n := 0) (v := (some (.int (1 : Int32)))) (own_callV X19 hx hZ e19 (y := (⟨"com/example/witness/witness/pattern/Dfa$Combination", "accepts", "(ZZ)Z"⟩ : MethodName)) hown (hw _ (List.mem_of_getElem? (i := 4) rfl)) (hw _ (List.mem_of_getElem? (i := 5) rfl)) (hw _ (List.mem_of_getElem? (i := 7) rfl)) (hw _ (List.mem_of_getElem? (i := 6) rfl)) (hw _ (List.mem_of_getElem? (i := 8) rfl)) (hw _ (List.mem_of_getElem? (i := 2) rfl)) (by decide) 0 [(.int (1 : Int32)), (.int (0 : Int32))] [] (own_b1_FIRST_ONLY_10 l Z a0 hw [] w_BOTH w_EXACTLY_ONE w_FIRST_ONLY h0 F0) (by decide) (by decide) (by decide) (by decide) E_FIRST_ONLY (g := (mkF m 147 #[iv p1, iv p2, iv (1 : Int32), iv (1 : Int32), iv (0 : Int32), rv w_FIRST_ONLY, iv (1 : Int32), iv (1 : Int32)] [(.int (0 : Int32)), (.int (1 : Int32)), (.ref w_FIRST_ONLY)])) rfl (by rw [hml]; rfl) (lenOf pd_0 rfl) rfl (by show 2 * 0 + _ ≤ _; exact Nat.le_of_eq rfl) (hb hby at_147))
        refine own_pre (T' := T20) (f' := (mkF m 150 #[iv p1, iv p2, iv (1 : Int32), iv (1 : Int32), iv (0 : Int32), rv w_FIRST_ONLY, iv (1 : Int32), iv (1 : Int32)] [(.int (1 : Int32))])) (fun t k => st20 t k) ?_
        refine own_pre (T' := T20) (f' := (mkF m 152 #[iv p1, iv p2, iv (1 : Int32), iv (1 : Int32), iv (0 : Int32), rv w_FIRST_ONLY, iv (1 : Int32), iv (1 : Int32)] [(.int (1 : Int32)), (.int (1 : Int32))])) (fun t k => XS.iload X20.here hx rfl (hb hby at_150) rfl k) ?_
        refine own_pre (T' := T20) (f' := (mkF m 155 #[iv p1, iv p2, iv (1 : Int32), iv (1 : Int32), iv (0 : Int32), rv w_FIRST_ONLY, iv (1 : Int32), iv (1 : Int32)] [])) (fun t k => XS.icmpNo X20.here hx rfl (hb hby at_152) rfl (teq (by decide : (1 : Int32) = (1 : Int32))).2 k) ?_
        refine own_pre (T' := T20) (f' := (mkF m 156 #[iv p1, iv p2, iv (1 : Int32), iv (1 : Int32), iv (0 : Int32), rv w_FIRST_ONLY, iv (1 : Int32), iv (1 : Int32)] [(.int (1 : Int32))])) (fun t k => XS.iconst X20.here hx rfl (hb hby at_155) k) ?_
        refine own_pre (T' := T20) (f' := (mkF m 160 #[iv p1, iv p2, iv (1 : Int32), iv (1 : Int32), iv (0 : Int32), rv w_FIRST_ONLY, iv (1 : Int32), iv (1 : Int32)] [(.int (1 : Int32))])) (fun t k => XS.goto X20.here hx rfl (pc0 := 156) (pc' := 160) rfl (hb hby at_156) (by decide) (by decide) k) ?_
        exact own_retZ X20 hx hlk hret (hb hby at_160) rfl (⟨rfl, Fr.nil _⟩) (by decide) (by decide)
      · refine own_pre (T' := s₁) (f' := (mkF m 25 #[iv p1, iv p2, iv (1 : Int32), iv (1 : Int32), .unset, .unset, .unset, .unset] [])) (fun t k => XS.ifNo X0.here hx rfl (hb hby at_22) rfl ((if0 _ _).trans (feq hc18).1) k) ?_
        refine own_pre (T' := s₁) (f' := (mkF m 26 #[iv p1, iv p2, iv (1 : Int32), iv (1 : Int32), .unset, .unset, .unset, .unset] [(.int (1 : Int32))])) (fun t k => XS.iconst X0.here hx rfl (hb hby at_25) k) ?_
        refine own_pre (T' := s₁) (f' := (mkF m 30 #[iv p1, iv p2, iv (1 : Int32), iv (1 : Int32), .unset, .unset, .unset, .unset] [(.int (1 : Int32))])) (fun t k => XS.goto X0.here hx rfl (pc0 := 26) (pc' := 30) rfl (hb hby at_26) (by decide) (by decide) k) ?_
        refine own_pre (T' := s₁) (f' := (mkF m 32 #[iv p1, iv p2, iv (1 : Int32), iv (1 : Int32), iv (1 : Int32), .unset, .unset, .unset] [])) (fun t k => XS.istore X0.here hx rfl (hb hby at_30) rfl (l' := #[iv p1, iv p2, iv (1 : Int32), iv (1 : Int32), iv (1 : Int32), .unset, .unset, .unset]) rfl k) ?_
        refine own_pre (T' := s₁) (f' := (mkF m 33 #[iv p1, iv p2, iv (1 : Int32), iv (1 : Int32), iv (1 : Int32), .unset, .unset, .unset] [(.int (1 : Int32))])) (fun t k => XS.iloadN X0.here hx rfl (hb hby at_32) rfl k) ?_
        refine own_pre (T' := s₁) (f' := (mkF m 44 #[iv p1, iv p2, iv (1 : Int32), iv (1 : Int32), iv (1 : Int32), .unset, .unset, .unset] [])) (fun t k => XS.ifYes X0.here hx rfl (pc0 := 33) (pc' := 44) rfl (hb hby at_33) rfl ((if0 _ _).trans (feq (by decide : ¬ ((1 : Int32) = (0 : Int32)))).2) (by decide) (by decide) k) ?_
        refine own_pre (T' := s₁) (f' := (mkF m 45 #[iv p1, iv p2, iv (1 : Int32), iv (1 : Int32), iv (1 : Int32), .unset, .unset, .unset] [(.int (1 : Int32))])) (fun t k => XS.iloadN X0.here hx rfl (hb hby at_44) rfl k) ?_
        refine own_pre (T' := s₁) (f' := (mkF m 46 #[iv p1, iv p2, iv (1 : Int32), iv (1 : Int32), iv (1 : Int32), .unset, .unset, .unset] [(.int (1 : Int32)), (.int (1 : Int32))])) (fun t k => XS.iconst X0.here hx rfl (hb hby at_45) k) ?_
        refine own_pre (T' := s₁) (f' := (mkF m 49 #[iv p1, iv p2, iv (1 : Int32), iv (1 : Int32), iv (1 : Int32), .unset, .unset, .unset] [])) (fun t k => XS.icmpNo X0.here hx rfl (hb hby at_46) rfl (teq (by decide : (1 : Int32) = (1 : Int32))).2 k) ?_
        obtain ⟨T21, X21, e21, st21⟩ := getS2 X0 hx hZ hown (host := "") (Or.inl (hw _ (List.mem_of_getElem? (i := 14) rfl))) Via.refl e0 S_FIRST_ONLY (g := (mkF m 49 #[iv p1, iv p2, iv (1 : Int32), iv (1 : Int32), iv (1 : Int32), .unset, .unset, .unset] [])) rfl (hb hby at_49)
        refine own_pre (T' := T21) (f' := (mkF m 52 #[iv p1, iv p2, iv (1 : Int32), iv (1 : Int32), iv (1 : Int32), .unset, .unset, .unset] [(.ref w_FIRST_ONLY)])) (fun t k => st21 t k) ?_
        refine own_pre (T' := T21) (f' := (mkF m 54 #[iv p1, iv p2, iv (1 : Int32), iv (1 : Int32), iv (1 : Int32), rv w_FIRST_ONLY, .unset, .unset] [])) (fun t k => XS.astore X21.here hx rfl (hb hby at_52) rfl rfl (l' := #[iv p1, iv p2, iv (1 : Int32), iv (1 : Int32), iv (1 : Int32), rv w_FIRST_ONLY, .unset, .unset]) rfl k) ?_
        refine own_pre (T' := T21) (f' := (mkF m 62 #[iv p1, iv p2, iv (1 : Int32), iv (1 : Int32), iv (1 : Int32), rv w_FIRST_ONLY, .unset, .unset] [])) (fun t k => XS.goto X21.here hx rfl (pc0 := 54) (pc' := 62) rfl (hb hby at_54) (by decide) (by decide) k) ?_
        refine own_pre (T' := T21) (f' := (mkF m 63 #[iv p1, iv p2, iv (1 : Int32), iv (1 : Int32), iv (1 : Int32), rv w_FIRST_ONLY, .unset, .unset] [(.int (1 : Int32))])) (fun t k => XS.iloadN X21.here hx rfl (hb hby at_62) rfl k) ?_
        refine own_pre (T' := T21) (f' := (mkF m 66 #[iv p1, iv p2, iv (1 : Int32), iv (1 : Int32), iv (1 : Int32), rv w_FIRST_ONLY, .unset, .unset] [])) (fun t k => XS.ifNo X21.here hx rfl (hb hby at_63) rfl ((if0 _ _).trans (feq (by decide : ¬ ((1 : Int32) = (0 : Int32)))).1) k) ?_
        refine own_pre (T' := T21) (f' := (mkF m 67 #[iv p1, iv p2, iv (1 : Int32), iv (1 : Int32), iv (1 : Int32), rv w_FIRST_ONLY, .unset, .unset] [(.int (1 : Int32))])) (fun t k => XS.iconst X21.here hx rfl (hb hby at_66) k) ?_
        refine own_pre (T' := T21) (f' := (mkF m 71 #[iv p1, iv p2, iv (1 : Int32), iv (1 : Int32), iv (1 : Int32), rv w_FIRST_ONLY, .unset, .unset] [(.int (1 : Int32))])) (fun t k => XS.goto X21.here hx rfl (pc0 := 67) (pc' := 71) rfl (hb hby at_67) (by decide) (by decide) k) ?_
        refine own_pre (T' := T21) (f' := (mkF m 73 #[iv p1, iv p2, iv (1 : Int32), iv (1 : Int32), iv (1 : Int32), rv w_FIRST_ONLY, .unset, .unset] [(.int (1 : Int32)), (.int (1 : Int32))])) (fun t k => XS.iload X21.here hx rfl (hb hby at_71) rfl k) ?_
        refine own_pre (T' := T21) (f' := (mkF m 76 #[iv p1, iv p2, iv (1 : Int32), iv (1 : Int32), iv (1 : Int32), rv w_FIRST_ONLY, .unset, .unset] [(.int (1 : Int32))])) (fun t k => XS.ifNo X21.here hx rfl (hb hby at_73) rfl ((if0 _ _).trans (feq (by decide : ¬ ((1 : Int32) = (0 : Int32)))).1) k) ?_
        refine own_pre (T' := T21) (f' := (mkF m 77 #[iv p1, iv p2, iv (1 : Int32), iv (1 : Int32), iv (1 : Int32), rv w_FIRST_ONLY, .unset, .unset] [(.int (1 : Int32)), (.int (1 : Int32))])) (fun t k => XS.iconst X21.here hx rfl (hb hby at_76) k) ?_
        refine own_pre (T' := T21) (f' := (mkF m 81 #[iv p1, iv p2, iv (1 : Int32), iv (1 : Int32), iv (1 : Int32), rv w_FIRST_ONLY, .unset, .unset] [(.int (1 : Int32)), (.int (1 : Int32))])) (fun t k => XS.goto X21.here hx rfl (pc0 := 77) (pc' := 81) rfl (hb hby at_77) (by decide) (by decide) k) ?_
        refine own_pre (T' := T21) (f' := (mkF m 82 #[iv p1, iv p2, iv (1 : Int32), iv (1 : Int32), iv (1 : Int32), rv w_FIRST_ONLY, .unset, .unset] [(.int ((1 : Int32) + (1 : Int32)))])) (fun t k => XS.iadd X21.here hx rfl (hb hby at_81) rfl k) ?_
        rw [show ((1 : Int32) + (1 : Int32)) = (2 : Int32) from by decide]
        refine own_pre (T' := T21) (f' := (mkF m 84 #[iv p1, iv p2, iv (1 : Int32), iv (1 : Int32), iv (1 : Int32), rv w_FIRST_ONLY, iv (2 : Int32), .unset] [])) (fun t k => XS.istore X21.here hx rfl (hb hby at_82) rfl (l' := #[iv p1, iv p2, iv (1 : Int32), iv (1 : Int32), iv (1 : Int32), rv w_FIRST_ONLY, iv (2 : Int32), .unset]) rfl k) ?_
        refine own_pre (T' := T21) (f' := (mkF m 85 #[iv p1, iv p2, iv (1 : Int32), iv (1 : Int32), iv (1 : Int32), rv w_FIRST_ONLY, iv (2 : Int32), .unset] [(.int (1 : Int32))])) (fun t k => XS.iloadN X21.here hx rfl (hb hby at_84) rfl k) ?_
        refine own_pre (T' := T21) (f' := (mkF m 104 #[iv p1, iv p2, iv (1 : Int32), iv (1 : Int32), iv (1 : Int32), rv w_FIRST_ONLY, iv (2 : Int32), .unset] [])) (fun t k => XS.ifYes X21.here hx rfl (pc0 := 85) (pc' := 104) rfl (hb hby at_85) rfl ((if0 _ _).trans (feq (by decide : ¬ ((1 : Int32) = (0 : Int32)))).2) (by decide) (by decide) k) ?_
        refine own_pre (T' := T21) (f' := (mkF m 105 #[iv p1, iv p2, iv (1 : Int32), iv (1 : Int32), iv (1 : Int32), rv w_FIRST_ONLY, iv (2 : Int32), .unset] [(.int (1 : Int32))])) (fun t k => XS.iloadN X21.here hx rfl (hb hby at_104) rfl k) ?_
        refine own_pre (T' := T21) (f' := (mkF m 106 #[iv p1, iv p2, iv (1 : Int32), iv (1 : Int32), iv (1 : Int32), rv w_FIRST_ONLY, iv (2 : Int32), .unset] [(.int (1 : Int32)), (.int (1 : Int32))])) (fun t k => XS.iconst X21.here hx rfl (hb hby at_105) k) ?_
        refine own_pre (T' := T21) (f' := (mkF m 109 #[iv p1, iv p2, iv (1 : Int32), iv (1 : Int32), iv (1 : Int32), rv w_FIRST_ONLY, iv (2 : Int32), .unset] [])) (fun t k => XS.icmpNo X21.here hx rfl (hb hby at_106) rfl (teq (by decide : (1 : Int32) = (1 : Int32))).2 k) ?_
        refine own_pre (T' := T21) (f' := (mkF m 110 #[iv p1, iv p2, iv (1 : Int32), iv (1 : Int32), iv (1 : Int32), rv w_FIRST_ONLY, iv (2 : Int32), .unset] [(.int (1 : Int32))])) (fun t k => XS.iloadN X21.here hx rfl (hb hby at_109) rfl k) ?_
        refine own_pre (T' := T21) (f' := (mkF m 113 #[iv p1, iv p2, iv (1 : Int32), iv (1 : Int32), iv (1 : Int32), rv w_FIRST_ONLY, iv (2 : Int32), .unset] [])) (fun t k => XS.ifNo X21.here hx rfl (hb hby at_110) rfl ((if0 _ _).trans (feq (by decide : ¬ ((1 : Int32) = (0 : Int32)))).1) k) ?_
        refine own_pre (T' := T21) (f' := (mkF m 115 #[iv p1, iv p2, iv (1 : Int32), iv (1 : Int32), iv (1 : Int32), rv w_FIRST_ONLY, iv (2 : Int32), .unset] [(.int (2 : Int32))])) (fun t k => XS.iload X21.here hx rfl (hb hby at_113) rfl k) ?_
        refine own_pre (T' := T21) (f' := (mkF m 116 #[iv p1, iv p2, iv (1 : Int32), iv (1 : Int32), iv (1 : Int32), rv w_FIRST_ONLY, iv (2 : Int32), .unset] [(.int (1 : Int32)), (.int (2 : Int32))])) (fun t k => XS.iconst X21.here hx rfl (hb hby at_115) k) ?_
        refine own_pre (T' := T21) (f' := (mkF m 123 #[iv p1, iv p2, iv (1 : Int32), iv (1 : Int32), iv (1 : Int32), rv w_FIRST_ONLY, iv (2 : Int32), .unset] [])) (fun t k => XS.icmpYes X21.here hx rfl (pc0 := 116) (pc' := 123) rfl (hb hby at_116) rfl (feq (by decide : ¬ ((2 : Int32) = (1 : Int32)))).2 (by decide) (by decide) k) ?_
        refine own_pre (T' := T21) (f' := (mkF m 124 #[iv p1, iv p2, iv (1 : Int32), iv (1 : Int32), iv (1 : Int32), rv w_FIRST_ONLY, iv (2 : Int32), .unset] [(.int (0 : Int32))])) (fun t k => XS.iconst X21.here hx rfl (hb hby at_123) k) ?_
        refine own_pre (T' := T21) (f' := (mkF m 126 #[iv p1, iv p2, iv (1 : Int32), iv (1 : Int32), iv (1 : Int32), rv w_FIRST_ONLY, iv (2 : Int32), iv (0 : Int32)] [])) (fun t k => XS.istore X21.here hx rfl (hb hby at_124) rfl (l' := #[iv p1, iv p2, iv (1 : Int32), iv (1 : Int32), iv (1 : Int32), rv w_FIRST_ONLY, iv (2 : Int32), iv (0 : Int32)]) rfl k) ?_
        refine own_pre (T' := T21) (f' := (mkF m 142 #[iv p1, iv p2, iv (1 : Int32), iv (1 : Int32), iv (1 : Int32), rv w_FIRST_ONLY, iv (2 : Int32), iv (0 : Int32)] [])) (fun t k => XS.goto X21.here hx rfl (pc0 := 126) (pc' := 142) rfl (hb hby at_126) (by decide) (by decide) k) ?_
        refine own_pre (T' := T21) (f' := (mkF m 144 #[iv p1, iv p2, iv (1 : Int32), iv (1 : Int32), iv (1 : Int32), rv w_FIRST_ONLY, iv (2 : Int32), iv (0 : Int32)] [(.ref w_FIRST_ONLY)])) (fun t k => XS.aload X21.here hx rfl (hb hby at_142) rfl rfl k) ?_
        refine own_pre (T' := T21) (f' := (mkF m 145 #[iv p1, iv p2, iv (1 : Int32), iv (1 : Int32), iv (1 : Int32), rv w_FIRST_ONLY, iv (2 : Int32), iv (0 : Int32)] [(.int (1 : Int32)), (.ref w_FIRST_ONLY)])) (fun t k => XS.iloadN X21.here hx rfl (hb hby at_144) rfl k) ?_
        refine own_pre (T' := T21) (f' := (mkF m 147 #[iv p1, iv p2, iv (1 : Int32), iv (1 : Int32), iv (1 : Int32), rv w_FIRST_ONLY, iv (2 : Int32), iv (0 : Int32)] [(.int (1 : Int32)), (.int (1 : Int32)), (.ref w_FIRST_ONLY)])) (fun t k => XS.iload X21.here hx rfl (hb hby at_145) rfl k) ?_
        obtain ⟨T22, X22, e22, st22⟩ := own_pure (f := 0) (n := 0) (v := (some (.int (0 : Int32)))) (own_callV X21 hx hZ e21 (y := (⟨"com/example/witness/witness/pattern/Dfa$Combination", "accepts", "(ZZ)Z"⟩ : MethodName)) hown (hw _ (List.mem_of_getElem? (i := 4) rfl)) (hw _ (List.mem_of_getElem? (i := 5) rfl)) (hw _ (List.mem_of_getElem? (i := 7) rfl)) (hw _ (List.mem_of_getElem? (i := 6) rfl)) (hw _ (List.mem_of_getElem? (i := 8) rfl)) (hw _ (List.mem_of_getElem? (i := 2) rfl)) (by decide) 0 [(.int (1 : Int32)), (.int (1 : Int32))] [] (own_b1_FIRST_ONLY_11 l Z a0 hw [] w_BOTH w_EXACTLY_ONE w_FIRST_ONLY h0 F0) (by decide) (by decide) (by decide) (by decide) E_FIRST_ONLY (g := (mkF m 147 #[iv p1, iv p2, iv (1 : Int32), iv (1 : Int32), iv (1 : Int32), rv w_FIRST_ONLY, iv (2 : Int32), iv (0 : Int32)] [(.int (1 : Int32)), (.int (1 : Int32)), (.ref w_FIRST_ONLY)])) rfl (by rw [hml]; rfl) (lenOf pd_0 rfl) rfl (by show 2 * 0 + _ ≤ _; exact Nat.le_of_eq rfl) (hb hby at_147))
        refine own_pre (T' := T22) (f' := (mkF m 150 #[iv p1, iv p2, iv (1 : Int32), iv (1 : Int32), iv (1 : Int32), rv w_FIRST_ONLY, iv (2 : Int32), iv (0 : Int32)] [(.int (0 : Int32))])) (fun t k => st22 t k) ?_
        refine own_pre (T' := T22) (f' := (mkF m 152 #[iv p1, iv p2, iv (1 : Int32), iv (1 : Int32), iv (1 : Int32), rv w_FIRST_ONLY, iv (2 : Int32), iv (0 : Int32)] [(.int (0 : Int32)), (.int (0 : Int32))])) (fun t k => XS.iload X22.here hx rfl (hb hby at_150) rfl k) ?_
        refine own_pre (T' := T22) (f' := (mkF m 155 #[iv p1, iv p2, iv (1 : Int32), iv (1 : Int32), iv (1 : Int32), rv w_FIRST_ONLY, iv (2 : Int32), iv (0 : Int32)] [])) (fun t k => XS.icmpNo X22.here hx rfl (hb hby at_152) rfl (teq (by decide : (0 : Int32) = (0 : Int32))).2 k) ?_
        refine own_pre (T' := T22) (f' := (mkF m 156 #[iv p1, iv p2, iv (1 : Int32), iv (1 : Int32), iv (1 : Int32), rv w_FIRST_ONLY, iv (2 : Int32), iv (0 : Int32)] [(.int (1 : Int32))])) (fun t k => XS.iconst X22.here hx rfl (hb hby at_155) k) ?_
        refine own_pre (T' := T22) (f' := (mkF m 160 #[iv p1, iv p2, iv (1 : Int32), iv (1 : Int32), iv (1 : Int32), rv w_FIRST_ONLY, iv (2 : Int32), iv (0 : Int32)] [(.int (1 : Int32))])) (fun t k => XS.goto X22.here hx rfl (pc0 := 156) (pc' := 160) rfl (hb hby at_156) (by decide) (by decide) k) ?_
        exact own_retZ X22 hx hlk hret (hb hby at_160) rfl (⟨rfl, Fr.nil _⟩) (by decide) (by decide)
  · rw [hj]
    refine own_pre (T' := s₁) (f' := (mkF m 7 #[iv p1, iv p2, iv (2 : Int32), .unset, .unset, .unset, .unset, .unset] [])) (fun t k => XS.istoreN X0.here hx rfl (hb hby at_6) rfl (l' := #[iv p1, iv p2, iv (2 : Int32), .unset, .unset, .unset, .unset, .unset]) rfl k) ?_
    refine own_pre (T' := s₁) (f' := (mkF m 8 #[iv p1, iv p2, iv (2 : Int32), .unset, .unset, .unset, .unset, .unset] [(.int p2)])) (fun t k => XS.iloadN X0.here hx rfl (hb hby at_7) rfl k) ?_
    refine own_pre (T' := s₁) (f' := (mkF m 9 #[iv p1, iv p2, iv (2 : Int32), .unset, .unset, .unset, .unset, .unset] [(.int (1 : Int32)), (.int p2)])) (fun t k => XS.iconst X0.here hx rfl (hb hby at_8) k) ?_
    refine own_pre (T' := s₁) (f' := (mkF m 10 #[iv p1, iv p2, iv (2 : Int32), .unset, .unset, .unset, .unset, .unset] [(.int (p2 &&& (1 : Int32)))])) (fun t k => XS.iand X0.here hx rfl (hb hby at_9) rfl k) ?_
    by_cases hc23 : (p2 &&& (1 : Int32)) = (0 : Int32)
    · refine own_pre (T' := s₁) (f' := (mkF m 17 #[iv p1, iv p2, iv (2 : Int32), .unset, .unset, .unset, .unset, .unset] [])) (fun t k => XS.ifYes X0.here hx rfl (pc0 := 10) (pc' := 17) rfl (hb hby at_10) rfl ((if0 _ _).trans (teq hc23).1) (by decide) (by decide) k) ?_
      refine own_pre (T' := s₁) (f' := (mkF m 18 #[iv p1, iv p2, iv (2 : Int32), .unset, .unset, .unset, .unset, .unset] [(.int (0 : Int32))])) (fun t k => XS.iconst X0.here hx rfl (hb hby at_17) k) ?_
      refine own_pre (T' := s₁) (f' := (mkF m 19 #[iv p1, iv p2, iv (2 : Int32), iv (0 : Int32), .unset, .unset, .unset, .unset] [])) (fun t k => XS.istoreN X0.here hx rfl (hb hby at_18) rfl (l' := #[iv p1, iv p2, iv (2 : Int32), iv (0 : Int32), .unset, .unset, .unset, .unset]) rfl k) ?_
      refine own_pre (T' := s₁) (f' := (mkF m 20 #[iv p1, iv p2, iv (2 : Int32), iv (0 : Int32), .unset, .unset, .unset, .unset] [(.int p2)])) (fun t k => XS.iloadN X0.here hx rfl (hb hby at_19) rfl k) ?_
      refine own_pre (T' := s₁) (f' := (mkF m 21 #[iv p1, iv p2, iv (2 : Int32), iv (0 : Int32), .unset, .unset, .unset, .unset] [(.int (2 : Int32)), (.int p2)])) (fun t k => XS.iconst X0.here hx rfl (hb hby at_20) k) ?_
      refine own_pre (T' := s₁) (f' := (mkF m 22 #[iv p1, iv p2, iv (2 : Int32), iv (0 : Int32), .unset, .unset, .unset, .unset] [(.int (p2 &&& (2 : Int32)))])) (fun t k => XS.iand X0.here hx rfl (hb hby at_21) rfl k) ?_
      by_cases hc24 : (p2 &&& (2 : Int32)) = (0 : Int32)
      · refine own_pre (T' := s₁) (f' := (mkF m 29 #[iv p1, iv p2, iv (2 : Int32), iv (0 : Int32), .unset, .unset, .unset, .unset] [])) (fun t k => XS.ifYes X0.here hx rfl (pc0 := 22) (pc' := 29) rfl (hb hby at_22) rfl ((if0 _ _).trans (teq hc24).1) (by decide) (by decide) k) ?_
        refine own_pre (T' := s₁) (f' := (mkF m 30 #[iv p1, iv p2, iv (2 : Int32), iv (0 : Int32), .unset, .unset, .unset, .unset] [(.int (0 : Int32))])) (fun t k => XS.iconst X0.here hx rfl (hb hby at_29) k) ?_
        refine own_pre (T' := s₁) (f' := (mkF m 32 #[iv p1, iv p2, iv (2 : Int32), iv (0 : Int32), iv (0 : Int32), .unset, .unset, .unset] [])) (fun t k => XS.istore X0.here hx rfl (hb hby at_30) rfl (l' := #[iv p1, iv p2, iv (2 : Int32), iv (0 : Int32), iv (0 : Int32), .unset, .unset, .unset]) rfl k) ?_
        refine own_pre (T' := s₁) (f' := (mkF m 33 #[iv p1, iv p2, iv (2 : Int32), iv (0 : Int32), iv (0 : Int32), .unset, .unset, .unset] [(.int (2 : Int32))])) (fun t k => XS.iloadN X0.here hx rfl (hb hby at_32) rfl k) ?_
        refine own_pre (T' := s₁) (f' := (mkF m 44 #[iv p1, iv p2, iv (2 : Int32), iv (0 : Int32), iv (0 : Int32), .unset, .unset, .unset] [])) (fun t k => XS.ifYes X0.here hx rfl (pc0 := 33) (pc' := 44) rfl (hb hby at_33) rfl ((if0 _ _).trans (feq (by decide : ¬ ((2 : Int32) = (0 : Int32)))).2) (by decide) (by decide) k) ?_
        refine own_pre (T' := s₁) (f' := (mkF m 45 #[iv p1, iv p2, iv (2 : Int32), iv (0 : Int32), iv (0 : Int32), .unset, .unset, .unset] [(.int (2 : Int32))])) (fun t k => XS.iloadN X0.here hx rfl (hb hby at_44) rfl k) ?_
        refine own_pre (T' := s₁) (f' := (mkF m 46 #[iv p1, iv p2, iv (2 : Int32), iv (0 : Int32), iv (0 : Int32), .unset, .unset, .unset] [(.int (1 : Int32)), (.int (2 : Int32))])) (fun t k => XS.iconst X0.here hx rfl (hb hby at_45) k) ?_
        refine own_pre (T' := s₁) (f' := (mkF m 57 #[iv p1, iv p2, iv (2 : Int32), iv (0 : Int32), iv (0 : Int32), .unset, .unset, .unset] [])) (fun t k => XS.icmpYes X0.here hx rfl (pc0 := 46) (pc' := 57) rfl (hb hby at_46) rfl (feq (by decide : ¬ ((2 : Int32) = (1 : Int32)))).2 (by decide) (by decide) k) ?_
        obtain ⟨T25, X25, e25, st25⟩ := getS2 X0 hx hZ hown (host := "") (Or.inl (hw _ (List.mem_of_getElem? (i := 10) rfl))) Via.refl e0 S_EXACTLY_ONE (g := (mkF m 57 #[iv p1, iv p2, iv (2 : Int32), iv (0 : Int32), iv (0 : Int32), .unset, .unset, .unset] [])) rfl (hb hby at_57)
        refine own_pre (T' := T25) (f' := (mkF m 60 #[iv p1, iv p2, iv (2 : Int32), iv (0 : Int32), iv (0 : Int32), .unset, .unset, .unset] [(.ref w_EXACTLY_ONE)])) (fun t k => st25 t k) ?_
        refine own_pre (T' := T25) (f' := (mkF m 62 #[iv p1, iv p2, iv (2 : Int32), iv (0 : Int32), iv (0 : Int32), rv w_EXACTLY_ONE, .unset, .unset] [])) (fun t k => XS.astore X25.here hx rfl (hb hby at_60) rfl rfl (l' := #[iv p1, iv p2, iv (2 : Int32), iv (0 : Int32), iv (0 : Int32), rv w_EXACTLY_ONE, .unset, .unset]) rfl k) ?_
        refine own_pre (T' := T25) (f' := (mkF m 63 #[iv p1, iv p2, iv (2 : Int32), iv (0 : Int32), iv (0 : Int32), rv w_EXACTLY_ONE, .unset, .unset] [(.int (0 : Int32))])) (fun t k => XS.iloadN X25.here hx rfl (hb hby at_62) rfl k) ?_
        refine own_pre (T' := T25) (f' := (mkF m 70 #[iv p1, iv p2, iv (2 : Int32), iv (0 : Int32), iv (0 : Int32), rv w_EXACTLY_ONE, .unset, .unset] [])) (fun t k => XS.ifYes X25.here hx rfl (pc0 := 63) (pc' := 70) rfl (hb hby at_63) rfl ((if0 _ _).trans (teq (by decide : (0 : Int32) = (0 : Int32))).1) (by decide) (by decide) k) ?_
        refine own_pre (T' := T25) (f' := (mkF m 71 #[iv p1, iv p2, iv (2 : Int32), iv (0 : Int32), iv (0 : Int32), rv w_EXACTLY_ONE, .unset, .unset] [(.int (0 : Int32))])) (fun t k => XS.iconst X25.here hx rfl (hb hby at_70) k) ?_
        refine own_pre (T' := T25) (f' := (mkF m 73 #[iv p1, iv p2, iv (2 : Int32), iv (0 : Int32), iv (0 : Int32), rv w_EXACTLY_ONE, .unset, .unset] [(.int (0 : Int32)), (.int (0 : Int32))])) (fun t k => XS.iload X25.here hx rfl (hb hby at_71) rfl k) ?_
        refine own_pre (T' := T25) (f' := (mkF m 80 #[iv p1, iv p2, iv (2 : Int32), iv (0 : Int32), iv (0 : Int32), rv w_EXACTLY_ONE, .unset, .unset] [(.int (0 : Int32))])) (fun t k => XS.ifYes X25.here hx rfl (pc0 := 73) (pc' := 80) rfl (hb hby at_73) rfl ((if0 _ _).trans (teq (by decide : (0 : Int32) = (0 : Int32))).1) (by decide) (by decide) k) ?_
        refine own_pre (T' := T25) (f' := (mkF m 81 #[iv p1, iv p2, iv (2 : Int32), iv (0 : Int32), iv (0 : Int32), rv w_EXACTLY_ONE, .unset, .unset] [(.int (0 : Int32)), (.int (0 : Int32))])) (fun t k => XS.iconst X25.here hx rfl (hb hby at_80) k) ?_
        refine own_pre (T' := T25) (f' := (mkF m 82 #[iv p1, iv p2, iv (2 : Int32), iv (0 : Int32), iv (0 : Int32), rv w_EXACTLY_ONE, .unset, .unset] [(.int ((0 : Int32) + (0 : Int32)))])) (fun t k => XS.iadd X25.here hx rfl (hb hby at_81) rfl k) ?_
        rw [show ((0 : Int32) + (0 : Int32)) = (0 : Int32) from by decide]
        refine own_pre (T' := T25) (f' := (mkF m 84 #[iv p1, iv p2, iv (2 : Int32), iv (0 : Int32), iv (0 : Int32), rv w_EXACTLY_ONE, iv (0 : Int32), .unset] [])) (fun t k => XS.istore X25.here hx rfl (hb hby at_82) rfl (l' := #[iv p1, iv p2, iv (2 : Int32), iv (0 : Int32), iv (0 : Int32), rv w_EXACTLY_ONE, iv (0 : Int32), .unset]) rfl k) ?_
        refine own_pre (T' := T25) (f' := (mkF m 85 #[iv p1, iv p2, iv (2 : Int32), iv (0 : Int32), iv (0 : Int32), rv w_EXACTLY_ONE, iv (0 : Int32), .unset] [(.int (2 : Int32))])) (fun t k => XS.iloadN X25.here hx rfl (hb hby at_84) rfl k) ?_
        refine own_pre (T' := T25) (f' := (mkF m 104 #[iv p1, iv p2, iv (2 : Int32), iv (0 : Int32), iv (0 : Int32), rv w_EXACTLY_ONE, iv (0 : Int32), .unset] [])) (fun t k => XS.ifYes X25.here hx rfl (pc0 := 85) (pc' := 104) rfl (hb hby at_85) rfl ((if0 _ _).trans (feq (by decide : ¬ ((2 : Int32) = (0 : Int32)))).2) (by decide) (by decide) k) ?_
        refine own_pre (T' := T25) (f' := (mkF m 105 #[iv p1, iv p2, iv (2 : Int32), iv (0 : Int32), iv (0 : Int32), rv w_EXACTLY_ONE, iv (0 : Int32), .unset] [(.int (2 : Int32))])) (fun t k => XS.iloadN X25.here hx rfl (hb hby at_104) rfl k) ?_
        refine own_pre (T' := T25) (f' := (mkF m 106 #[iv p1, iv p2, iv (2 : Int32), iv (0 : Int32), iv (0 : Int32), rv w_EXACTLY_ONE, iv (0 : Int32), .unset] [(.int (1 : Int32)), (.int (2 : Int32))])) (fun t k => XS.iconst X25.here hx rfl (hb hby at_105) k) ?_
        refine own_pre (T' := T25) (f' := (mkF m 129 #[iv p1, iv p2, iv (2 : Int32), iv (0 : Int32), iv (0 : Int32), rv w_EXACTLY_ONE, iv (0 : Int32), .unset] [])) (fun t k => XS.icmpYes X25.here hx rfl (pc0 := 106) (pc' := 129) rfl (hb hby at_106) rfl (feq (by decide : ¬ ((2 : Int32) = (1 : Int32)))).2 (by decide) (by decide) k) ?_
        refine own_pre (T' := T25) (f' := (mkF m 131 #[iv p1, iv p2, iv (2 : Int32), iv (0 : Int32), iv (0 : Int32), rv w_EXACTLY_ONE, iv (0 : Int32), .unset] [(.int (0 : Int32))])) (fun t k => XS.iload X25.here hx rfl (hb hby at_129) rfl k) ?_
        refine own_pre (T' := T25) (f' := (mkF m 132 #[iv p1, iv p2, iv (2 : Int32), iv (0 : Int32), iv (0 : Int32), rv w_EXACTLY_ONE, iv (0 : Int32), .unset] [(.int (1 : Int32)), (.int (0 : Int32))])) (fun t k => XS.iconst X25.here hx rfl (hb hby at_131) k) ?_
        refine own_pre (T' := T25) (f' := (mkF m 139 #[iv p1, iv p2, iv (2 : Int32), iv (0 : Int32), iv (0 : Int32), rv w_EXACTLY_ONE, iv (0 : Int32), .unset] [])) (fun t k => XS.icmpYes X25.here hx rfl (pc0 := 132) (pc' := 139) rfl (hb hby at_132) rfl (feq (by decide : ¬ ((0 : Int32) = (1 : Int32)))).2 (by decide) (by decide) k) ?_
        refine own_pre (T' := T25) (f' := (mkF m 140 #[iv p1, iv p2, iv (2 : Int32), iv (0 : Int32), iv (0 : Int32), rv w_EXACTLY_ONE, iv (0 : Int32), .unset] [(.int (0 : Int32))])) (fun t k => XS.iconst X25.here hx rfl (hb hby at_139) k) ?_
        refine own_pre (T' := T25) (f' := (mkF m 142 #[iv p1, iv p2, iv (2 : Int32), iv (0 : Int32), iv (0 : Int32), rv w_EXACTLY_ONE, iv (0 : Int32), iv (0 : Int32)] [])) (fun t k => XS.istore X25.here hx rfl (hb hby at_140) rfl (l' := #[iv p1, iv p2, iv (2 : Int32), iv (0 : Int32), iv (0 : Int32), rv w_EXACTLY_ONE, iv (0 : Int32), iv (0 : Int32)]) rfl k) ?_
        refine own_pre (T' := T25) (f' := (mkF m 144 #[iv p1, iv p2, iv (2 : Int32), iv (0 : Int32), iv (0 : Int32), rv w_EXACTLY_ONE, iv (0 : Int32), iv (0 : Int32)] [(.ref w_EXACTLY_ONE)])) (fun t k => XS.aload X25.here hx rfl (hb hby at_142) rfl rfl k) ?_
        refine own_pre (T' := T25) (f' := (mkF m 145 #[iv p1, iv p2, iv (2 : Int32), iv (0 : Int32), iv (0 : Int32), rv w_EXACTLY_ONE, iv (0 : Int32), iv (0 : Int32)] [(.int (0 : Int32)), (.ref w_EXACTLY_ONE)])) (fun t k => XS.iloadN X25.here hx rfl (hb hby at_144) rfl k) ?_
        refine own_pre (T' := T25) (f' := (mkF m 147 #[iv p1, iv p2, iv (2 : Int32), iv (0 : Int32), iv (0 : Int32), rv w_EXACTLY_ONE, iv (0 : Int32), iv (0 : Int32)] [(.int (0 : Int32)), (.int (0 : Int32)), (.ref w_EXACTLY_ONE)])) (fun t k => XS.iload X25.here hx rfl (hb hby at_145) rfl k) ?_
        obtain ⟨T26, X26, e26, st26⟩ := own_pure (f := 0) (n := 0) (v := (some (.int (0 : Int32)))) (own_callV X25 hx hZ e25 (y := (⟨"com/example/witness/witness/pattern/Dfa$Combination", "accepts", "(ZZ)Z"⟩ : MethodName)) hown (hw _ (List.mem_of_getElem? (i := 4) rfl)) (hw _ (List.mem_of_getElem? (i := 5) rfl)) (hw _ (List.mem_of_getElem? (i := 7) rfl)) (hw _ (List.mem_of_getElem? (i := 6) rfl)) (hw _ (List.mem_of_getElem? (i := 8) rfl)) (hw _ (List.mem_of_getElem? (i := 2) rfl)) (by decide) 0 [(.int (0 : Int32)), (.int (0 : Int32))] [] (own_b1_EXACTLY_ONE_00 l Z a0 hw [] w_BOTH w_EXACTLY_ONE w_FIRST_ONLY h0 F0) (by decide) (by decide) (by decide) (by decide) E_EXACTLY_ONE (g := (mkF m 147 #[iv p1, iv p2, iv (2 : Int32), iv (0 : Int32), iv (0 : Int32), rv w_EXACTLY_ONE, iv (0 : Int32), iv (0 : Int32)] [(.int (0 : Int32)), (.int (0 : Int32)), (.ref w_EXACTLY_ONE)])) rfl (by rw [hml]; rfl) (lenOf pd_0 rfl) rfl (by show 2 * 0 + _ ≤ _; exact Nat.le_of_eq rfl) (hb hby at_147))
        refine own_pre (T' := T26) (f' := (mkF m 150 #[iv p1, iv p2, iv (2 : Int32), iv (0 : Int32), iv (0 : Int32), rv w_EXACTLY_ONE, iv (0 : Int32), iv (0 : Int32)] [(.int (0 : Int32))])) (fun t k => st26 t k) ?_
        refine own_pre (T' := T26) (f' := (mkF m 152 #[iv p1, iv p2, iv (2 : Int32), iv (0 : Int32), iv (0 : Int32), rv w_EXACTLY_ONE, iv (0 : Int32), iv (0 : Int32)] [(.int (0 : Int32)), (.int (0 : Int32))])) (fun t k => XS.iload X26.here hx rfl (hb hby at_150) rfl k) ?_
        refine own_pre (T' := T26) (f' := (mkF m 155 #[iv p1, iv p2, iv (2 : Int32), iv (0 : Int32), iv (0 : Int32), rv w_EXACTLY_ONE, iv (0 : Int32), iv (0 : Int32)] [])) (fun t k => XS.icmpNo X26.here hx rfl (hb hby at_152) rfl (teq (by decide : (0 : Int32) = (0 : Int32))).2 k) ?_
        refine own_pre (T' := T26) (f' := (mkF m 156 #[iv p1, iv p2, iv (2 : Int32), iv (0 : Int32), iv (0 : Int32), rv w_EXACTLY_ONE, iv (0 : Int32), iv (0 : Int32)] [(.int (1 : Int32))])) (fun t k => XS.iconst X26.here hx rfl (hb hby at_155) k) ?_
        refine own_pre (T' := T26) (f' := (mkF m 160 #[iv p1, iv p2, iv (2 : Int32), iv (0 : Int32), iv (0 : Int32), rv w_EXACTLY_ONE, iv (0 : Int32), iv (0 : Int32)] [(.int (1 : Int32))])) (fun t k => XS.goto X26.here hx rfl (pc0 := 156) (pc' := 160) rfl (hb hby at_156) (by decide) (by decide) k) ?_
        exact own_retZ X26 hx hlk hret (hb hby at_160) rfl (⟨rfl, Fr.nil _⟩) (by decide) (by decide)
      · refine own_pre (T' := s₁) (f' := (mkF m 25 #[iv p1, iv p2, iv (2 : Int32), iv (0 : Int32), .unset, .unset, .unset, .unset] [])) (fun t k => XS.ifNo X0.here hx rfl (hb hby at_22) rfl ((if0 _ _).trans (feq hc24).1) k) ?_
        refine own_pre (T' := s₁) (f' := (mkF m 26 #[iv p1, iv p2, iv (2 : Int32), iv (0 : Int32), .unset, .unset, .unset, .unset] [(.int (1 : Int32))])) (fun t k => XS.iconst X0.here hx rfl (hb hby at_25) k) ?_
        refine own_pre (T' := s₁) (f' := (mkF m 30 #[iv p1, iv p2, iv (2 : Int32), iv (0 : Int32), .unset, .unset, .unset, .unset] [(.int (1 : Int32))])) (fun t k => XS.goto X0.here hx rfl (pc0 := 26) (pc' := 30) rfl (hb hby at_26) (by decide) (by decide) k) ?_
        refine own_pre (T' := s₁) (f' := (mkF m 32 #[iv p1, iv p2, iv (2 : Int32), iv (0 : Int32), iv (1 : Int32), .unset, .unset, .unset] [])) (fun t k => XS.istore X0.here hx rfl (hb hby at_30) rfl (l' := #[iv p1, iv p2, iv (2 : Int32), iv (0 : Int32), iv (1 : Int32), .unset, .unset, .unset]) rfl k) ?_
        refine own_pre (T' := s₁) (f' := (mkF m 33 #[iv p1, iv p2, iv (2 : Int32), iv (0 : Int32), iv (1 : Int32), .unset, .unset, .unset] [(.int (2 : Int32))])) (fun t k => XS.iloadN X0.here hx rfl (hb hby at_32) rfl k) ?_
        refine own_pre (T' := s₁) (f' := (mkF m 44 #[iv p1, iv p2, iv (2 : Int32), iv (0 : Int32), iv (1 : Int32), .unset, .unset, .unset] [])) (fun t k => XS.ifYes X0.here hx rfl (pc0 := 33) (pc' := 44) rfl (hb hby at_33) rfl ((if0 _ _).trans (feq (by decide : ¬ ((2 : Int32) = (0 : Int32)))).2) (by decide) (by decide) k) ?_
        refine own_pre (T' := s₁) (f' := (mkF m 45 #[iv p1, iv p2, iv (2 : Int32), iv (0 : Int32), iv (1 : Int32), .unset, .unset, .unset] [(.int (2 : Int32))])) (fun t k => XS.iloadN X0.here hx rfl (hb hby at_44) rfl k) ?_
        refine own_pre (T' := s₁) (f' := (mkF m 46 #[iv p1, iv p2, iv (2 : Int32), iv (0 : Int32), iv (1 : Int32), .unset, .unset, .unset] [(.int (1 : Int32)), (.int (2 : Int32))])) (fun t k => XS.iconst X0.here hx rfl (hb hby at_45) k) ?_
        refine own_pre (T' := s₁) (f' := (mkF m 57 #[iv p1, iv p2, iv (2 : Int32), iv (0 : Int32), iv (1 : Int32), .unset, .unset, .unset] [])) (fun t k => XS.icmpYes X0.here hx rfl (pc0 := 46) (pc' := 57) rfl (hb hby at_46) rfl (feq (by decide : ¬ ((2 : Int32) = (1 : Int32)))).2 (by decide) (by decide) k) ?_
        obtain ⟨T27, X27, e27, st27⟩ := getS2 X0 hx hZ hown (host := "") (Or.inl (hw _ (List.mem_of_getElem? (i := 10) rfl))) Via.refl e0 S_EXACTLY_ONE (g := (mkF m 57 #[iv p1, iv p2, iv (2 : Int32), iv (0 : Int32), iv (1 : Int32), .unset, .unset, .unset] [])) rfl (hb hby at_57)
        refine own_pre (T' := T27) (f' := (mkF m 60 #[iv p1, iv p2, iv (2 : Int32), iv (0 : Int32), iv (1 : Int32), .unset, .unset, .unset] [(.ref w_EXACTLY_ONE)])) (fun t k => st27 t k) ?_
        refine own_pre (T' := T27) (f' := (mkF m 62 #[iv p1, iv p2, iv (2 : Int32), iv (0 : Int32), iv (1 : Int32), rv w_EXACTLY_ONE, .unset, .unset] [])) (fun t k => XS.astore X27.here hx rfl (hb hby at_60) rfl rfl (l' := #[iv p1, iv p2, iv (2 : Int32), iv (0 : Int32), iv (1 : Int32), rv w_EXACTLY_ONE, .unset, .unset]) rfl k) ?_
        refine own_pre (T' := T27) (f' := (mkF m 63 #[iv p1, iv p2, iv (2 : Int32), iv (0 : Int32), iv (1 : Int32), rv w_EXACTLY_ONE, .unset, .unset] [(.int (0 : Int32))])) (fun t k => XS.iloadN X27.here hx rfl (hb hby at_62) rfl k) ?_
        refine own_pre (T' := T27) (f' := (mkF m 70 #[iv p1, iv p2, iv (2 : Int32), iv (0 : Int32), iv (1 : Int32), rv w_EXACTLY_ONE, .unset, .unset] [])) (fun t k => XS.ifYes X27.here hx rfl (pc0 := 63) (pc' := 70) rfl (hb hby at_63) rfl ((if0 _ _).trans (teq (by decide : (0 : Int32) = (0 : Int32))).1) (by decide) (by decide) k) ?_
        refine own_pre (T' := T27) (f' := (mkF m 71 #[iv p1, iv p2, iv (2 : Int32), iv (0 : Int32), iv (1 : Int32), rv w_EXACTLY_ONE, .unset, .unset] [(.int (0 : Int32))])) (fun t k => XS.iconst X27.here hx rfl (hb hby at_70) k) ?_
        refine own_pre (T' := T27) (f' := (mkF m 73 #[iv p1, iv p2, iv (2 : Int32), iv (0 : Int32), iv (1 : Int32), rv w_EXACTLY_ONE, .unset, .unset] [(.int (1 : Int32)), (.int (0 : Int32))])) (fun t k => XS.iload X27.here hx rfl (hb hby at_71) rfl k) ?_
        refine own_pre (T' := T27) (f' := (mkF m 76 #[iv p1, iv p2, iv (2 : Int32), iv (0 : Int32), iv (1 : Int32), rv w_EXACTLY_ONE, .unset, .unset] [(.int (0 : Int32))])) (fun t k => XS.ifNo X27.here hx rfl (hb hby at_73) rfl ((if0 _ _).trans (feq (by decide : ¬ ((1 : Int32) = (0 : Int32)))).1) k) ?_
        refine own_pre (T' := T27) (f' := (mkF m 77 #[iv p1, iv p2, iv (2 : Int32), iv (0 : Int32), iv (1 : Int32), rv w_EXACTLY_ONE, .unset, .unset] [(.int (1 : Int32)), (.int (0 : Int32))])) (fun t k => XS.iconst X27.here hx rfl (hb hby at_76) k) ?_
        refine own_pre (T' := T27) (f' := (mkF m 81 #[iv p1, iv p2, iv (2 : Int32), iv (0 : Int32), iv (1 : Int32), rv w_EXACTLY_ONE, .unset, .unset] [(.int (1 : Int32)), (.int (0 : Int32))])) (fun t k => XS.goto X27.here hx rfl (pc0 := 77) (pc' := 81) rfl (hb hby at_77) (by decide) (by decide) k) ?_
        refine own_pre (T' := T27) (f' := (mkF m 82 #[iv p1, iv p2, iv (2 : Int32), iv (0 : Int32), iv (1 : Int32), rv w_EXACTLY_ONE, .unset, .unset] [(.int ((0 : Int32) + (1 : Int32)))])) (fun t k => XS.iadd X27.here hx rfl (hb hby at_81) rfl k) ?_
        rw [show ((0 : Int32) + (1 : Int32)) = (1 : Int32) from by decide]
        refine own_pre (T' := T27) (f' := (mkF m 84 #[iv p1, iv p2, iv (2 : Int32), iv (0 : Int32), iv (1 : Int32), rv w_EXACTLY_ONE, iv (1 : Int32), .unset] [])) (fun t k => XS.istore X27.here hx rfl (hb hby at_82) rfl (l' := #[iv p1, iv p2, iv (2 : Int32), iv (0 : Int32), iv (1 : Int32), rv w_EXACTLY_ONE, iv (1 : Int32), .unset]) rfl k) ?_
        refine own_pre (T' := T27) (f' := (mkF m 85 #[iv p1, iv p2, iv (2 : Int32), iv (0 : Int32), iv (1 : Int32), rv w_EXACTLY_ONE, iv (1 : Int32), .unset] [(.int (2 : Int32))])) (fun t k => XS.iloadN X27.here hx rfl (hb hby at_84) rfl k) ?_
        refine own_pre (T' := T27) (f' := (mkF m 104 #[iv p1, iv p2, iv (2 : Int32), iv (0 : Int32), iv (1 : Int32), rv w_EXACTLY_ONE, iv (1 : Int32), .unset] [])) (fun t k => XS.ifYes X27.here hx rfl (pc0 := 85) (pc' := 104) rfl (hb hby at_85) rfl ((if0 _ _).trans (feq (by decide : ¬ ((2 : Int32) = (0 : Int32)))).2) (by decide) (by decide) k) ?_
        refine own_pre (T' := T27) (f' := (mkF m 105 #[iv p1, iv p2, iv (2 : Int32), iv (0 : Int32), iv (1 : Int32), rv w_EXACTLY_ONE, iv (1 : Int32), .unset] [(.int (2 : Int32))])) (fun t k => XS.iloadN X27.here hx rfl (hb hby at_104) rfl k) ?_
        refine own_pre (T' := T27) (f' := (mkF m 106 #[iv p1, iv p2, iv (2 : Int32), iv (0 : Int32), iv (1 : Int32), rv w_EXACTLY_ONE, iv (1 : Int32), .unset] [(.int (1 : Int32)), (.int (2 : Int32))])) (fun t k => XS.iconst X27.here hx rfl (hb hby at_105) k) ?_
        refine own_pre (T' := T27) (f' := (mkF m 129 #[iv p1, iv p2, iv (2 : Int32), iv (0 : Int32), iv (1 : Int32), rv w_EXACTLY_ONE, iv (1 : Int32), .unset] [])) (fun t k => XS.icmpYes X27.here hx rfl (pc0 := 106) (pc' := 129) rfl (hb hby at_106) rfl (feq (by decide : ¬ ((2 : Int32) = (1 : Int32)))).2 (by decide) (by decide) k) ?_
        refine own_pre (T' := T27) (f' := (mkF m 131 #[iv p1, iv p2, iv (2 : Int32), iv (0 : Int32), iv (1 : Int32), rv w_EXACTLY_ONE, iv (1 : Int32), .unset] [(.int (1 : Int32))])) (fun t k => XS.iload X27.here hx rfl (hb hby at_129) rfl k) ?_
        refine own_pre (T' := T27) (f' := (mkF m 132 #[iv p1, iv p2, iv (2 : Int32), iv (0 : Int32), iv (1 : Int32), rv w_EXACTLY_ONE, iv (1 : Int32), .unset] [(.int (1 : Int32)), (.int (1 : Int32))])) (fun t k => XS.iconst X27.here hx rfl (hb hby at_131) k) ?_
        refine own_pre (T' := T27) (f' := (mkF m 135 #[iv p1, iv p2, iv (2 : Int32), iv (0 : Int32), iv (1 : Int32), rv w_EXACTLY_ONE, iv (1 : Int32), .unset] [])) (fun t k => XS.icmpNo X27.here hx rfl (hb hby at_132) rfl (teq (by decide : (1 : Int32) = (1 : Int32))).2 k) ?_
        refine own_pre (T' := T27) (f' := (mkF m 136 #[iv p1, iv p2, iv (2 : Int32), iv (0 : Int32), iv (1 : Int32), rv w_EXACTLY_ONE, iv (1 : Int32), .unset] [(.int (1 : Int32))])) (fun t k => XS.iconst X27.here hx rfl (hb hby at_135) k) ?_
        refine own_pre (T' := T27) (f' := (mkF m 140 #[iv p1, iv p2, iv (2 : Int32), iv (0 : Int32), iv (1 : Int32), rv w_EXACTLY_ONE, iv (1 : Int32), .unset] [(.int (1 : Int32))])) (fun t k => XS.goto X27.here hx rfl (pc0 := 136) (pc' := 140) rfl (hb hby at_136) (by decide) (by decide) k) ?_
        refine own_pre (T' := T27) (f' := (mkF m 142 #[iv p1, iv p2, iv (2 : Int32), iv (0 : Int32), iv (1 : Int32), rv w_EXACTLY_ONE, iv (1 : Int32), iv (1 : Int32)] [])) (fun t k => XS.istore X27.here hx rfl (hb hby at_140) rfl (l' := #[iv p1, iv p2, iv (2 : Int32), iv (0 : Int32), iv (1 : Int32), rv w_EXACTLY_ONE, iv (1 : Int32), iv (1 : Int32)]) rfl k) ?_
        refine own_pre (T' := T27) (f' := (mkF m 144 #[iv p1, iv p2, iv (2 : Int32), iv (0 : Int32), iv (1 : Int32), rv w_EXACTLY_ONE, iv (1 : Int32), iv (1 : Int32)] [(.ref w_EXACTLY_ONE)])) (fun t k => XS.aload X27.here hx rfl (hb hby at_142) rfl rfl k) ?_
        refine own_pre (T' := T27) (f' := (mkF m 145 #[iv p1, iv p2, iv (2 : Int32), iv (0 : Int32), iv (1 : Int32), rv w_EXACTLY_ONE, iv (1 : Int32), iv (1 : Int32)] [(.int (0 : Int32)), (.ref w_EXACTLY_ONE)])) (fun t k => XS.iloadN X27.here hx rfl (hb hby at_144) rfl k) ?_
        refine own_pre (T' := T27) (f' := (mkF m 147 #[iv p1, iv p2, iv (2 : Int32), iv (0 : Int32), iv (1 : Int32), rv w_EXACTLY_ONE, iv (1 : Int32), iv (1 : Int32)] [(.int (1 : Int32)), (.int (0 : Int32)), (.ref w_EXACTLY_ONE)])) (fun t k => XS.iload X27.here hx rfl (hb hby at_145) rfl k) ?_
        obtain ⟨T28, X28, e28, st28⟩ := own_pure (f := 0) (n := 0) (v := (some (.int (1 : Int32)))) (own_callV X27 hx hZ e27 (y := (⟨"com/example/witness/witness/pattern/Dfa$Combination", "accepts", "(ZZ)Z"⟩ : MethodName)) hown (hw _ (List.mem_of_getElem? (i := 4) rfl)) (hw _ (List.mem_of_getElem? (i := 5) rfl)) (hw _ (List.mem_of_getElem? (i := 7) rfl)) (hw _ (List.mem_of_getElem? (i := 6) rfl)) (hw _ (List.mem_of_getElem? (i := 8) rfl)) (hw _ (List.mem_of_getElem? (i := 2) rfl)) (by decide) 0 [(.int (0 : Int32)), (.int (1 : Int32))] [] (own_b1_EXACTLY_ONE_01 l Z a0 hw [] w_BOTH w_EXACTLY_ONE w_FIRST_ONLY h0 F0) (by decide) (by decide) (by decide) (by decide) E_EXACTLY_ONE (g := (mkF m 147 #[iv p1, iv p2, iv (2 : Int32), iv (0 : Int32), iv (1 : Int32), rv w_EXACTLY_ONE, iv (1 : Int32), iv (1 : Int32)] [(.int (1 : Int32)), (.int (0 : Int32)), (.ref w_EXACTLY_ONE)])) rfl (by rw [hml]; rfl) (lenOf pd_0 rfl) rfl (by show 2 * 0 + _ ≤ _; exact Nat.le_of_eq rfl) (hb hby at_147))
        refine own_pre (T' := T28) (f' := (mkF m 150 #[iv p1, iv p2, iv (2 : Int32), iv (0 : Int32), iv (1 : Int32), rv w_EXACTLY_ONE, iv (1 : Int32), iv (1 : Int32)] [(.int (1 : Int32))])) (fun t k => st28 t k) ?_
        refine own_pre (T' := T28) (f' := (mkF m 152 #[iv p1, iv p2, iv (2 : Int32), iv (0 : Int32), iv (1 : Int32), rv w_EXACTLY_ONE, iv (1 : Int32), iv (1 : Int32)] [(.int (1 : Int32)), (.int (1 : Int32))])) (fun t k => XS.iload X28.here hx rfl (hb hby at_150) rfl k) ?_
        refine own_pre (T' := T28) (f' := (mkF m 155 #[iv p1, iv p2, iv (2 : Int32), iv (0 : Int32), iv (1 : Int32), rv w_EXACTLY_ONE, iv (1 : Int32), iv (1 : Int32)] [])) (fun t k => XS.icmpNo X28.here hx rfl (hb hby at_152) rfl (teq (by decide : (1 : Int32) = (1 : Int32))).2 k) ?_
        refine own_pre (T' := T28) (f' := (mkF m 156 #[iv p1, iv p2, iv (2 : Int32), iv (0 : Int32), iv (1 : Int32), rv w_EXACTLY_ONE, iv (1 : Int32), iv (1 : Int32)] [(.int (1 : Int32))])) (fun t k => XS.iconst X28.here hx rfl (hb hby at_155) k) ?_
        refine own_pre (T' := T28) (f' := (mkF m 160 #[iv p1, iv p2, iv (2 : Int32), iv (0 : Int32), iv (1 : Int32), rv w_EXACTLY_ONE, iv (1 : Int32), iv (1 : Int32)] [(.int (1 : Int32))])) (fun t k => XS.goto X28.here hx rfl (pc0 := 156) (pc' := 160) rfl (hb hby at_156) (by decide) (by decide) k) ?_
        exact own_retZ X28 hx hlk hret (hb hby at_160) rfl (⟨rfl, Fr.nil _⟩) (by decide) (by decide)
    · refine own_pre (T' := s₁) (f' := (mkF m 13 #[iv p1, iv p2, iv (2 : Int32), .unset, .unset, .unset, .unset, .unset] [])) (fun t k => XS.ifNo X0.here hx rfl (hb hby at_10) rfl ((if0 _ _).trans (feq hc23).1) k) ?_
      refine own_pre (T' := s₁) (f' := (mkF m 14 #[iv p1, iv p2, iv (2 : Int32), .unset, .unset, .unset, .unset, .unset] [(.int (1 : Int32))])) (fun t k => XS.iconst X0.here hx rfl (hb hby at_13) k) ?_
      refine own_pre (T' := s₁) (f' := (mkF m 18 #[iv p1, iv p2, iv (2 : Int32), .unset, .unset, .unset, .unset, .unset] [(.int (1 : Int32))])) (fun t k => XS.goto X0.here hx rfl (pc0 := 14) (pc' := 18) rfl (hb hby at_14) (by decide) (by decide) k) ?_
      refine own_pre (T' := s₁) (f' := (mkF m 19 #[iv p1, iv p2, iv (2 : Int32), iv (1 : Int32), .unset, .unset, .unset, .unset] [])) (fun t k => XS.istoreN X0.here hx rfl (hb hby at_18) rfl (l' := #[iv p1, iv p2, iv (2 : Int32), iv (1 : Int32), .unset, .unset, .unset, .unset]) rfl k) ?_
      refine own_pre (T' := s₁) (f' := (mkF m 20 #[iv p1, iv p2, iv (2 : Int32), iv (1 : Int32), .unset, .unset, .unset, .unset] [(.int p2)])) (fun t k => XS.iloadN X0.here hx rfl (hb hby at_19) rfl k) ?_
      refine own_pre (T' := s₁) (f' := (mkF m 21 #[iv p1, iv p2, iv (2 : Int32), iv (1 : Int32), .unset, .unset, .unset, .unset] [(.int (2 : Int32)), (.int p2)])) (fun t k => XS.iconst X0.here hx rfl (hb hby at_20) k) ?_
      refine own_pre (T' := s₁) (f' := (mkF m 22 #[iv p1, iv p2, iv (2 : Int32), iv (1 : Int32), .unset, .unset, .unset, .unset] [(.int (p2 &&& (2 : Int32)))])) (fun t k => XS.iand X0.here hx rfl (hb hby at_21) rfl k) ?_
      by_cases hc29 : (p2 &&& (2 : Int32)) = (0 : Int32)
      · refine own_pre (T' := s₁) (f' := (mkF m 29 #[iv p1, iv p2, iv (2 : Int32), iv (1 : Int32), .unset, .unset, .unset, .unset] [])) (fun t k => XS.ifYes X0.here hx rfl (pc0 := 22) (pc' := 29) rfl (hb hby at_22) rfl ((if0 _ _).trans (teq hc29).1) (by decide) (by decide) k) ?_
        refine own_pre (T' := s₁) (f' := (mkF m 30 #[iv p1, iv p2, iv (2 : Int32), iv (1 : Int32), .unset, .unset, .unset, .unset] [(.int (0 : Int32))])) (fun t k => XS.iconst X0.here hx rfl (hb hby at_29) k) ?_
        refine own_pre (T' := s₁) (f' := (mkF m 32 #[iv p1, iv p2, iv (2 : Int32), iv (1 : Int32), iv (0 : Int32), .unset, .unset, .unset] [])) (fun t k => XS.istore X0.here hx rfl (hb hby at_30) rfl (l' := #[iv p1, iv p2, iv (2 : Int32), iv (1 : Int32), iv (0 : Int32), .unset, .unset, .unset]) rfl k) ?_
        refine own_pre (T' := s₁) (f' := (mkF m 33 #[iv p1, iv p2, iv (2 : Int32), iv (1 : Int32), iv (0 : Int32), .unset, .unset, .unset] [(.int (2 : Int32))])) (fun t k => XS.iloadN X0.here hx rfl (hb hby at_32) rfl k) ?_
        refine own_pre (T' := s₁) (f' := (mkF m 44 #[iv p1, iv p2, iv (2 : Int32), iv (1 : Int32), iv (0 : Int32), .unset, .unset, .unset] [])) (fun t k => XS.ifYes X0.here hx rfl (pc0 := 33) (pc' := 44) rfl (hb hby at_33) rfl ((if0 _ _).trans (feq (by decide : ¬ ((2 : Int32) = (0 : Int32)))).2) (by decide) (by decide) k) ?_
        refine own_pre (T' := s₁) (f' := (mkF m 45 #[iv p1, iv p2, iv (2 : Int32), iv (1 : Int32), iv (0 : Int32), .unset, .unset, .unset] [(.int (2 : Int32))])) (fun t k => XS.iloadN X0.here hx rfl (hb hby at_44) rfl k) ?_
        refine own_pre (T' := s₁) (f' := (mkF m 46 #[iv p1, iv p2, iv (2 : Int32), iv (1 : Int32), iv (0 : Int32), .unset, .unset, .unset] [(.int (1 : Int32)), (.int (2 : Int32))])) (fun t k => XS.iconst X0.here hx rfl (hb hby at_45) k) ?_
        refine own_pre (T' := s₁) (f' := (mkF m 57 #[iv p1, iv p2, iv (2 : Int32), iv (1 : Int32), iv (0 : Int32), .unset, .unset, .unset] [])) (fun t k => XS.icmpYes X0.here hx rfl (pc0 := 46) (pc' := 57) rfl (hb hby at_46) rfl (feq (by decide : ¬ ((2 : Int32) = (1 : Int32)))).2 (by decide) (by decide) k) ?_
        obtain ⟨T30, X30, e30, st30⟩ := getS2 X0 hx hZ hown (host := "") (Or.inl (hw _ (List.mem_of_getElem? (i := 10) rfl))) Via.refl e0 S_EXACTLY_ONE (g := (mkF m 57 #[iv p1, iv p2, iv (2 : Int32), iv (1 : Int32), iv (0 : Int32), .unset, .unset, .unset] [])) rfl (hb hby at_57)
        refine own_pre (T' := T30) (f' := (mkF m 60 #[iv p1, iv p2, iv (2 : Int32), iv (1 : Int32), iv (0 : Int32), .unset, .unset, .unset] [(.ref w_EXACTLY_ONE)])) (fun t k => st30 t k) ?_
        refine own_pre (T' := T30) (f' := (mkF m 62 #[iv p1, iv p2, iv (2 : Int32), iv (1 : Int32), iv (0 : Int32), rv w_EXACTLY_ONE, .unset, .unset] [])) (fun t k => XS.astore X30.here hx rfl (hb hby at_60) rfl rfl (l' := #[iv p1, iv p2, iv (2 : Int32), iv (1 : Int32), iv (0 : Int32), rv w_EXACTLY_ONE, .unset, .unset]) rfl k) ?_
        refine own_pre (T' := T30) (f' := (mkF m 63 #[iv p1, iv p2, iv (2 : Int32), iv (1 : Int32), iv (0 : Int32), rv w_EXACTLY_ONE, .unset, .unset] [(.int (1 : Int32))])) (fun t k => XS.iloadN X30.here hx rfl (hb hby at_62) rfl k) ?_
        refine own_pre (T' := T30) (f' := (mkF m 66 #[iv p1, iv p2, iv (2 : Int32), iv (1 : Int32), iv (0 : Int32), rv w_EXACTLY_ONE, .unset, .unset] [])) (fun t k => XS.ifNo X30.here hx rfl (hb hby at_63) rfl ((if0 _ _).trans (feq (by decide : ¬ ((1 : Int32) = (0 : Int32)))).1) k) ?_
        refine own_pre (T' := T30) (f' := (mkF m 67 #[iv p1, iv p2, iv (2 : Int32), iv (1 : Int32), iv (0 : Int32), rv w_EXACTLY_ONE, .unset, .unset] [(.int (1 : Int32))])) (fun t k => XS.iconst X30.here hx rfl (hb hby at_66) k) ?_
        refine own_pre (T' := T30) (f' := (mkF m 71 #[iv p1, iv p2, iv (2 : Int32), iv (1 : Int32), iv (0 : Int32), rv w_EXACTLY_ONE, .unset, .unset] [(.int (1 : Int32))])) (fun t k => XS.goto X30.here hx rfl (pc0 := 67) (pc' := 71) rfl (hb hby at_67) (by decide) (by decide) k) ?_
        refine own_pre (T' := T30) (f' := (mkF m 73 #[iv p1, iv p2, iv (2 : Int32), iv (1 : Int32), iv (0 : Int32), rv w_EXACTLY_ONE, .unset, .unset] [(.int (0 : Int32)), (.int (1 : Int32))])) (fun t k => XS.iload X30.here hx rfl (hb hby at_71) rfl k) ?_
        refine own_pre (T' := T30) (f' := (mkF m 80 #[iv p1, iv p2, iv (2 : Int32), iv (1 : Int32), iv (0 : Int32), rv w_EXACTLY_ONE, .unset, .unset] [(.int (1 : Int32))])) (fun t k => XS.ifYes X30.here hx rfl (pc0 := 73) (pc' := 80) rfl (hb hby at_73) rfl ((if0 _ _).trans (teq (by decide : (0 : Int32) = (0 : Int32))).1) (by decide) (by decide) k) ?_
        refine own_pre (T' := T30) (f' := (mkF m 81 #[iv p1, iv p2, iv (2 : Int32), iv (1 : Int32), iv (0 : Int32), rv w_EXACTLY_ONE, .unset, .unset] [(.int (0 : Int32)), (.int (1 : Int32))])) (fun t k => XS.iconst X30.here hx rfl (hb hby at_80) k) ?_
        refine own_pre (T' := T30) (f' := (mkF m 82 #[iv p1, iv p2, iv (2 : Int32), iv (1 : Int32), iv (0 : Int32), rv w_EXACTLY_ONE, .unset, .unset] [(.int ((1 : Int32) + (0 : Int32)))])) (fun t k => XS.iadd X30.here hx rfl (hb hby at_81) rfl k) ?_
        rw [show ((1 : Int32) + (0 : Int32)) = (1 : Int32) from by decide]
        refine own_pre (T' := T30) (f' := (mkF m 84 #[iv p1, iv p2, iv (2 : Int32), iv (1 : Int32), iv (0 : Int32), rv w_EXACTLY_ONE, iv (1 : Int32), .unset] [])) (fun t k => XS.istore X30.here hx rfl (hb hby at_82) rfl (l' := #[iv p1, iv p2, iv (2 : Int32), iv (1 : Int32), iv (0 : Int32), rv w_EXACTLY_ONE, iv (1 : Int32), .unset]) rfl k) ?_
        refine own_pre (T' := T30) (f' := (mkF m 85 #[iv p1, iv p2, iv (2 : Int32), iv (1 : Int32), iv (0 : Int32), rv w_EXACTLY_ONE, iv (1 : Int32), .unset] [(.int (2 : Int32))])) (fun t k => XS.iloadN X30.here hx rfl (hb hby at_84) rfl k) ?_
        refine own_pre (T' := T30) (f' := (mkF m 104 #[iv p1, iv p2, iv (2 : Int32), iv (1 : Int32), iv (0 : Int32), rv w_EXACTLY_ONE, iv (1 : Int32), .unset] [])) (fun t k => XS.ifYes X30.here hx rfl (pc0 := 85) (pc' := 104) rfl (hb hby at_85) rfl ((if0 _ _).trans (feq (by decide : ¬ ((2 : Int32) = (0 : Int32)))).2) (by decide) (by decide) k) ?_
        refine own_pre (T' := T30) (f' := (mkF m 105 #[iv p1, iv p2, iv (2 : Int32), iv (1 : Int32), iv (0 : Int32), rv w_EXACTLY_ONE, iv (1 : Int32), .unset] [(.int (2 : Int32))])) (fun t k => XS.iloadN X30.here hx rfl (hb hby at_104) rfl k) ?_
        refine own_pre (T' := T30) (f' := (mkF m 106 #[iv p1, iv p2, iv (2 : Int32), iv (1 : Int32), iv (0 : Int32), rv w_EXACTLY_ONE, iv (1 : Int32), .unset] [(.int (1 : Int32)), (.int (2 : Int32))])) (fun t k => XS.iconst X30.here hx rfl (hb hby at_105) k) ?_
        refine own_pre (T' := T30) (f' := (mkF m 129 #[iv p1, iv p2, iv (2 : Int32), iv (1 : Int32), iv (0 : Int32), rv w_EXACTLY_ONE, iv (1 : Int32), .unset] [])) (fun t k => XS.icmpYes X30.here hx rfl (pc0 := 106) (pc' := 129) rfl (hb hby at_106) rfl (feq (by decide : ¬ ((2 : Int32) = (1 : Int32)))).2 (by decide) (by decide) k) ?_
        refine own_pre (T' := T30) (f' := (mkF m 131 #[iv p1, iv p2, iv (2 : Int32), iv (1 : Int32), iv (0 : Int32), rv w_EXACTLY_ONE, iv (1 : Int32), .unset] [(.int (1 : Int32))])) (fun t k => XS.iload X30.here hx rfl (hb hby at_129) rfl k) ?_
        refine own_pre (T' := T30) (f' := (mkF m 132 #[iv p1, iv p2, iv (2 : Int32), iv (1 : Int32), iv (0 : Int32), rv w_EXACTLY_ONE, iv (1 : Int32), .unset] [(.int (1 : Int32)), (.int (1 : Int32))])) (fun t k => XS.iconst X30.here hx rfl (hb hby at_131) k) ?_
        refine own_pre (T' := T30) (f' := (mkF m 135 #[iv p1, iv p2, iv (2 : Int32), iv (1 : Int32), iv (0 : Int32), rv w_EXACTLY_ONE, iv (1 : Int32), .unset] [])) (fun t k => XS.icmpNo X30.here hx rfl (hb hby at_132) rfl (teq (by decide : (1 : Int32) = (1 : Int32))).2 k) ?_
        refine own_pre (T' := T30) (f' := (mkF m 136 #[iv p1, iv p2, iv (2 : Int32), iv (1 : Int32), iv (0 : Int32), rv w_EXACTLY_ONE, iv (1 : Int32), .unset] [(.int (1 : Int32))])) (fun t k => XS.iconst X30.here hx rfl (hb hby at_135) k) ?_
        refine own_pre (T' := T30) (f' := (mkF m 140 #[iv p1, iv p2, iv (2 : Int32), iv (1 : Int32), iv (0 : Int32), rv w_EXACTLY_ONE, iv (1 : Int32), .unset] [(.int (1 : Int32))])) (fun t k => XS.goto X30.here hx rfl (pc0 := 136) (pc' := 140) rfl (hb hby at_136) (by decide) (by decide) k) ?_
        refine own_pre (T' := T30) (f' := (mkF m 142 #[iv p1, iv p2, iv (2 : Int32), iv (1 : Int32), iv (0 : Int32), rv w_EXACTLY_ONE, iv (1 : Int32), iv (1 : Int32)] [])) (fun t k => XS.istore X30.here hx rfl (hb hby at_140) rfl (l' := #[iv p1, iv p2, iv (2 : Int32), iv (1 : Int32), iv (0 : Int32), rv w_EXACTLY_ONE, iv (1 : Int32), iv (1 : Int32)]) rfl k) ?_
        refine own_pre (T' := T30) (f' := (mkF m 144 #[iv p1, iv p2, iv (2 : Int32), iv (1 : Int32), iv (0 : Int32), rv w_EXACTLY_ONE, iv (1 : Int32), iv (1 : Int32)] [(.ref w_EXACTLY_ONE)])) (fun t k => XS.aload X30.here hx rfl (hb hby at_142) rfl rfl k) ?_
        refine own_pre (T' := T30) (f' := (mkF m 145 #[iv p1, iv p2, iv (2 : Int32), iv (1 : Int32), iv (0 : Int32), rv w_EXACTLY_ONE, iv (1 : Int32), iv (1 : Int32)] [(.int (1 : Int32)), (.ref w_EXACTLY_ONE)])) (fun t k => XS.iloadN X30.here hx rfl (hb hby at_144) rfl k) ?_
        refine own_pre (T' := T30) (f' := (mkF m 147 #[iv p1, iv p2, iv (2 : Int32), iv (1 : Int32), iv (0 : Int32), rv w_EXACTLY_ONE, iv (1 : Int32), iv (1 : Int32)] [(.int (0 : Int32)), (.int (1 : Int32)), (.ref w_EXACTLY_ONE)])) (fun t k => XS.iload X30.here hx rfl (hb hby at_145) rfl k) ?_
        obtain ⟨T31, X31, e31, st31⟩ := own_pure (f := 0) (n := 0) (v := (some (.int (1 : Int32)))) (own_callV X30 hx hZ e30 (y := (⟨"com/example/witness/witness/pattern/Dfa$Combination", "accepts", "(ZZ)Z"⟩ : MethodName)) hown (hw _ (List.mem_of_getElem? (i := 4) rfl)) (hw _ (List.mem_of_getElem? (i := 5) rfl)) (hw _ (List.mem_of_getElem? (i := 7) rfl)) (hw _ (List.mem_of_getElem? (i := 6) rfl)) (hw _ (List.mem_of_getElem? (i := 8) rfl)) (hw _ (List.mem_of_getElem? (i := 2) rfl)) (by decide) 0 [(.int (1 : Int32)), (.int (0 : Int32))] [] (own_b1_EXACTLY_ONE_10 l Z a0 hw [] w_BOTH w_EXACTLY_ONE w_FIRST_ONLY h0 F0) (by decide) (by decide) (by decide) (by decide) E_EXACTLY_ONE (g := (mkF m 147 #[iv p1, iv p2, iv (2 : Int32), iv (1 : Int32), iv (0 : Int32), rv w_EXACTLY_ONE, iv (1 : Int32), iv (1 : Int32)] [(.int (0 : Int32)), (.int (1 : Int32)), (.ref w_EXACTLY_ONE)])) rfl (by rw [hml]; rfl) (lenOf pd_0 rfl) rfl (by show 2 * 0 + _ ≤ _; exact Nat.le_of_eq rfl) (hb hby at_147))
        refine own_pre (T' := T31) (f' := (mkF m 150 #[iv p1, iv p2, iv (2 : Int32), iv (1 : Int32), iv (0 : Int32), rv w_EXACTLY_ONE, iv (1 : Int32), iv (1 : Int32)] [(.int (1 : Int32))])) (fun t k => st31 t k) ?_
        refine own_pre (T' := T31) (f' := (mkF m 152 #[iv p1, iv p2, iv (2 : Int32), iv (1 : Int32), iv (0 : Int32), rv w_EXACTLY_ONE, iv (1 : Int32), iv (1 : Int32)] [(.int (1 : Int32)), (.int (1 : Int32))])) (fun t k => XS.iload X31.here hx rfl (hb hby at_150) rfl k) ?_
        refine own_pre (T' := T31) (f' := (mkF m 155 #[iv p1, iv p2, iv (2 : Int32), iv (1 : Int32), iv (0 : Int32), rv w_EXACTLY_ONE, iv (1 : Int32), iv (1 : Int32)] [])) (fun t k => XS.icmpNo X31.here hx rfl (hb hby at_152) rfl (teq (by decide : (1 : Int32) = (1 : Int32))).2 k) ?_
        refine own_pre (T' := T31) (f' := (mkF m 156 #[iv p1, iv p2, iv (2 : Int32), iv (1 : Int32), iv (0 : Int32), rv w_EXACTLY_ONE, iv (1 : Int32), iv (1 : Int32)] [(.int (1 : Int32))])) (fun t k => XS.iconst X31.here hx rfl (hb hby at_155) k) ?_
        refine own_pre (T' := T31) (f' := (mkF m 160 #[iv p1, iv p2, iv (2 : Int32), iv (1 : Int32), iv (0 : Int32), rv w_EXACTLY_ONE, iv (1 : Int32), iv (1 : Int32)] [(.int (1 : Int32))])) (fun t k => XS.goto X31.here hx rfl (pc0 := 156) (pc' := 160) rfl (hb hby at_156) (by decide) (by decide) k) ?_
        exact own_retZ X31 hx hlk hret (hb hby at_160) rfl (⟨rfl, Fr.nil _⟩) (by decide) (by decide)
      · refine own_pre (T' := s₁) (f' := (mkF m 25 #[iv p1, iv p2, iv (2 : Int32), iv (1 : Int32), .unset, .unset, .unset, .unset] [])) (fun t k => XS.ifNo X0.here hx rfl (hb hby at_22) rfl ((if0 _ _).trans (feq hc29).1) k) ?_
        refine own_pre (T' := s₁) (f' := (mkF m 26 #[iv p1, iv p2, iv (2 : Int32), iv (1 : Int32), .unset, .unset, .unset, .unset] [(.int (1 : Int32))])) (fun t k => XS.iconst X0.here hx rfl (hb hby at_25) k) ?_
        refine own_pre (T' := s₁) (f' := (mkF m 30 #[iv p1, iv p2, iv (2 : Int32), iv (1 : Int32), .unset, .unset, .unset, .unset] [(.int (1 : Int32))])) (fun t k => XS.goto X0.here hx rfl (pc0 := 26) (pc' := 30) rfl (hb hby at_26) (by decide) (by decide) k) ?_
        refine own_pre (T' := s₁) (f' := (mkF m 32 #[iv p1, iv p2, iv (2 : Int32), iv (1 : Int32), iv (1 : Int32), .unset, .unset, .unset] [])) (fun t k => XS.istore X0.here hx rfl (hb hby at_30) rfl (l' := #[iv p1, iv p2, iv (2 : Int32), iv (1 : Int32), iv (1 : Int32), .unset, .unset, .unset]) rfl k) ?_
        refine own_pre (T' := s₁) (f' := (mkF m 33 #[iv p1, iv p2, iv (2 : Int32), iv (1 : Int32), iv (1 : Int32), .unset, .unset, .unset] [(.int (2 : Int32))])) (fun t k => XS.iloadN X0.here hx rfl (hb hby at_32) rfl k) ?_
        refine own_pre (T' := s₁) (f' := (mkF m 44 #[iv p1, iv p2, iv (2 : Int32), iv (1 : Int32), iv (1 : Int32), .unset, .unset, .unset] [])) (fun t k => XS.ifYes X0.here hx rfl (pc0 := 33) (pc' := 44) rfl (hb hby at_33) rfl ((if0 _ _).trans (feq (by decide : ¬ ((2 : Int32) = (0 : Int32)))).2) (by decide) (by decide) k) ?_
        refine own_pre (T' := s₁) (f' := (mkF m 45 #[iv p1, iv p2, iv (2 : Int32), iv (1 : Int32), iv (1 : Int32), .unset, .unset, .unset] [(.int (2 : Int32))])) (fun t k => XS.iloadN X0.here hx rfl (hb hby at_44) rfl k) ?_
        refine own_pre (T' := s₁) (f' := (mkF m 46 #[iv p1, iv p2, iv (2 : Int32), iv (1 : Int32), iv (1 : Int32), .unset, .unset, .unset] [(.int (1 : Int32)), (.int (2 : Int32))])) (fun t k => XS.iconst X0.here hx rfl (hb hby at_45) k) ?_
        refine own_pre (T' := s₁) (f' := (mkF m 57 #[iv p1, iv p2, iv (2 : Int32), iv (1 : Int32), iv (1 : Int32), .unset, .unset, .unset] [])) (fun t k => XS.icmpYes X0.here hx rfl (pc0 := 46) (pc' := 57) rfl (hb hby at_46) rfl (feq (by decide : ¬ ((2 : Int32) = (1 : Int32)))).2 (by decide) (by decide) k) ?_
        obtain ⟨T32, X32, e32, st32⟩ := getS2 X0 hx hZ hown (host := "") (Or.inl (hw _ (List.mem_of_getElem? (i := 10) rfl))) Via.refl e0 S_EXACTLY_ONE (g := (mkF m 57 #[iv p1, iv p2, iv (2 : Int32), iv (1 : Int32), iv (1 : Int32), .unset, .unset, .unset] [])) rfl (hb hby at_57)
        refine own_pre (T' := T32) (f' := (mkF m 60 #[iv p1, iv p2, iv (2 : Int32), iv (1 : Int32), iv (1 : Int32), .unset, .unset, .unset] [(.ref w_EXACTLY_ONE)])) (fun t k => st32 t k) ?_
        refine own_pre (T' := T32) (f' := (mkF m 62 #[iv p1, iv p2, iv (2 : Int32), iv (1 : Int32), iv (1 : Int32), rv w_EXACTLY_ONE, .unset, .unset] [])) (fun t k => XS.astore X32.here hx rfl (hb hby at_60) rfl rfl (l' := #[iv p1, iv p2, iv (2 : Int32), iv (1 : Int32), iv (1 : Int32), rv w_EXACTLY_ONE, .unset, .unset]) rfl k) ?_
        refine own_pre (T' := T32) (f' := (mkF m 63 #[iv p1, iv p2, iv (2 : Int32), iv (1 : Int32), iv (1 : Int32), rv w_EXACTLY_ONE, .unset, .unset] [(.int (1 : Int32))])) (fun t k => XS.iloadN X32.here hx rfl (hb hby at_62) rfl k) ?_
        refine own_pre (T' := T32) (f' := (mkF m 66 #[iv p1, iv p2, iv (2 : Int32), iv (1 : Int32), iv (1 : Int32), rv w_EXACTLY_ONE, .unset, .unset] [])) (fun t k => XS.ifNo X32.here hx rfl (hb hby at_63) rfl ((if0 _ _).trans (feq (by decide : ¬ ((1 : Int32) = (0 : Int32)))).1) k) ?_
        refine own_pre (T' := T32) (f' := (mkF m 67 #[iv p1, iv p2, iv (2 : Int32), iv (1 : Int32), iv (1 : Int32), rv w_EXACTLY_ONE, .unset, .unset] [(.int (1 : Int32))])) (fun t k => XS.iconst X32.here hx rfl (hb hby at_66) k) ?_
        refine own_pre (T' := T32) (f' := (mkF m 71 #[iv p1, iv p2, iv (2 : Int32), iv (1 : Int32), iv (1 : Int32), rv w_EXACTLY_ONE, .unset, .unset] [(.int (1 : Int32))])) (fun t k => XS.goto X32.here hx rfl (pc0 := 67) (pc' := 71) rfl (hb hby at_67) (by decide) (by decide) k) ?_
        refine own_pre (T' := T32) (f' := (mkF m 73 #[iv p1, iv p2, iv (2 : Int32), iv (1 : Int32), iv (1 : Int32), rv w_EXACTLY_ONE, .unset, .unset] [(.int (1 : Int32)), (.int (1 : Int32))])) (fun t k => XS.iload X32.here hx rfl (hb hby at_71) rfl k) ?_
        refine own_pre (T' := T32) (f' := (mkF m 76 #[iv p1, iv p2, iv (2 : Int32), iv (1 : Int32), iv (1 : Int32), rv w_EXACTLY_ONE, .unset, .unset] [(.int (1 : Int32))])) (fun t k => XS.ifNo X32.here hx rfl (hb hby at_73) rfl ((if0 _ _).trans (feq (by decide : ¬ ((1 : Int32) = (0 : Int32)))).1) k) ?_
        refine own_pre (T' := T32) (f' := (mkF m 77 #[iv p1, iv p2, iv (2 : Int32), iv (1 : Int32), iv (1 : Int32), rv w_EXACTLY_ONE, .unset, .unset] [(.int (1 : Int32)), (.int (1 : Int32))])) (fun t k => XS.iconst X32.here hx rfl (hb hby at_76) k) ?_
        refine own_pre (T' := T32) (f' := (mkF m 81 #[iv p1, iv p2, iv (2 : Int32), iv (1 : Int32), iv (1 : Int32), rv w_EXACTLY_ONE, .unset, .unset] [(.int (1 : Int32)), (.int (1 : Int32))])) (fun t k => XS.goto X32.here hx rfl (pc0 := 77) (pc' := 81) rfl (hb hby at_77) (by decide) (by decide) k) ?_
        refine own_pre (T' := T32) (f' := (mkF m 82 #[iv p1, iv p2, iv (2 : Int32), iv (1 : Int32), iv (1 : Int32), rv w_EXACTLY_ONE, .unset, .unset] [(.int ((1 : Int32) + (1 : Int32)))])) (fun t k => XS.iadd X32.here hx rfl (hb hby at_81) rfl k) ?_
        rw [show ((1 : Int32) + (1 : Int32)) = (2 : Int32) from by decide]
        refine own_pre (T' := T32) (f' := (mkF m 84 #[iv p1, iv p2, iv (2 : Int32), iv (1 : Int32), iv (1 : Int32), rv w_EXACTLY_ONE, iv (2 : Int32), .unset] [])) (fun t k => XS.istore X32.here hx rfl (hb hby at_82) rfl (l' := #[iv p1, iv p2, iv (2 : Int32), iv (1 : Int32), iv (1 : Int32), rv w_EXACTLY_ONE, iv (2 : Int32), .unset]) rfl k) ?_
        refine own_pre (T' := T32) (f' := (mkF m 85 #[iv p1, iv p2, iv (2 : Int32), iv (1 : Int32), iv (1 : Int32), rv w_EXACTLY_ONE, iv (2 : Int32), .unset] [(.int (2 : Int32))])) (fun t k => XS.iloadN X32.here hx rfl (hb hby at_84) rfl k) ?_
        refine own_pre (T' := T32) (f' := (mkF m 104 #[iv p1, iv p2, iv (2 : Int32), iv (1 : Int32), iv (1 : Int32), rv w_EXACTLY_ONE, iv (2 : Int32), .unset] [])) (fun t k => XS.ifYes X32.here hx rfl (pc0 := 85) (pc' := 104) rfl (hb hby at_85) rfl ((if0 _ _).trans (feq (by decide : ¬ ((2 : Int32) = (0 : Int32)))).2) (by decide) (by decide) k) ?_
        refine own_pre (T' := T32) (f' := (mkF m 105 #[iv p1, iv p2, iv (2 : Int32), iv (1 : Int32), iv (1 : Int32), rv w_EXACTLY_ONE, iv (2 : Int32), .unset] [(.int (2 : Int32))])) (fun t k => XS.iloadN X32.here hx rfl (hb hby at_104) rfl k) ?_
        refine own_pre (T' := T32) (f' := (mkF m 106 #[iv p1, iv p2, iv (2 : Int32), iv (1 : Int32), iv (1 : Int32), rv w_EXACTLY_ONE, iv (2 : Int32), .unset] [(.int (1 : Int32)), (.int (2 : Int32))])) (fun t k => XS.iconst X32.here hx rfl (hb hby at_105) k) ?_
        refine own_pre (T' := T32) (f' := (mkF m 129 #[iv p1, iv p2, iv (2 : Int32), iv (1 : Int32), iv (1 : Int32), rv w_EXACTLY_ONE, iv (2 : Int32), .unset] [])) (fun t k => XS.icmpYes X32.here hx rfl (pc0 := 106) (pc' := 129) rfl (hb hby at_106) rfl (feq (by decide : ¬ ((2 : Int32) = (1 : Int32)))).2 (by decide) (by decide) k) ?_
        refine own_pre (T' := T32) (f' := (mkF m 131 #[iv p1, iv p2, iv (2 : Int32), iv (1 : Int32), iv (1 : Int32), rv w_EXACTLY_ONE, iv (2 : Int32), .unset] [(.int (2 : Int32))])) (fun t k => XS.iload X32.here hx rfl (hb hby at_129) rfl k) ?_
        refine own_pre (T' := T32) (f' := (mkF m 132 #[iv p1, iv p2, iv (2 : Int32), iv (1 : Int32), iv (1 : Int32), rv w_EXACTLY_ONE, iv (2 : Int32), .unset] [(.int (1 : Int32)), (.int (2 : Int32))])) (fun t k => XS.iconst X32.here hx rfl (hb hby at_131) k) ?_
        refine own_pre (T' := T32) (f' := (mkF m 139 #[iv p1, iv p2, iv (2 : Int32), iv (1 : Int32), iv (1 : Int32), rv w_EXACTLY_ONE, iv (2 : Int32), .unset] [])) (fun t k => XS.icmpYes X32.here hx rfl (pc0 := 132) (pc' := 139) rfl (hb hby at_132) rfl (feq (by decide : ¬ ((2 : Int32) = (1 : Int32)))).2 (by decide) (by decide) k) ?_
        refine own_pre (T' := T32) (f' := (mkF m 140 #[iv p1, iv p2, iv (2 : Int32), iv (1 : Int32), iv (1 : Int32), rv w_EXACTLY_ONE, iv (2 : Int32), .unset] [(.int (0 : Int32))])) (fun t k => XS.iconst X32.here hx rfl (hb hby at_139) k) ?_
        refine own_pre (T' := T32) (f' := (mkF m 142 #[iv p1, iv p2, iv (2 : Int32), iv (1 : Int32), iv (1 : Int32), rv w_EXACTLY_ONE, iv (2 : Int32), iv (0 : Int32)] [])) (fun t k => XS.istore X32.here hx rfl (hb hby at_140) rfl (l' := #[iv p1, iv p2, iv (2 : Int32), iv (1 : Int32), iv (1 : Int32), rv w_EXACTLY_ONE, iv (2 : Int32), iv (0 : Int32)]) rfl k) ?_
        refine own_pre (T' := T32) (f' := (mkF m 144 #[iv p1, iv p2, iv (2 : Int32), iv (1 : Int32), iv (1 : Int32), rv w_EXACTLY_ONE, iv (2 : Int32), iv (0 : Int32)] [(.ref w_EXACTLY_ONE)])) (fun t k => XS.aload X32.here hx rfl (hb hby at_142) rfl rfl k) ?_
        refine own_pre (T' := T32) (f' := (mkF m 145 #[iv p1, iv p2, iv (2 : Int32), iv (1 : Int32), iv (1 : Int32), rv w_EXACTLY_ONE, iv (2 : Int32), iv (0 : Int32)] [(.int (1 : Int32)), (.ref w_EXACTLY_ONE)])) (fun t k => XS.iloadN X32.here hx rfl (hb hby at_144) rfl k) ?_
        refine own_pre (T' := T32) (f' := (mkF m 147 #[iv p1, iv p2, iv (2 : Int32), iv (1 : Int32), iv (1 : Int32), rv w_EXACTLY_ONE, iv (2 : Int32), iv (0 : Int32)] [(.int (1 : Int32)), (.int (1 : Int32)), (.ref w_EXACTLY_ONE)])) (fun t k => XS.iload X32.here hx rfl (hb hby at_145) rfl k) ?_
        obtain ⟨T33, X33, e33, st33⟩ := own_pure (f := 0) (n := 0) (v := (some (.int (0 : Int32)))) (own_callV X32 hx hZ e32 (y := (⟨"com/example/witness/witness/pattern/Dfa$Combination", "accepts", "(ZZ)Z"⟩ : MethodName)) hown (hw _ (List.mem_of_getElem? (i := 4) rfl)) (hw _ (List.mem_of_getElem? (i := 5) rfl)) (hw _ (List.mem_of_getElem? (i := 7) rfl)) (hw _ (List.mem_of_getElem? (i := 6) rfl)) (hw _ (List.mem_of_getElem? (i := 8) rfl)) (hw _ (List.mem_of_getElem? (i := 2) rfl)) (by decide) 0 [(.int (1 : Int32)), (.int (1 : Int32))] [] (own_b1_EXACTLY_ONE_11 l Z a0 hw [] w_BOTH w_EXACTLY_ONE w_FIRST_ONLY h0 F0) (by decide) (by decide) (by decide) (by decide) E_EXACTLY_ONE (g := (mkF m 147 #[iv p1, iv p2, iv (2 : Int32), iv (1 : Int32), iv (1 : Int32), rv w_EXACTLY_ONE, iv (2 : Int32), iv (0 : Int32)] [(.int (1 : Int32)), (.int (1 : Int32)), (.ref w_EXACTLY_ONE)])) rfl (by rw [hml]; rfl) (lenOf pd_0 rfl) rfl (by show 2 * 0 + _ ≤ _; exact Nat.le_of_eq rfl) (hb hby at_147))
        refine own_pre (T' := T33) (f' := (mkF m 150 #[iv p1, iv p2, iv (2 : Int32), iv (1 : Int32), iv (1 : Int32), rv w_EXACTLY_ONE, iv (2 : Int32), iv (0 : Int32)] [(.int (0 : Int32))])) (fun t k => st33 t k) ?_
        refine own_pre (T' := T33) (f' := (mkF m 152 #[iv p1, iv p2, iv (2 : Int32), iv (1 : Int32), iv (1 : Int32), rv w_EXACTLY_ONE, iv (2 : Int32), iv (0 : Int32)] [(.int (0 : Int32)), (.int (0 : Int32))])) (fun t k => XS.iload X33.here hx rfl (hb hby at_150) rfl k) ?_
        refine own_pre (T' := T33) (f' := (mkF m 155 #[iv p1, iv p2, iv (2 : Int32), iv (1 : Int32), iv (1 : Int32), rv w_EXACTLY_ONE, iv (2 : Int32), iv (0 : Int32)] [])) (fun t k => XS.icmpNo X33.here hx rfl (hb hby at_152) rfl (teq (by decide : (0 : Int32) = (0 : Int32))).2 k) ?_
        refine own_pre (T' := T33) (f' := (mkF m 156 #[iv p1, iv p2, iv (2 : Int32), iv (1 : Int32), iv (1 : Int32), rv w_EXACTLY_ONE, iv (2 : Int32), iv (0 : Int32)] [(.int (1 : Int32))])) (fun t k => XS.iconst X33.here hx rfl (hb hby at_155) k) ?_
        refine own_pre (T' := T33) (f' := (mkF m 160 #[iv p1, iv p2, iv (2 : Int32), iv (1 : Int32), iv (1 : Int32), rv w_EXACTLY_ONE, iv (2 : Int32), iv (0 : Int32)] [(.int (1 : Int32))])) (fun t k => XS.goto X33.here hx rfl (pc0 := 156) (pc' := 160) rfl (hb hby at_156) (by decide) (by decide) k) ?_
        exact own_retZ X33 hx hlk hret (hb hby at_160) rfl (⟨rfl, Fr.nil _⟩) (by decide) (by decide)
set_option maxRecDepth 65536 in
set_option maxHeartbeats 40000000 in
theorem comes_1 {Post : Tables → Env → Array Value → State → Outcome → State → Prop} (hpost : ∀ tb e args s v u, (limb_1_1.after args s (.returned v) u = true ∧ limb_1_2.after args s (.returned v) u = true ∧ True) → FrameEnd s (.returned v) u (Jvm.fieldLocs frame_1_writes args s ++ Jvm.arrayLocs frame_1_arrays args s ++ Jvm.staticLocs frame_1_statics s) 0 0 → Post tb e args s (.returned v) u) :
    ArmFor flags0 classFile x code maxLocals ret World_1 tables_1 room_1 Calls_1 rest_1 Pre_1 Post := by
  intro l hfl _ _ p e ha hc hk s m args below hf hA hF happ hP
  obtain ⟨hcalls, hrest, hpre⟩ := hP
  obtain ⟨-, -, -, hnamed, -, -, -, hat⟩ := (Spec.applies_iff hf).mp happ
  obtain ⟨hg, hn⟩ := and_e (Cond.before_iff.mp (show (Jvm.Cond.and given_1 narrow_1).before args s = true from hpre))
  obtain ⟨gv0, gr0⟩ := and_e hg
  obtain ⟨gv1, gr1⟩ := and_e gr0
  obtain ⟨w0, w1, rfl⟩ : ∃ w0 w1 : Value, args = #[w0, w1] := by
    have hs : args.size = 2 := by simpa [Cond.value, given_1] using gv0
    obtain ⟨L⟩ := args
    match L, hs with
    | [w0, w1], _ => exact ⟨w0, w1, rfl⟩
  have hw := fun d (hd : d ∈ tables_1) => atoms_spec (ws := Jvm.Cond.code x code maxLocals ret :: tables_1) hat d (List.mem_cons_of_mem _ hd)
  have hfit : Fit s := fun {y c} hc i hi => by
    obtain ⟨ha, rfl⟩ := Array.getElem?_eq_some_iff.mp hc
    have q := List.all_eq_true.mp ((Array.all_eq_true_iff_forall_mem.mp hF) _ (Array.getElem_mem ha)) i (List.mem_range.mpr hi)
    simpa [Array.getElem?_eq_getElem hi] using q
  obtain ⟨i0, ei0⟩ := is_v gv1
  obtain rfl : w0 = (.int i0) := Option.some.inj ei0
  obtain ⟨i1, ei1⟩ := is_v gr1
  obtain rfl : w1 = (.int i1) := Option.some.inj ei1
  obtain ⟨nw0, nr0⟩ := and_e hn
  obtain ⟨nw1, nr1⟩ := and_e nr0
  obtain ⟨nw2, nr2⟩ := and_e nr1
  obtain ⟨nw3, nr3⟩ := and_e nr2
  obtain ⟨nw4, nr4⟩ := and_e nr3
  obtain ⟨w_BOTH, ev_BOTH⟩ := exa_v nw0
  obtain ⟨w_EXACTLY_ONE, ev_EXACTLY_ONE⟩ := exa_v nw1
  obtain ⟨w_FIRST_ONLY, ev_FIRST_ONLY⟩ := exa_v nw4
  have F : own_F s s.heap w_BOTH w_EXACTLY_ONE w_FIRST_ONLY := ⟨Sta.start ev_BOTH (Or.inr ⟨(hw _ (List.mem_of_getElem? (i := 2) rfl)), (hw _ (List.mem_of_getElem? (i := 3) rfl))⟩), Exa.start ev_BOTH nw0, Sta.start ev_EXACTLY_ONE (Or.inr ⟨(hw _ (List.mem_of_getElem? (i := 2) rfl)), (hw _ (List.mem_of_getElem? (i := 11) rfl))⟩), Exa.start ev_EXACTLY_ONE nw1, Sta.start ev_FIRST_ONLY (Or.inr ⟨(hw _ (List.mem_of_getElem? (i := 2) rfl)), (hw _ (List.mem_of_getElem? (i := 13) rfl))⟩), Exa.start ev_FIRST_ONLY nw4, Fld.start ((fld_at ev_EXACTLY_ONE).symm.trans (own_eqI nw2)), Fld.start ((fld_at ev_BOTH).symm.trans (own_eqI nw3)), Fld.start ((fld_at ev_FIRST_ONLY).symm.trans (own_eqI nr4))⟩
  obtain ⟨n, o, h1, h2, h3, _, L, rfl, ⟨rfl, N⟩, hq⟩ := own_law l s _ hw tables_1 w_BOTH w_EXACTLY_ONE w_FIRST_ONLY s.heap F i0 i1  p e ha hc hk s m _ below hf ((Spec.applies_iff_loose hf).mp happ).1 ⟨rfl, State.Warmed39.refl s, rfl⟩ trivial
  refine ⟨n, _, h1, h2, h3, hpost _ _ _ _ _ _ ⟨Cond.after_iff.mpr rfl, Cond.after_iff.mpr (eq_i res_at (Term.int_eval (1)) rfl), trivial⟩ ⟨hq.1, hq.2.1, (hq.2.2.sift fun y hy => Or.inr (N y hy)).mono (by decide) (by decide)⟩⟩
theorem main_1_1 : Claimed_1_1 := comes_1 fun _ _ _ _ _ _ h hF => ⟨h.1, hF⟩
theorem main_1_2 : Claimed_1_2 := comes_1 fun _ _ _ _ _ _ h hF => ⟨h.2.1, hF⟩
end Jvm.Pilot.@@N@@
namespace Jvm.Pilot.@@N@@
open Jvm Jvm.ClassFile Sem Op Lib Jvm.Free Jvm.Stand Jvm.Pilot.@@N@@.Jvm.D
/-! MADE BY PROGRAM (witnessworld.py) out of the Statement's table words and the real class files: 10 classes; the members and pool entries that the words name. The judged class is class 1, her method 1. -/
namespace start1
open Jvm.ClassFile
def u (s : String) : CpInfo := .utf8 (stringToUtf16 s)
/-- a pool by its gaps: so many unusable entries, then the entry; so many at the end -/
def gap : Nat → List CpInfo → List CpInfo
  | 0, r => r
  | n + 1, r => .unusable :: gap n r
def poolList (es : List (Nat × CpInfo)) (last : Nat) : List CpInfo := es.foldr (fun e r => gap e.1 (e.2 :: r)) (gap last [])
def pool (es : List (Nat × CpInfo)) (last : Nat) : Array CpInfo := ⟨poolList es last⟩
def fileOf (pool : Array CpInfo) (this : Nat) (attrs : Array Attribute := #[]) (ms : Array MethodInfo := #[]) (fl : Nat := 33) (sup : Nat := 0) (ifs : Array Nat := #[]) (fds : Array FieldInfo := #[]) : ClassFile where
  minorVersion := 0
  majorVersion := 65
  constantPool := pool
  accessFlags := fl
  thisClass := this
  superClass := sup
  interfaces := ifs
  fields := fds
  methods := ms
  attributes := attrs
def plain (name : String) (sup : Option ClassId) : Class where
  name := name
  kind := .ordinary
  loader := none
  accessFlags := 33
  super := sup
  interfaces := #[]
  cf := none
  fields := #[]
  methods := #[]
  instanceTypes := #[]
  staticTypes := #[]
  resolved := #[]
  callSites := []
  init := .initialized
  statics := none
  mirror := none

def pool0 : Array CpInfo := pool [(5, u "<init>"), (0, u "()V"), (1, .class_ 10), (1, u "java/lang/Object")] 113

def k0m0 : Method := { name := "<init>", desc := "()V", sig := { parameters := [], returnType := none }, accessFlags := 1, code := none }
/-- java/lang/Object -/
def k0 : Class := { plain "java/lang/Object" none with
  accessFlags := 33
  interfaces := #[]
  cf := some (fileOf pool0 8 #[] #[{ accessFlags := 1, nameIndex := 5, descriptorIndex := 6, attributes := #[] }] 33 0 #[] #[])
  fields := #[]
  methods := #[k0m0]
  instanceTypes := #[]
  staticTypes := #[]
  resolved := Array.replicate 124 none
  statics := none }

def pool1 : Array CpInfo := pool [(2, .class_ 4), (1, u "java/lang/Object"), (0, u "<init>"), (0, u "()V"), (0, .integer 2147483647), (0, .fieldref 9 10), (0, .class_ 11), (0, .nameAndType 12 13), (0, u "com/example/witness/witness/pattern/Dfa$Combination"), (0, u "BOTH"), (0, u "Lcom/example/witness/witness/pattern/Dfa$Combination;"), (0, .fieldref 9 15), (0, .nameAndType 16 13), (0, u "FIRST_ONLY"), (0, .fieldref 9 18), (0, .nameAndType 19 13), (0, u "EXACTLY_ONE"), (0, .methodref 9 21), (0, .nameAndType 22 23), (0, u "accepts"), (0, u "(ZZ)Z"), (0, .class_ 25), (0, u "com/example/witness/witness/pattern/CombinationAcceptsPinLaw"), (2, u "law"), (0, u "(II)Z")] 7

def k1m0 : Method := { name := "<init>", desc := "()V", sig := { parameters := [], returnType := none }, accessFlags := 1, code := none }
def k1c1 : Code := { maxStack := 3, maxLocals := 8, code := code, exceptionTable := #[], attributes := #[] }
def k1m1 : Method := { name := "law", desc := "(II)Z", sig := { parameters := [.int, .int], returnType := some .boolean }, accessFlags := 9, code := some k1c1 }
/-- com/example/witness/witness/pattern/CombinationAcceptsPinLaw -/
def k1 : Class := { plain "com/example/witness/witness/pattern/CombinationAcceptsPinLaw" (some 0) with
  accessFlags := 49
  interfaces := #[]
  cf := some (fileOf pool1 24 #[] #[{ accessFlags := 1, nameIndex := 5, descriptorIndex := 6, attributes := #[] }, { accessFlags := 9, nameIndex := 28, descriptorIndex := 29, attributes := #[] }] 49 2 #[] #[])
  fields := #[]
  methods := #[k1m0, k1m1]
  instanceTypes := #[]
  staticTypes := #[]
  resolved := Array.replicate 37 none
  statics := none }

def pool2 : Array CpInfo := pool [(1, .class_ 2), (0, u "java/lang/constant/Constable"), (0, .class_ 4), (0, u "java/lang/Object")] 6

/-- java/lang/constant/Constable -/
def k2 : Class := { plain "java/lang/constant/Constable" (some 0) with
  accessFlags := 1537
  interfaces := #[]
  cf := some (fileOf pool2 1 #[] #[] 1537 3 #[] #[])
  fields := #[]
  methods := #[]
  instanceTypes := #[]
  staticTypes := #[]
  resolved := Array.replicate 11 none
  statics := none }

def pool3 : Array CpInfo := pool [(1, .class_ 2), (0, u "java/lang/Comparable"), (0, .class_ 4), (0, u "java/lang/Object")] 7

/-- java/lang/Comparable -/
def k3 : Class := { plain "java/lang/Comparable" (some 0) with
  accessFlags := 1537
  interfaces := #[]
  cf := some (fileOf pool3 1 #[] #[] 1537 3 #[] #[])
  fields := #[]
  methods := #[]
  instanceTypes := #[]
  staticTypes := #[]
  resolved := Array.replicate 12 none
  statics := none }

def pool4 : Array CpInfo := pool [(1, .class_ 2), (0, u "java/io/Serializable"), (0, .class_ 4), (0, u "java/lang/Object")] 2

/-- java/io/Serializable -/
def k4 : Class := { plain "java/io/Serializable" (some 0) with
  accessFlags := 1537
  interfaces := #[]
  cf := some (fileOf pool4 1 #[] #[] 1537 3 #[] #[])
  fields := #[]
  methods := #[]
  instanceTypes := #[]
  staticTypes := #[]
  resolved := Array.replicate 7 none
  statics := none }

def pool5 : Array CpInfo := pool [(2, .class_ 4), (1, u "java/lang/Enum"), (0, u "name"), (0, u "Ljava/lang/String;"), (2, u "ordinal"), (0, u "I"), (1, .class_ 14), (1, u "java/lang/Object"), (4, u "hash"), (86, .class_ 108), (1, u "java/lang/Enum$EnumDesc"), (2, .class_ 112), (0, u "java/lang/constant/Constable"), (0, .class_ 114), (0, u "java/lang/Comparable"), (0, .class_ 116), (0, u "java/io/Serializable")] 87

/-- java/lang/Enum -/
def k5 : Class := { plain "java/lang/Enum" (some 0) with
  accessFlags := 1057
  interfaces := #[2, 3, 4]
  cf := some (fileOf pool5 2 #[.nestMembers #[106]] #[] 1057 12 #[111, 113, 115] #[{ accessFlags := 18, nameIndex := 5, descriptorIndex := 6, attributes := #[] }, { accessFlags := 18, nameIndex := 9, descriptorIndex := 10, attributes := #[] }, { accessFlags := 2, nameIndex := 19, descriptorIndex := 10, attributes := #[] }])
  fields := #[{ name := "name", type := (.object "java/lang/String"), accessFlags := 18, slot := 0, constantValue := 0 }, { name := "ordinal", type := .int, accessFlags := 18, slot := 1, constantValue := 0 }, { name := "hash", type := .int, accessFlags := 2, slot := 2, constantValue := 0 }]
  methods := #[]
  instanceTypes := #[(.object "java/lang/String"), .int, .int]
  staticTypes := #[]
  resolved := Array.replicate 204 none
  statics := none }

def pool6 : Array CpInfo := pool [(1, .class_ 2), (0, u "com/example/witness/witness/pattern/Dfa$Combination"), (0, .fieldref 1 4), (0, .nameAndType 5 6), (0, u "BOTH"), (0, u "Lcom/example/witness/witness/pattern/Dfa$Combination;"), (0, .fieldref 1 8), (0, .nameAndType 9 6), (0, u "FIRST_ONLY"), (2, u "EXACTLY_ONE"), (2, u "$VALUES"), (0, u "[Lcom/example/witness/witness/pattern/Dfa$Combination;"), (6, .class_ 25), (1, u "java/lang/Enum"), (21, u "accepts"), (0, u "(ZZ)Z"), (8, .class_ 58), (0, u "com/example/witness/witness/pattern/Dfa")] 2

def k6c0 : Code := { maxStack := 2, maxLocals := 4, code := prog_16_method_4_code, exceptionTable := #[], attributes := #[] }
def k6m0 : Method := { name := "accepts", desc := "(ZZ)Z", sig := { parameters := [.boolean, .boolean], returnType := some .boolean }, accessFlags := 0, code := some k6c0 }
/-- com/example/witness/witness/pattern/Dfa$Combination -/
def k6 : Class := { plain "com/example/witness/witness/pattern/Dfa$Combination" (some 5) with
  accessFlags := 16432
  interfaces := #[]
  cf := some (fileOf pool6 1 #[.nestHost 57] #[{ accessFlags := 0, nameIndex := 47, descriptorIndex := 48, attributes := #[] }] 16432 23 #[] #[{ accessFlags := 16409, nameIndex := 5, descriptorIndex := 6, attributes := #[] }, { accessFlags := 16409, nameIndex := 9, descriptorIndex := 6, attributes := #[] }, { accessFlags := 16409, nameIndex := 12, descriptorIndex := 6, attributes := #[] }, { accessFlags := 4122, nameIndex := 15, descriptorIndex := 16, attributes := #[] }])
  fields := #[{ name := "BOTH", type := (.object "com/example/witness/witness/pattern/Dfa$Combination"), accessFlags := 16409, slot := 0, constantValue := 0 }, { name := "FIRST_ONLY", type := (.object "com/example/witness/witness/pattern/Dfa$Combination"), accessFlags := 16409, slot := 1, constantValue := 0 }, { name := "EXACTLY_ONE", type := (.object "com/example/witness/witness/pattern/Dfa$Combination"), accessFlags := 16409, slot := 2, constantValue := 0 }, { name := "$VALUES", type := (.array (.object "com/example/witness/witness/pattern/Dfa$Combination")), accessFlags := 4122, slot := 3, constantValue := 0 }]
  methods := #[k6m0]
  instanceTypes := #[(.object "java/lang/String"), .int, .int]
  staticTypes := #[(.object "com/example/witness/witness/pattern/Dfa$Combination"), (.object "com/example/witness/witness/pattern/Dfa$Combination"), (.object "com/example/witness/witness/pattern/Dfa$Combination"), (.array (.object "com/example/witness/witness/pattern/Dfa$Combination"))]
  resolved := Array.replicate 61 none
  statics := some 0 }

def pool7 : Array CpInfo := pool [(1, u "java/lang/Cloneable"), (0, .class_ 1), (0, u "java/lang/Object"), (0, .class_ 3)] 3

/-- java/lang/Cloneable -/
def k7 : Class := { plain "java/lang/Cloneable" (some 0) with
  accessFlags := 1537
  interfaces := #[]
  cf := some (fileOf pool7 2 #[] #[] 1537 4 #[] #[])
  fields := #[]
  methods := #[]
  instanceTypes := #[]
  staticTypes := #[]
  resolved := Array.replicate 8 none
  statics := none }

/-- the primitive byte -/
def k8 : Class := { plain "byte" none with kind := .primitive 'B', accessFlags := 0x411 }
/-- [B -/
def k9 : Class := { plain "[B" (some 0) with kind := .array 8 .byte, interfaces := #[7, 4], accessFlags := 1041 }

def heap : Heap := #[{ cls := 6, slots := #[.ref 1, .ref 3, .ref 2, .null], vm := .statics 6 },
  { cls := 6, slots := #[.null, .int 0, .int 0], vm := .none },
  { cls := 6, slots := #[.null, .int 2, .int 0], vm := .none },
  { cls := 6, slots := #[.null, .int 1, .int 0], vm := .none }]
def classes : Array Class := #[k0, k1, k2, k3, k4, k5, k6, k7, k8, k9]
def interned : List (Array UInt16 × Addr) := []
def slotsUsed : Nat := 13
def theMethod : MethodId := ⟨1, 1⟩
def args0 : Array Value := #[.int 5, .int 5]
def aboutOver (below : List Frame) : State where
  vm := { classes := classes, interned := interned.toArray }
  heap := heap
  slotsUsed := slotsUsed
  threads := #[{ frames := .invoking theMethod args0 :: below }]
def below0 : List Frame := [.native { method := ⟨0, 0⟩, args := #[] }]
def about1 : State := aboutOver below0
def p0 : Program := .bare "" "" ""
def e0 : Env := launch0.env 0 0 0
theorem w_frames : about1.frames = Frame.invoking theMethod args0 :: below0 := rfl
set_option maxRecDepth 65536 in
theorem w_args : argsFit about1.vm theMethod args0 = true := by decide +kernel
set_option maxRecDepth 65536 in
theorem w_heap : heapFits about1 = true := by decide +kernel
set_option maxRecDepth 65536 in
theorem w_runnable : about1.curStatus? = some .runnable := by decide +kernel
set_option maxRecDepth 65536 in
theorem w_alone : about1.alone = true := by decide +kernel
set_option maxRecDepth 65536 in
theorem w_named : about1.methodNamed? x = some theMethod := by decide +kernel
set_option maxRecDepth 65536 in
theorem w_hears : about1.hears theMethod below0 = true := by decide +kernel
set_option maxRecDepth 65536 in
theorem w_ripe : about1.ripe theMethod args0 below0 = true := by decide +kernel
theorem w_running : about1.status = .running := rfl
set_option maxRecDepth 65536 in
theorem w_room : about1.hasRoom e0.platform room_1 = true :=
  launch0.hasRoom_least _ room_1 (by decide +kernel) (by decide +kernel) (by decide +kernel) (by decide +kernel) (by decide +kernel) (by decide +kernel)
theorem allAtoms_all (ts : List Jvm.Cond) (a : Array Jvm.Value) (st : Jvm.State) : (allAtoms ts).before a st = ts.all (fun c => c.before a st) := by
  induction ts with
  | nil => rfl
  | cons c t ih =>
    show (Jvm.Cond.and c (allAtoms t)).before a st = _
    rw [Jvm.Cond.before_and, ih, List.all_cons]
def words1 : List Jvm.Cond := Jvm.Cond.code x code maxLocals ret :: tables_1
/-- a 'code' word, met by the world's own term for the bytes: nothing is compared byte by byte -/
theorem code_word {y : MethodName} {bytes : ByteArray} {mx : Nat} {rt : Option FieldType} {a : Array Value} {s : State} {m : MethodId} {meth : Method} {c : Code} (h1 : s.methodNamed? y = some m) (h2 : s.vm.method? m = some meth) (h3 : meth.code = some c) (h4 : c.code = bytes)
    (h5 : (c.maxLocals == mx && c.exceptionTable.isEmpty && decide (c.maxStack ≤ mostOperands) && decide (meth.sig.returnType = rt) && !meth.locks && decide (parseMethodDescriptor y.desc = some meth.sig)) = true) : (Jvm.Cond.code y bytes mx rt).before a s = true := by
  simp only [Bool.and_eq_true, beq_iff_eq, Bool.not_eq_true', decide_eq_true_eq] at h5
  obtain ⟨⟨⟨⟨⟨g1, g2⟩, g3⟩, g4⟩, g5⟩, g6⟩ := h5
  simp [Cond.before, Cond.holds, Cond.value, h1, h2, h3, h4, g1, g2, g3, g4, g5, g6]
def isCode : Jvm.Cond → Bool
  | .code _ _ _ _ => true
  | _ => false
theorem all_split {L : List Jvm.Cond} {P : Jvm.Cond → Bool} (h1 : L.all (fun c => isCode c || P c) = true) (h2 : ∀ c ∈ L.filter isCode, P c = true) : L.all P = true := by
  refine List.all_eq_true.mpr fun c hc => ?_
  have h := List.all_eq_true.mp h1 c hc
  rcases Bool.eq_false_or_eq_true (isCode c) with hi | hi
  · exact h2 c (List.mem_filter.mpr ⟨hc, hi⟩)
  · simpa [hi] using h
set_option maxRecDepth 65536 in
theorem w_c0 : (Jvm.Cond.code x code maxLocals ret).before args0 about1 = true := code_word (m := ⟨1, 1⟩) (meth := k1m1) (c := k1c1) (by decide +kernel) rfl rfl rfl (by decide +kernel)
set_option maxRecDepth 65536 in
theorem w_c1 : (Jvm.Cond.code ({ cls := "com/example/witness/witness/pattern/Dfa$Combination", name := "accepts", desc := "(ZZ)Z" } : Jvm.MethodName) prog_16_method_4_code (4 : Nat) (Option.some Jvm.ClassFile.FieldType.boolean)).before args0 about1 = true := code_word (m := ⟨6, 0⟩) (meth := k6m0) (c := k6c0) (by decide +kernel) rfl rfl rfl (by decide +kernel)
def codes1 : List Jvm.Cond := [Jvm.Cond.code x code maxLocals ret, Jvm.Cond.code ({ cls := "com/example/witness/witness/pattern/Dfa$Combination", name := "accepts", desc := "(ZZ)Z" } : Jvm.MethodName) prog_16_method_4_code (4 : Nat) (Option.some Jvm.ClassFile.FieldType.boolean)]
set_option maxRecDepth 65536 in
theorem codes_eq : words1.filter isCode = codes1 := rfl
theorem w_codes : ∀ c ∈ words1.filter isCode, c.before args0 about1 = true := by
  rw [codes_eq]
  intro c hc
  simp only [codes1, List.mem_cons, List.not_mem_nil, or_false] at hc
  rcases hc with rfl | rfl
  · exact w_c0
  · exact w_c1
set_option maxRecDepth 65536 in
theorem w_t1 : words1.all (fun c => isCode c || c.before args0 about1) = true := by decide +kernel
theorem w_tables : (allAtoms (Jvm.Cond.code x code maxLocals ret :: tables_1)).before args0 about1 = true := by
  rw [allAtoms_all]
  show words1.all (fun c => c.before args0 about1) = true
  refine all_split ?_ w_codes
  rw [w_t1]
set_option maxRecDepth 65536 in
theorem w_case : (Jvm.Cond.and given_1 narrow_1).before args0 about1 = true := by decide +kernel
theorem w_applies : (headSpec (Jvm.Cond.code x code maxLocals ret :: tables_1) room_1).applies x e0.platform about1 = true :=
  (Spec.applies_iff w_frames).mpr ⟨w_running, w_runnable, w_alone, w_named, w_hears, w_ripe, w_room, w_tables⟩
theorem atStart : AtStart classFile x code maxLocals ret World_1 tables_1 room_1 Calls_1 rest_1 Pre_1 launch0 p0 e0 about1 theMethod args0 below0 :=
  ⟨lists_1, trivial, launch0.admits_env _ _ _, launch0.least_env, fairChoices_fair.cas, fairChoices_fair.clock, w_frames, w_args, w_heap, w_applies, trivial, trivial, w_case⟩
end start1
theorem witness_1 : WitnessClaimed_1 := ⟨start1.p0, start1.e0, start1.about1, start1.theMethod, start1.args0, start1.below0, start1.atStart⟩
end Jvm.Pilot.@@N@@
