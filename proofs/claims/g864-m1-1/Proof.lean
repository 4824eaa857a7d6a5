import JvmDerived
import JvmDerived.Pilot.@@N@@Statement
import JvmDerived.Pilot.@@N@@Code
set_option linter.unusedVariables false
set_option linter.unusedSimpArgs false
namespace Jvm.Pilot.@@N@@
open Jvm Jvm.ClassFile Sem Op Lib Jvm.Free Jvm.Stand Jvm.LawKit Jvm.RoadKit Bundle Jvm.Pilot.@@N@@.Jvm.D
section OwnKit
variable {p : Program} {l : Launch} {e : Env} {R : Room} {s : State} {m : MethodId} {args : Array Value} {below : List Frame} {meth : Method} {c : Code} {T : State} {locs : List Loc} {cells slots : Nat} {Z : State} {a0 : Array Value} {h : Heap} {Qr : Option Value → Heap → List Loc → Prop}
/-- from this frame on the run ends, and Q holds of the end -/
def own_G (tb : Tables) (e : Env) (below : List Frame) (T : State) (f : JFrame) (Qe : Outcome → State → Prop) : Prop := ∃ s₂ o, Steps tb e below (T.setTop f) s₂ ∧ s₂.status = .running ∧ Ended s₂ below o ∧ Qe o s₂
theorem own_pre {tb : Tables} {T' : State} {f f' : JFrame} {Qe : Outcome → State → Prop} (k1 : ∀ t, Steps tb e below (T'.setTop f') t → Steps tb e below (T.setTop f) t) (k2 : own_G tb e below T' f' Qe) : own_G tb e below T f Qe := by
  obtain ⟨s2, o, h1, h2⟩ := k2
  exact ⟨s2, o, k1 _ h1, h2⟩
/-- the end of a body: it returned v with Qr; the frame -/
abbrev own_P (R : Room) (s : State) (Qr : Option Value → Heap → List Loc → Prop) : Outcome → State → Prop := fun o U' => ∃ v L, o = .returned v ∧ Qr v U'.heap L ∧ FrameEnd s o U' L R.cells R.slots
/-- a body's contract -/
abbrev own_C (l : Launch) (y : MethodName) (code : ByteArray) (ml : Nat) (ret : Option FieldType) (ws : List Jvm.Cond) (R : Room) (as : Array Value) (Z : State) (h0 : Heap) (Qr : Option Value → Heap → List Loc → Prop) : Prop :=
  MetFree l y (head1 (Jvm.Cond.code y code ml ret :: ws) R) (fun a U => a = as ∧ Z.Warmed39 U.vm ∧ U.heap = h0) (fun _ _ _ _ _ => True) (fun _ U o U' => ∃ v L, o = .returned v ∧ Qr v U'.heap L ∧ FrameEnd U o U' L R.cells R.slots)
theorem own_enter {y : MethodName} {code : ByteArray} {ml : Nat} {ret : Option FieldType} {ws : List Jvm.Cond} {as : Array Value} {LS : Array Slot} {h0 : Heap} (hp : plainFor y = true) (hef : ∀ m, entryFrame m as ml = mkF m 0 LS [])
    (body : ∀ (p : Program) (e : Env) (s : State) (m : MethodId) (below : List Frame) (meth : Method) (c : Code) (s₁ : State), p.tables.exec = Jvm.exec → c.code = code → c.maxLocals = ml → s.vm.findClass y.cls = some m.cls → meth.name = y.name → meth.sig.returnType = ret → meth.locks = false → Z.Warmed39 s.vm → Stand p l e R s m as below meth c s₁ [] 0 0 → s₁.heap = h0 → s.heap = h0 → own_G p.tables e below s₁ (mkF m 0 LS []) (own_P R s Qr)) : own_C l y code ml ret ws R as Z h0 Qr := by
  refine MetFree.of_bodySF hp hisR ?_
  intro p e s m args below meth c s₁ Bd hml0 hP hK
  obtain ⟨rfl, hZ, hh⟩ := hP
  have e0 : s₁.heap = h0 := by rw [← hh, Bd.state]; rfl
  obtain ⟨s2, o, h1, h2⟩ := body p e s m below meth c s₁ Bd.exec Bd.bytes hml0 (findClass_of_methodNamed Bd.named) (name_of_methodNamed Bd.named Bd.method).1 Bd.returns Bd.notSynchronized hZ (Stand.of_body Bd) e0 hh
  exact ⟨s2, o, castTop (hef m) h1, h2⟩
theorem own_retZ (X : Stand p l e R s m args below meth c T locs cells slots) (hx : p.tables.exec = Jvm.exec) (hlk : meth.locks = false) {pc : Nat} {Ls : Array Slot} {z z' : Int32} {rest : List Value} (hret : meth.sig.returnType = some .boolean) (hd : decode c.code pc = .ok (.ireturn, 1)) (hz : nar .boolean z = z')
    (hQ : Qr (some (.int z')) T.heap locs) (hc : cells ≤ R.cells) (hs : slots ≤ R.slots) : own_G p.tables e below T (mkF m pc Ls (.int z :: rest)) (own_P R s Qr) := by
  subst hz
  obtain ⟨fs, hr, hrun, hended, hW, hsame⟩ := X.leave (v := some (.int (nar .boolean z))) (fun h => by rw [hret] at h; cases h) hlk
  exact ⟨_, _, retN X hx hret (by simp) hd hr, hrun, hended, _, _, rfl, hQ, ⟨_, rfl⟩, hW, hsame.mono hc hs⟩
theorem own_retI (X : Stand p l e R s m args below meth c T locs cells slots) (hx : p.tables.exec = Jvm.exec) (hlk : meth.locks = false) {pc : Nat} {Ls : Array Slot} {z : Int32} {rest : List Value} (hret : meth.sig.returnType = some .int) (hd : decode c.code pc = .ok (.ireturn, 1))
    (hQ : Qr (some (.int z)) T.heap locs) (hc : cells ≤ R.cells) (hs : slots ≤ R.slots) : own_G p.tables e below T (mkF m pc Ls (.int z :: rest)) (own_P R s Qr) := by
  obtain ⟨fs, hr, hrun, hended, hW, hsame⟩ := X.leave (v := some (.int z)) (fun h => by rw [hret] at h; cases h) hlk
  exact ⟨_, _, retOut X hx hret rfl (Or.inl ⟨rfl, Or.inl rfl, _, rfl⟩) hd hr, hrun, hended, _, _, rfl, hQ, ⟨_, rfl⟩, hW, hsame.mono hc hs⟩
theorem own_retR (X : Stand p l e R s m args below meth c T locs cells slots) (hx : p.tables.exec = Jvm.exec) (hlk : meth.locks = false) {pc : Nat} {Ls : Array Slot} {w : Value} {t : FieldType} {rest : List Value} (hret : meth.sig.returnType = some t) (hd : decode c.code pc = .ok (.areturn, 1)) (hn : narrow t w = w) (ht : t.isReference = true) (hw : w.isRef = true)
    (hQ : Qr (some w) T.heap locs) (hc : cells ≤ R.cells) (hs : slots ≤ R.slots) : own_G p.tables e below T (mkF m pc Ls (w :: rest)) (own_P R s Qr) := by
  obtain ⟨fs, hr, hrun, hended, hW, hsame⟩ := X.leave (v := some w) (fun h => by rw [hret] at h; cases h) hlk
  exact ⟨_, _, retOut X hx hret hn (Or.inr (Or.inr (Or.inr (Or.inr ⟨rfl, ht, hw⟩)))) hd hr, hrun, hended, _, _, rfl, hQ, ⟨_, rfl⟩, hW, hsame.mono hc hs⟩
theorem own_ret0 (X : Stand p l e R s m args below meth c T locs cells slots) (hx : p.tables.exec = Jvm.exec) (hlk : meth.locks = false) {pc : Nat} {Ls : Array Slot} (hret : meth.sig.returnType = none) (hd : decode c.code pc = .ok (.return_, 1))
    (hQ : Qr none T.heap locs) (hc : cells ≤ R.cells) (hs : slots ≤ R.slots) : own_G p.tables e below T (mkF m pc Ls []) (own_P R s Qr) := by
  obtain ⟨fs, hr, hrun, hended, hW, hsame⟩ := X.leave (v := none) (fun _ => rfl) hlk
  exact ⟨_, _, X.returnOut hx hret hd hr, hrun, hended, _, _, rfl, hQ, ⟨_, rfl⟩, hW, hsame.mono hc hs⟩
theorem own_callV (X : Stand p l e R s m args below meth c T locs cells slots) (hx : p.tables.exec = Jvm.exec) (hZ : Z.Warmed39 s.vm) (eT : T.heap = h) {own C : String} {index : Nat} {y : MethodName} {bytes : ByteArray} {maxL : Nat} {ret : Option FieldType} {R' : Room} {b : Addr} {Qc : Option Value → Heap → List Loc → Prop}
    (hown : s.vm.findClass own = some m.cls) (w1 : (Jvm.Cond.methodLink own index y).before a0 Z = true) (w2 : (Jvm.Cond.declares y).before a0 Z = true) (w3 : (Jvm.Cond.selects C y y).before a0 Z = true) (w4 : (Jvm.Cond.instanceMethod y).before a0 Z = true) (w5 : (Jvm.Cond.code y bytes maxL ret).before a0 Z = true) (w6 : (Jvm.Cond.initialized y.cls).before a0 Z = true)
    (hy : y.cls ≠ "java/lang/invoke/MethodHandle" ∧ y.cls ≠ "java/lang/invoke/VarHandle") (W : Nat) (argsL rest : List Value) (hM : own_C l y bytes maxL ret [] R' (.ref b :: argsL).toArray Z h Qc) (hf : R'.frames + 1 ≤ R.frames) (hl : W + (maxL + 11) + R'.locals ≤ R.locals) (hc : cells + R'.cells ≤ R.cells) (hs : slots + R'.slots ≤ R.slots)
    (E : Exa Z h b C) {g : JFrame} (hg : g.method = m) (hsize : g.locals.size = c.maxLocals) (hlen : ∀ sig, parseMethodDescriptor y.desc = some sig → argsL.length = sig.parameters.length) (hstack : g.stack = argsL.reverse ++ .ref b :: rest) (hW : 2 * g.monitorRoom + (rest.map fun v => v.category).sum ≤ W) (hd : decode c.code g.pc = .ok (.invokevirtual index, 3)) :
    ∃ (T' : State) (L : List Loc) (v : Option Value), Stand p l e R s m args below meth c T' (locs ++ L) (cells + R'.cells) (slots + R'.slots) ∧ Qc v T'.heap L ∧ ∀ target, Steps p.tables e below (T'.setTop { g with pc := g.pc + 3, stack := v.toList ++ rest }) target → Steps p.tables e below (T.setTop g) target := by
  obtain ⟨cq, kq, qa, qb, qc⟩ := isOf hZ eT E
  obtain ⟨v, _, ⟨T2, L2, k2, n2⟩, -, X2, ⟨Lc, hQ, l2, y2, z2⟩, st⟩ := X.virtualBack hx (y := y) (z := y) hown (mvT hZ w1) (mvT hZ w2) (notFace_of_selects (args := #[]) (mvT hZ w3)) (mvT hZ w3) (mvT hZ w4) hy (backOf (W := W) hM hZ w5 w6 hf hl) qa qc (g := g) hg hsize (Steps.refl _) (argsL := argsL) (rest := rest) hlen hstack hW hd (fun _ _ => ⟨rfl, eT, hc, hs⟩)
  dsimp only [Pt.U, Pt.locs, Pt.cells, Pt.slots] at X2 l2 y2 z2 st hQ
  subst l2 y2 z2
  exact ⟨T2, Lc, v, X2, hQ, fun t k => st.trans k⟩
theorem own_callU (X : Stand p l e R s m args below meth c T locs cells slots) (hx : p.tables.exec = Jvm.exec) (hZ : Z.Warmed39 s.vm) (eT : T.heap = h) {own C owner : String} {index : Nat} {y z : MethodName} {bytes : ByteArray} {maxL : Nat} {ret : Option FieldType} {R' : Room} {b : Addr} {Qc : Option Value → Heap → List Loc → Prop}
    (hown : s.vm.findClass own = some m.cls) (w1 : (Jvm.Cond.methodLink own index z).before a0 Z = true) (w0 : (Jvm.Cond.sameMethod z.cls owner z.name z.desc).before a0 Z = true) (w2 : (Jvm.Cond.declares ⟨owner, z.name, z.desc⟩).before a0 Z = true) (w3 : (Jvm.Cond.selects C z y).before a0 Z = true) (w4 : (Jvm.Cond.instanceMethod y).before a0 Z = true) (w5 : (Jvm.Cond.code y bytes maxL ret).before a0 Z = true) (w6 : (Jvm.Cond.initialized y.cls).before a0 Z = true)
    (hy : owner ≠ "java/lang/invoke/MethodHandle" ∧ owner ≠ "java/lang/invoke/VarHandle") (W : Nat) (argsL rest : List Value) (hM : own_C l y bytes maxL ret [] R' (.ref b :: argsL).toArray Z h Qc) (hf : R'.frames + 1 ≤ R.frames) (hl : W + (maxL + 11) + R'.locals ≤ R.locals) (hc : cells + R'.cells ≤ R.cells) (hs : slots + R'.slots ≤ R.slots)
    (E : Exa Z h b C) {g : JFrame} (hg : g.method = m) (hsize : g.locals.size = c.maxLocals) (hlen : ∀ sig, parseMethodDescriptor z.desc = some sig → argsL.length = sig.parameters.length) (hstack : g.stack = argsL.reverse ++ .ref b :: rest) (hW : 2 * g.monitorRoom + (rest.map fun v => v.category).sum ≤ W) (hd : decode c.code g.pc = .ok (.invokevirtual index, 3)) :
    ∃ (T' : State) (L : List Loc) (v : Option Value), Stand p l e R s m args below meth c T' (locs ++ L) (cells + R'.cells) (slots + R'.slots) ∧ Qc v T'.heap L ∧ ∀ target, Steps p.tables e below (T'.setTop { g with pc := g.pc + 3, stack := v.toList ++ rest }) target → Steps p.tables e below (T.setTop g) target := by
  obtain ⟨cq, kq, qa, qb, qc⟩ := isOf hZ eT E
  obtain ⟨v, _, ⟨T2, L2, k2, n2⟩, -, X2, ⟨Lc, hQ, l2, y2, z2⟩, st⟩ := X.virtualBackUp hx (x := z) (y := y) hown (mvT hZ w1) (mvT hZ w0) (mvT hZ w2) hy (mvT hZ w3) (mvT hZ w4) (backOf (W := W) hM hZ w5 w6 hf hl) qa qc (g := g) hg hsize (Steps.refl _) (argsL := argsL) (rest := rest) hlen hstack hW hd (fun _ _ => ⟨rfl, eT, hc, hs⟩)
  dsimp only [Pt.U, Pt.locs, Pt.cells, Pt.slots] at X2 l2 y2 z2 st hQ
  subst l2 y2 z2
  exact ⟨T2, Lc, v, X2, hQ, fun t k => st.trans k⟩
theorem own_callS (X : Stand p l e R s m args below meth c T locs cells slots) (hx : p.tables.exec = Jvm.exec) (hZ : Z.Warmed39 s.vm) (eT : T.heap = h) {own : String} {index : Nat} {y : MethodName} {bytes : ByteArray} {maxL : Nat} {ret : Option FieldType} {R' : Room} {Qc : Option Value → Heap → List Loc → Prop}
    (hown : s.vm.findClass own = some m.cls) (w1 : (Jvm.Cond.methodLink own index y).before a0 Z = true) (w2 : (Jvm.Cond.static y).before a0 Z = true) (w5 : (Jvm.Cond.code y bytes maxL ret).before a0 Z = true) (w6 : (Jvm.Cond.initialized y.cls).before a0 Z = true)
    (hy : y.cls ≠ "java/lang/invoke/MethodHandle" ∧ y.cls ≠ "java/lang/invoke/VarHandle") (W : Nat) (argsL rest : List Value) (hM : own_C l y bytes maxL ret [] R' argsL.toArray Z h Qc) (hf : R'.frames + 1 ≤ R.frames) (hl : W + (maxL + 11) + R'.locals ≤ R.locals) (hc : cells + R'.cells ≤ R.cells) (hs : slots + R'.slots ≤ R.slots)
    {g : JFrame} (hg : g.method = m) (hsize : g.locals.size = c.maxLocals) (hlen : ∀ sig, parseMethodDescriptor y.desc = some sig → argsL.length = sig.parameters.length) (hstack : g.stack = argsL.reverse ++ rest) (hW : 2 * g.monitorRoom + (rest.map fun v => v.category).sum ≤ W) (hd : decode c.code g.pc = .ok (.invokestatic index, 3)) :
    ∃ (T' : State) (L : List Loc) (v : Option Value), Stand p l e R s m args below meth c T' (locs ++ L) (cells + R'.cells) (slots + R'.slots) ∧ Qc v T'.heap L ∧ ∀ target, Steps p.tables e below (T'.setTop { g with pc := g.pc + 3, stack := v.toList ++ rest }) target → Steps p.tables e below (T.setTop g) target := by
  obtain ⟨v, _, ⟨T2, L2, k2, n2⟩, -, X2, ⟨Lc, hQ, l2, y2, z2⟩, st⟩ := Jvm.LawKit.callS X hx (y := y) hown (mvT hZ w1) (mvT hZ w2) (mvT hZ w6) (mvT hZ w5) hy (backOf (W := W) hM hZ w5 w6 hf hl) (g := g) hg hsize (argsL := argsL) (rest := rest) hlen hstack hW hd (fun _ _ => ⟨rfl, eT, hc, hs⟩)
  dsimp only [Pt.U, Pt.locs, Pt.cells, Pt.slots] at X2 l2 y2 z2 st hQ
  subst l2 y2 z2
  exact ⟨T2, Lc, v, X2, hQ, st⟩
theorem own_callI (X : Stand p l e R s m args below meth c T locs cells slots) (hx : p.tables.exec = Jvm.exec) (hZ : Z.Warmed39 s.vm) (eT : T.heap = h) {own : String} {index : Nat} {y : MethodName} {bytes : ByteArray} {maxL : Nat} {R' : Room} {b : Addr} {Qc : Option Value → Heap → List Loc → Prop} (hy1 : y.name = "<init>")
    (hown : s.vm.findClass own = some m.cls) (w1 : (Jvm.Cond.methodLink own index y).before a0 Z = true) (w4 : (Jvm.Cond.instanceMethod y).before a0 Z = true) (w5 : (Jvm.Cond.code y bytes maxL none).before a0 Z = true) (w6 : (Jvm.Cond.initialized y.cls).before a0 Z = true)
    (hy : y.cls ≠ "java/lang/invoke/MethodHandle" ∧ y.cls ≠ "java/lang/invoke/VarHandle") (W : Nat) (argsL rest : List Value) (hM : own_C l y bytes maxL none [] R' (.ref b :: argsL).toArray Z h Qc) (hf : R'.frames + 1 ≤ R.frames) (hl : W + (maxL + 11) + R'.locals ≤ R.locals) (hc : cells + R'.cells ≤ R.cells) (hs : slots + R'.slots ≤ R.slots)
    {g : JFrame} (hg : g.method = m) (hsize : g.locals.size = c.maxLocals) (hlen : ∀ sig, parseMethodDescriptor y.desc = some sig → argsL.length = sig.parameters.length) (hstack : g.stack = argsL.reverse ++ .ref b :: rest) (hW : 2 * g.monitorRoom + (rest.map fun v => v.category).sum ≤ W) (hd : decode c.code g.pc = .ok (.invokespecial index, 3)) :
    ∃ (T' : State) (L : List Loc) (v : Option Value), Stand p l e R s m args below meth c T' (locs ++ L) (cells + R'.cells) (slots + R'.slots) ∧ Qc v T'.heap L ∧ ∀ target, Steps p.tables e below (T'.setTop { g with pc := g.pc + 3, stack := v.toList ++ rest }) target → Steps p.tables e below (T.setTop g) target := by
  obtain ⟨v, _, ⟨T2, L2, k2, n2⟩, -, X2, ⟨Lc, hQ, l2, y2, z2⟩, st⟩ := X.specialBack hx (y := y) hy1 hown (mvT hZ w1) (mvT hZ w4) (mvT hZ w5) hy (backOf (W := W) hM hZ w5 w6 hf hl) (g := g) hg hsize (Steps.refl _) (a := b) (argsL := argsL) (rest := rest) hlen hstack hW hd (fun _ _ => ⟨rfl, eT, hc, hs⟩)
  dsimp only [Pt.U, Pt.locs, Pt.cells, Pt.slots] at X2 l2 y2 z2 st hQ
  subst l2 y2 z2
  exact ⟨T2, Lc, v, X2, hQ, fun t k => st.trans k⟩
/-- a callee that leaves the heap alone: what it returns -/
abbrev own_Q0 (v : Option Value) (h0 : Heap) : Option Value → Heap → List Loc → Prop := fun v' h' L => v' = v ∧ h' = h0 ∧ L = []
abbrev own_R (f n : Nat) : Room := { frames := f, cells := 0, slots := 0, locals := n }
theorem own_pure {f n : Nat} {v : Option Value} {h0 : Heap} {P : State → Option Value → Prop}
    (q : ∃ (T' : State) (L : List Loc) (v' : Option Value), Stand p l e R s m args below meth c T' (locs ++ L) (cells + (own_R f n).cells) (slots + (own_R f n).slots) ∧ own_Q0 v h0 v' T'.heap L ∧ P T' v') : ∃ T', Stand p l e R s m args below meth c T' locs cells slots ∧ T'.heap = h0 ∧ P T' v := by
  obtain ⟨T', L, v', X, ⟨rfl, hh, rfl⟩, k⟩ := q
  rw [List.append_nil] at X
  exact ⟨T', X, hh, k⟩
theorem own_eqI {ar : Array Value} {first st : State} {o : Option Outcome} {idx : List Nat} {t : Term} {n : Int32} (q : (Jvm.Cond.eq t (.int n)).value ar first o st idx = some true) : t.eval ar first o idx st = some (.int n) := by
  simp only [Jvm.Cond.value, Term.eval] at q
  cases ht : t.eval ar first o idx st with
  | none => simp [ht] at q
  | some x => cases x <;> simp [ht] at q ⊢; exact q
theorem own_eqR {ar : Array Value} {first st : State} {o : Option Outcome} {idx : List Nat} {t u : Term} {b : Addr} (q : (Jvm.Cond.eq t u).value ar first o st idx = some true) (hu : u.eval ar first o idx st = some (.ref b)) : t.eval ar first o idx st = some (.ref b) := by
  cases ht : t.eval ar first o idx st with
  | none => simp [Jvm.Cond.value, ht] at q
  | some x => cases x <;> simp [Jvm.Cond.value, ht, hu] at q ⊢; exact q
theorem own_arrlen {ar : Array Value} {st : State} {t : Term} {a : Addr} {cl : Cell} {ty : FieldType} {n : Int32} (A : Arr st st.heap a cl ty) (ht : t.eval ar st none [] st = some (.ref a)) (hl : (Term.length t).eval ar st none [] st = some (.int n)) : cl.slots.size < 2 ^ 31 ∧ cl.slots.size.toInt32 = n := by
  have ha : st.arrayAt? a = some cl := Arr.fin (Vm.Alike.refl _) A
  by_cases q : cl.slots.size < 2 ^ 31
  · rw [len_f ht ha q] at hl
    exact ⟨q, Value.int.inj (Option.some.inj hl)⟩
  · simp [Term.eval, ht, ha, q] at hl
theorem own_neI {a b : Int32} (q : a ≠ b) : (Value.int a) ≠ (Value.int b) := fun z => q (Value.int.inj z)
end OwnKit

theorem pd_0 : parseMethodDescriptor "()I" = some ⟨[], some .int⟩ := by decide +kernel
theorem pd_1 : parseMethodDescriptor "(Z)Z" = some ⟨[.boolean], some .boolean⟩ := by decide +kernel
theorem own_c3 (z : Int32) (q0 : 0 ≤ z.toInt) (q1 : z.toInt < 3) : z = (0 : Int32) ∨ z = (1 : Int32) ∨ z = (2 : Int32) := by
  simp only [← Int32.toInt_inj, show (0 : Int32).toInt = 0 from rfl, show (1 : Int32).toInt = 1 from rfl, show (2 : Int32).toInt = 2 from rfl]
  omega
theorem own_r3 (z : Int32) : (z &&& (2147483647 : Int32)) % (3 : Int32) = (0 : Int32) ∨ (z &&& (2147483647 : Int32)) % (3 : Int32) = (1 : Int32) ∨ (z &&& (2147483647 : Int32)) % (3 : Int32) = (2 : Int32) := by
  have q := c_mask z (2147483647 : Int32) 31 (by decide) (by decide)
  have r := (c_irem (z &&& (2147483647 : Int32)) (3 : Int32) 3 rfl).1 (by omega)
  exact own_c3 _ (by omega) (by omega)
def own_F (Z : State) (h : Heap) (w_ALWAYS w_NEVER w_ON_ACTUAL_TRANSACTION : Addr) : Prop :=
  Sta Z h "com/example/uniform_transactions/uniformtransactions/ManagerSettings$Synchronization" "ALWAYS" "Lcom/example/uniform_transactions/uniformtransactions/ManagerSettings$Synchronization;" (.ref w_ALWAYS) ∧
  Exa Z h w_ALWAYS "com/example/uniform_transactions/uniformtransactions/ManagerSettings$Synchronization" ∧
  Sta Z h "com/example/uniform_transactions/uniformtransactions/ManagerSettings$Synchronization" "NEVER" "Lcom/example/uniform_transactions/uniformtransactions/ManagerSettings$Synchronization;" (.ref w_NEVER) ∧
  Exa Z h w_NEVER "com/example/uniform_transactions/uniformtransactions/ManagerSettings$Synchronization" ∧
  Sta Z h "com/example/uniform_transactions/uniformtransactions/ManagerSettings$Synchronization" "ON_ACTUAL_TRANSACTION" "Lcom/example/uniform_transactions/uniformtransactions/ManagerSettings$Synchronization;" (.ref w_ON_ACTUAL_TRANSACTION) ∧
  Exa Z h w_ON_ACTUAL_TRANSACTION "com/example/uniform_transactions/uniformtransactions/ManagerSettings$Synchronization" ∧
  Fld Z h w_ALWAYS "java/lang/Enum" "ordinal" "I" (.int (0 : Int32)) ∧
  Fld Z h w_NEVER "java/lang/Enum" "ordinal" "I" (.int (2 : Int32)) ∧
  Fld Z h w_ON_ACTUAL_TRANSACTION "java/lang/Enum" "ordinal" "I" (.int (1 : Int32))
theorem d2_0 : decode jdk_37_method_2_code 0 = .ok (.aload_n 0, 1) := by decide +kernel
theorem d2_1 : decode jdk_37_method_2_code 1 = .ok (.getfield 7, 3) := by decide +kernel
theorem d2_4 : decode jdk_37_method_2_code 4 = .ok (.ireturn, 1) := by decide +kernel
set_option maxRecDepth 65536 in
set_option maxHeartbeats 40000000 in
theorem own_bo_ALWAYS (l : Launch) (Z : State) (a0 : Array Value) (hw : ∀ d ∈ tables_1, d.before a0 Z = true) (ws : List Jvm.Cond) (w_ALWAYS w_NEVER w_ON_ACTUAL_TRANSACTION : Addr) (h0 : Heap) (F : own_F Z h0 w_ALWAYS w_NEVER w_ON_ACTUAL_TRANSACTION)  :
    own_C l (⟨"java/lang/Enum", "ordinal", "()I"⟩ : MethodName) jdk_37_method_2_code 1 (some .int) ws (own_R 0 0) #[(.ref w_ALWAYS)] Z h0 (own_Q0 (some (.int (0 : Int32))) h0) := by
  have F0 := F
  obtain ⟨S_ALWAYS, E_ALWAYS, S_NEVER, E_NEVER, S_ON_ACTUAL_TRANSACTION, E_ON_ACTUAL_TRANSACTION, F_ordinal_ALWAYS, F_ordinal_NEVER, F_ordinal_ON_ACTUAL_TRANSACTION⟩ := F
  refine own_enter (LS := #[rv w_ALWAYS]) (plainFor_of_name (by first | (simp [plainName, overriddenIn, x]; done) | decide +kernel)) (fun m => by first | (simp [entryFrame, mkF, argsToLocals, Value.category, maxLocals]; done) | rfl) ?_
  intro p e s m below meth c s₁ hx hby hml hown0 hnm hret hlk hZ X0 e0 hsh
  have hown : s.vm.findClass "java/lang/Enum" = some m.cls := hown0
  refine own_pre (T' := s₁) (f' := (mkF m 1 #[rv w_ALWAYS] [(.ref w_ALWAYS)])) (fun t k => XS.aloadN X0.here hx rfl (hb hby d2_0) rfl rfl k) ?_
  obtain ⟨T1, X1, e1, st1⟩ := getF X0 hx hZ hown (host := "") (Or.inl (hw _ (List.mem_of_getElem? (i := 16) rfl))) Via.refl e0 F_ordinal_ALWAYS (g := (mkF m 1 #[rv w_ALWAYS] [(.ref w_ALWAYS)])) rfl rfl (hb hby d2_1)
  refine own_pre (T' := T1) (f' := (mkF m 4 #[rv w_ALWAYS] [(.int (0 : Int32))])) (fun t k => st1 t k) ?_
  exact own_retI X1 hx hlk hret (hb hby d2_4) (⟨rfl, e1, rfl⟩) (by decide) (by decide)
set_option maxRecDepth 65536 in
set_option maxHeartbeats 40000000 in
theorem own_bo_NEVER (l : Launch) (Z : State) (a0 : Array Value) (hw : ∀ d ∈ tables_1, d.before a0 Z = true) (ws : List Jvm.Cond) (w_ALWAYS w_NEVER w_ON_ACTUAL_TRANSACTION : Addr) (h0 : Heap) (F : own_F Z h0 w_ALWAYS w_NEVER w_ON_ACTUAL_TRANSACTION)  :
    own_C l (⟨"java/lang/Enum", "ordinal", "()I"⟩ : MethodName) jdk_37_method_2_code 1 (some .int) ws (own_R 0 0) #[(.ref w_NEVER)] Z h0 (own_Q0 (some (.int (2 : Int32))) h0) := by
  have F0 := F
  obtain ⟨S_ALWAYS, E_ALWAYS, S_NEVER, E_NEVER, S_ON_ACTUAL_TRANSACTION, E_ON_ACTUAL_TRANSACTION, F_ordinal_ALWAYS, F_ordinal_NEVER, F_ordinal_ON_ACTUAL_TRANSACTION⟩ := F
  refine own_enter (LS := #[rv w_NEVER]) (plainFor_of_name (by first | (simp [plainName, overriddenIn, x]; done) | decide +kernel)) (fun m => by first | (simp [entryFrame, mkF, argsToLocals, Value.category, maxLocals]; done) | rfl) ?_
  intro p e s m below meth c s₁ hx hby hml hown0 hnm hret hlk hZ X0 e0 hsh
  have hown : s.vm.findClass "java/lang/Enum" = some m.cls := hown0
  refine own_pre (T' := s₁) (f' := (mkF m 1 #[rv w_NEVER] [(.ref w_NEVER)])) (fun t k => XS.aloadN X0.here hx rfl (hb hby d2_0) rfl rfl k) ?_
  obtain ⟨T1, X1, e1, st1⟩ := getF X0 hx hZ hown (host := "") (Or.inl (hw _ (List.mem_of_getElem? (i := 16) rfl))) Via.refl e0 F_ordinal_NEVER (g := (mkF m 1 #[rv w_NEVER] [(.ref w_NEVER)])) rfl rfl (hb hby d2_1)
  refine own_pre (T' := T1) (f' := (mkF m 4 #[rv w_NEVER] [(.int (2 : Int32))])) (fun t k => st1 t k) ?_
  exact own_retI X1 hx hlk hret (hb hby d2_4) (⟨rfl, e1, rfl⟩) (by decide) (by decide)
set_option maxRecDepth 65536 in
set_option maxHeartbeats 40000000 in
theorem own_bo_ON_ACTUAL_TRANSACTION (l : Launch) (Z : State) (a0 : Array Value) (hw : ∀ d ∈ tables_1, d.before a0 Z = true) (ws : List Jvm.Cond) (w_ALWAYS w_NEVER w_ON_ACTUAL_TRANSACTION : Addr) (h0 : Heap) (F : own_F Z h0 w_ALWAYS w_NEVER w_ON_ACTUAL_TRANSACTION)  :
    own_C l (⟨"java/lang/Enum", "ordinal", "()I"⟩ : MethodName) jdk_37_method_2_code 1 (some .int) ws (own_R 0 0) #[(.ref w_ON_ACTUAL_TRANSACTION)] Z h0 (own_Q0 (some (.int (1 : Int32))) h0) := by
  have F0 := F
  obtain ⟨S_ALWAYS, E_ALWAYS, S_NEVER, E_NEVER, S_ON_ACTUAL_TRANSACTION, E_ON_ACTUAL_TRANSACTION, F_ordinal_ALWAYS, F_ordinal_NEVER, F_ordinal_ON_ACTUAL_TRANSACTION⟩ := F
  refine own_enter (LS := #[rv w_ON_ACTUAL_TRANSACTION]) (plainFor_of_name (by first | (simp [plainName, overriddenIn, x]; done) | decide +kernel)) (fun m => by first | (simp [entryFrame, mkF, argsToLocals, Value.category, maxLocals]; done) | rfl) ?_
  intro p e s m below meth c s₁ hx hby hml hown0 hnm hret hlk hZ X0 e0 hsh
  have hown : s.vm.findClass "java/lang/Enum" = some m.cls := hown0
  refine own_pre (T' := s₁) (f' := (mkF m 1 #[rv w_ON_ACTUAL_TRANSACTION] [(.ref w_ON_ACTUAL_TRANSACTION)])) (fun t k => XS.aloadN X0.here hx rfl (hb hby d2_0) rfl rfl k) ?_
  obtain ⟨T1, X1, e1, st1⟩ := getF X0 hx hZ hown (host := "") (Or.inl (hw _ (List.mem_of_getElem? (i := 16) rfl))) Via.refl e0 F_ordinal_ON_ACTUAL_TRANSACTION (g := (mkF m 1 #[rv w_ON_ACTUAL_TRANSACTION] [(.ref w_ON_ACTUAL_TRANSACTION)])) rfl rfl (hb hby d2_1)
  refine own_pre (T' := T1) (f' := (mkF m 4 #[rv w_ON_ACTUAL_TRANSACTION] [(.int (1 : Int32))])) (fun t k => st1 t k) ?_
  exact own_retI X1 hx hlk hret (hb hby d2_4) (⟨rfl, e1, rfl⟩) (by decide) (by decide)
theorem d1_0 : decode prog_10_method_4_code 0 = .ok (.aload_n 0, 1) := by decide +kernel
theorem d1_1 : decode prog_10_method_4_code 1 = .ok (.invokevirtual 32, 3) := by decide +kernel
theorem d1_4 : decode prog_10_method_4_code 4 = .ok (.tableswitch 28 0 2 #[38, 42, 46], 28) := by decide +kernel
theorem d1_42 : decode prog_10_method_4_code 42 = .ok (.iconst 1, 1) := by decide +kernel
theorem d1_43 : decode prog_10_method_4_code 43 = .ok (.goto 8, 3) := by decide +kernel
theorem d1_51 : decode prog_10_method_4_code 51 = .ok (.ireturn, 1) := by decide +kernel
set_option maxRecDepth 65536 in
set_option maxHeartbeats 40000000 in
theorem own_ba_ALWAYS_0 (l : Launch) (Z : State) (a0 : Array Value) (hw : ∀ d ∈ tables_1, d.before a0 Z = true) (ws : List Jvm.Cond) (w_ALWAYS w_NEVER w_ON_ACTUAL_TRANSACTION : Addr) (h0 : Heap) (F : own_F Z h0 w_ALWAYS w_NEVER w_ON_ACTUAL_TRANSACTION)  :
    own_C l (⟨"com/example/uniform_transactions/uniformtransactions/ManagerSettings$Synchronization", "allowsIn", "(Z)Z"⟩ : MethodName) prog_10_method_4_code 2 (some .boolean) ws (own_R 1 12) #[(.ref w_ALWAYS), (.int (0 : Int32))] Z h0 (own_Q0 (some (.int (1 : Int32))) h0) := by
  have F0 := F
  obtain ⟨S_ALWAYS, E_ALWAYS, S_NEVER, E_NEVER, S_ON_ACTUAL_TRANSACTION, E_ON_ACTUAL_TRANSACTION, F_ordinal_ALWAYS, F_ordinal_NEVER, F_ordinal_ON_ACTUAL_TRANSACTION⟩ := F
  refine own_enter (LS := #[rv w_ALWAYS, iv (0 : Int32)]) (plainFor_of_name (by first | (simp [plainName, overriddenIn, x]; done) | decide +kernel)) (fun m => by first | (simp [entryFrame, mkF, argsToLocals, Value.category, maxLocals]; done) | rfl) ?_
  intro p e s m below meth c s₁ hx hby hml hown0 hnm hret hlk hZ X0 e0 hsh
  have hown : s.vm.findClass "com/example/uniform_transactions/uniformtransactions/ManagerSettings$Synchronization" = some m.cls := hown0
  refine own_pre (T' := s₁) (f' := (mkF m 1 #[rv w_ALWAYS, iv (0 : Int32)] [(.ref w_ALWAYS)])) (fun t k => XS.aloadN X0.here hx rfl (hb hby d1_0) rfl rfl k) ?_
  obtain ⟨T1, X1, e1, st1⟩ := own_pure (f := 0) (n := 0) (v := (some (.int (0 : Int32)))) (own_callU X0 hx hZ e0 (z := (⟨"com/example/uniform_transactions/uniformtransactions/ManagerSettings$Synchronization", "ordinal", "()I"⟩ : MethodName)) (y := (⟨"java/lang/Enum", "ordinal", "()I"⟩ : MethodName)) hown (hw _ (List.mem_of_getElem? (i := 9) rfl)) (hw _ (List.mem_of_getElem? (i := 10) rfl)) (hw _ (List.mem_of_getElem? (i := 11) rfl)) (hw _ (List.mem_of_getElem? (i := 13) rfl)) (hw _ (List.mem_of_getElem? (i := 12) rfl)) (hw _ (List.mem_of_getElem? (i := 15) rfl)) (hw _ (List.mem_of_getElem? (i := 14) rfl)) (by decide) 0 [] [] (own_bo_ALWAYS l Z a0 hw [] w_ALWAYS w_NEVER w_ON_ACTUAL_TRANSACTION h0 F0) (by decide) (by decide) (by decide) (by decide) E_ALWAYS (g := (mkF m 1 #[rv w_ALWAYS, iv (0 : Int32)] [(.ref w_ALWAYS)])) rfl (by rw [hml]; rfl) (lenOf pd_0 rfl) rfl (by show 2 * 0 + _ ≤ _; exact Nat.le_of_eq rfl) (hb hby d1_1))
  refine own_pre (T' := T1) (f' := (mkF m 4 #[rv w_ALWAYS, iv (0 : Int32)] [(.int (0 : Int32))])) (fun t k => st1 t k) ?_
  refine own_pre (T' := T1) (f' := (mkF m 42 #[rv w_ALWAYS, iv (0 : Int32)] [])) (fun t k => XS.tswIn X1.here hx rfl (pc0 := 4) (pc' := 42) rfl (hb hby d1_4) rfl (by decide) rfl (by decide) (by decide) k) ?_
  refine own_pre (T' := T1) (f' := (mkF m 43 #[rv w_ALWAYS, iv (0 : Int32)] [(.int (1 : Int32))])) (fun t k => XS.iconst X1.here hx rfl (hb hby d1_42) k) ?_
  refine own_pre (T' := T1) (f' := (mkF m 51 #[rv w_ALWAYS, iv (0 : Int32)] [(.int (1 : Int32))])) (fun t k => XS.goto X1.here hx rfl (pc0 := 43) (pc' := 51) rfl (hb hby d1_43) (by decide) (by decide) k) ?_
  exact own_retZ X1 hx hlk hret (hb hby d1_51) rfl (⟨rfl, e1, rfl⟩) (by decide) (by decide)
set_option maxRecDepth 65536 in
set_option maxHeartbeats 40000000 in
theorem own_ba_ALWAYS_1 (l : Launch) (Z : State) (a0 : Array Value) (hw : ∀ d ∈ tables_1, d.before a0 Z = true) (ws : List Jvm.Cond) (w_ALWAYS w_NEVER w_ON_ACTUAL_TRANSACTION : Addr) (h0 : Heap) (F : own_F Z h0 w_ALWAYS w_NEVER w_ON_ACTUAL_TRANSACTION)  :
    own_C l (⟨"com/example/uniform_transactions/uniformtransactions/ManagerSettings$Synchronization", "allowsIn", "(Z)Z"⟩ : MethodName) prog_10_method_4_code 2 (some .boolean) ws (own_R 1 12) #[(.ref w_ALWAYS), (.int (1 : Int32))] Z h0 (own_Q0 (some (.int (1 : Int32))) h0) := by
  have F0 := F
  obtain ⟨S_ALWAYS, E_ALWAYS, S_NEVER, E_NEVER, S_ON_ACTUAL_TRANSACTION, E_ON_ACTUAL_TRANSACTION, F_ordinal_ALWAYS, F_ordinal_NEVER, F_ordinal_ON_ACTUAL_TRANSACTION⟩ := F
  refine own_enter (LS := #[rv w_ALWAYS, iv (1 : Int32)]) (plainFor_of_name (by first | (simp [plainName, overriddenIn, x]; done) | decide +kernel)) (fun m => by first | (simp [entryFrame, mkF, argsToLocals, Value.category, maxLocals]; done) | rfl) ?_
  intro p e s m below meth c s₁ hx hby hml hown0 hnm hret hlk hZ X0 e0 hsh
  have hown : s.vm.findClass "com/example/uniform_transactions/uniformtransactions/ManagerSettings$Synchronization" = some m.cls := hown0
  refine own_pre (T' := s₁) (f' := (mkF m 1 #[rv w_ALWAYS, iv (1 : Int32)] [(.ref w_ALWAYS)])) (fun t k => XS.aloadN X0.here hx rfl (hb hby d1_0) rfl rfl k) ?_
  obtain ⟨T1, X1, e1, st1⟩ := own_pure (f := 0) (n := 0) (v := (some (.int (0 : Int32)))) (own_callU X0 hx hZ e0 (z := (⟨"com/example/uniform_transactions/uniformtransactions/ManagerSettings$Synchronization", "ordinal", "()I"⟩ : MethodName)) (y := (⟨"java/lang/Enum", "ordinal", "()I"⟩ : MethodName)) hown (hw _ (List.mem_of_getElem? (i := 9) rfl)) (hw _ (List.mem_of_getElem? (i := 10) rfl)) (hw _ (List.mem_of_getElem? (i := 11) rfl)) (hw _ (List.mem_of_getElem? (i := 13) rfl)) (hw _ (List.mem_of_getElem? (i := 12) rfl)) (hw _ (List.mem_of_getElem? (i := 15) rfl)) (hw _ (List.mem_of_getElem? (i := 14) rfl)) (by decide) 0 [] [] (own_bo_ALWAYS l Z a0 hw [] w_ALWAYS w_NEVER w_ON_ACTUAL_TRANSACTION h0 F0) (by decide) (by decide) (by decide) (by decide) E_ALWAYS (g := (mkF m 1 #[rv w_ALWAYS, iv (1 : Int32)] [(.ref w_ALWAYS)])) rfl (by rw [hml]; rfl) (lenOf pd_0 rfl) rfl (by show 2 * 0 + _ ≤ _; exact Nat.le_of_eq rfl) (hb hby d1_1))
  refine own_pre (T' := T1) (f' := (mkF m 4 #[rv w_ALWAYS, iv (1 : Int32)] [(.int (0 : Int32))])) (fun t k => st1 t k) ?_
  refine own_pre (T' := T1) (f' := (mkF m 42 #[rv w_ALWAYS, iv (1 : Int32)] [])) (fun t k => XS.tswIn X1.here hx rfl (pc0 := 4) (pc' := 42) rfl (hb hby d1_4) rfl (by decide) rfl (by decide) (by decide) k) ?_
  refine own_pre (T' := T1) (f' := (mkF m 43 #[rv w_ALWAYS, iv (1 : Int32)] [(.int (1 : Int32))])) (fun t k => XS.iconst X1.here hx rfl (hb hby d1_42) k) ?_
  refine own_pre (T' := T1) (f' := (mkF m 51 #[rv w_ALWAYS, iv (1 : Int32)] [(.int (1 : Int32))])) (fun t k => XS.goto X1.here hx rfl (pc0 := 43) (pc' := 51) rfl (hb hby d1_43) (by decide) (by decide) k) ?_
  exact own_retZ X1 hx hlk hret (hb hby d1_51) rfl (⟨rfl, e1, rfl⟩) (by decide) (by decide)
theorem d1_50 : decode prog_10_method_4_code 50 = .ok (.iconst 0, 1) := by decide +kernel
set_option maxRecDepth 65536 in
set_option maxHeartbeats 40000000 in
theorem own_ba_NEVER_0 (l : Launch) (Z : State) (a0 : Array Value) (hw : ∀ d ∈ tables_1, d.before a0 Z = true) (ws : List Jvm.Cond) (w_ALWAYS w_NEVER w_ON_ACTUAL_TRANSACTION : Addr) (h0 : Heap) (F : own_F Z h0 w_ALWAYS w_NEVER w_ON_ACTUAL_TRANSACTION)  :
    own_C l (⟨"com/example/uniform_transactions/uniformtransactions/ManagerSettings$Synchronization", "allowsIn", "(Z)Z"⟩ : MethodName) prog_10_method_4_code 2 (some .boolean) ws (own_R 1 12) #[(.ref w_NEVER), (.int (0 : Int32))] Z h0 (own_Q0 (some (.int (0 : Int32))) h0) := by
  have F0 := F
  obtain ⟨S_ALWAYS, E_ALWAYS, S_NEVER, E_NEVER, S_ON_ACTUAL_TRANSACTION, E_ON_ACTUAL_TRANSACTION, F_ordinal_ALWAYS, F_ordinal_NEVER, F_ordinal_ON_ACTUAL_TRANSACTION⟩ := F
  refine own_enter (LS := #[rv w_NEVER, iv (0 : Int32)]) (plainFor_of_name (by first | (simp [plainName, overriddenIn, x]; done) | decide +kernel)) (fun m => by first | (simp [entryFrame, mkF, argsToLocals, Value.category, maxLocals]; done) | rfl) ?_
  intro p e s m below meth c s₁ hx hby hml hown0 hnm hret hlk hZ X0 e0 hsh
  have hown : s.vm.findClass "com/example/uniform_transactions/uniformtransactions/ManagerSettings$Synchronization" = some m.cls := hown0
  refine own_pre (T' := s₁) (f' := (mkF m 1 #[rv w_NEVER, iv (0 : Int32)] [(.ref w_NEVER)])) (fun t k => XS.aloadN X0.here hx rfl (hb hby d1_0) rfl rfl k) ?_
  obtain ⟨T1, X1, e1, st1⟩ := own_pure (f := 0) (n := 0) (v := (some (.int (2 : Int32)))) (own_callU X0 hx hZ e0 (z := (⟨"com/example/uniform_transactions/uniformtransactions/ManagerSettings$Synchronization", "ordinal", "()I"⟩ : MethodName)) (y := (⟨"java/lang/Enum", "ordinal", "()I"⟩ : MethodName)) hown (hw _ (List.mem_of_getElem? (i := 9) rfl)) (hw _ (List.mem_of_getElem? (i := 10) rfl)) (hw _ (List.mem_of_getElem? (i := 11) rfl)) (hw _ (List.mem_of_getElem? (i := 13) rfl)) (hw _ (List.mem_of_getElem? (i := 12) rfl)) (hw _ (List.mem_of_getElem? (i := 15) rfl)) (hw _ (List.mem_of_getElem? (i := 14) rfl)) (by decide) 0 [] [] (own_bo_NEVER l Z a0 hw [] w_ALWAYS w_NEVER w_ON_ACTUAL_TRANSACTION h0 F0) (by decide) (by decide) (by decide) (by decide) E_NEVER (g := (mkF m 1 #[rv w_NEVER, iv (0 : Int32)] [(.ref w_NEVER)])) rfl (by rw [hml]; rfl) (lenOf pd_0 rfl) rfl (by show 2 * 0 + _ ≤ _; exact Nat.le_of_eq rfl) (hb hby d1_1))
  refine own_pre (T' := T1) (f' := (mkF m 4 #[rv w_NEVER, iv (0 : Int32)] [(.int (2 : Int32))])) (fun t k => st1 t k) ?_
  refine own_pre (T' := T1) (f' := (mkF m 50 #[rv w_NEVER, iv (0 : Int32)] [])) (fun t k => XS.tswIn X1.here hx rfl (pc0 := 4) (pc' := 50) rfl (hb hby d1_4) rfl (by decide) rfl (by decide) (by decide) k) ?_
  refine own_pre (T' := T1) (f' := (mkF m 51 #[rv w_NEVER, iv (0 : Int32)] [(.int (0 : Int32))])) (fun t k => XS.iconst X1.here hx rfl (hb hby d1_50) k) ?_
  exact own_retZ X1 hx hlk hret (hb hby d1_51) rfl (⟨rfl, e1, rfl⟩) (by decide) (by decide)
set_option maxRecDepth 65536 in
set_option maxHeartbeats 40000000 in
theorem own_ba_NEVER_1 (l : Launch) (Z : State) (a0 : Array Value) (hw : ∀ d ∈ tables_1, d.before a0 Z = true) (ws : List Jvm.Cond) (w_ALWAYS w_NEVER w_ON_ACTUAL_TRANSACTION : Addr) (h0 : Heap) (F : own_F Z h0 w_ALWAYS w_NEVER w_ON_ACTUAL_TRANSACTION)  :
    own_C l (⟨"com/example/uniform_transactions/uniformtransactions/ManagerSettings$Synchronization", "allowsIn", "(Z)Z"⟩ : MethodName) prog_10_method_4_code 2 (some .boolean) ws (own_R 1 12) #[(.ref w_NEVER), (.int (1 : Int32))] Z h0 (own_Q0 (some (.int (0 : Int32))) h0) := by
  have F0 := F
  obtain ⟨S_ALWAYS, E_ALWAYS, S_NEVER, E_NEVER, S_ON_ACTUAL_TRANSACTION, E_ON_ACTUAL_TRANSACTION, F_ordinal_ALWAYS, F_ordinal_NEVER, F_ordinal_ON_ACTUAL_TRANSACTION⟩ := F
  refine own_enter (LS := #[rv w_NEVER, iv (1 : Int32)]) (plainFor_of_name (by first | (simp [plainName, overriddenIn, x]; done) | decide +kernel)) (fun m => by first | (simp [entryFrame, mkF, argsToLocals, Value.category, maxLocals]; done) | rfl) ?_
  intro p e s m below meth c s₁ hx hby hml hown0 hnm hret hlk hZ X0 e0 hsh
  have hown : s.vm.findClass "com/example/uniform_transactions/uniformtransactions/ManagerSettings$Synchronization" = some m.cls := hown0
  refine own_pre (T' := s₁) (f' := (mkF m 1 #[rv w_NEVER, iv (1 : Int32)] [(.ref w_NEVER)])) (fun t k => XS.aloadN X0.here hx rfl (hb hby d1_0) rfl rfl k) ?_
  obtain ⟨T1, X1, e1, st1⟩ := own_pure (f := 0) (n := 0) (v := (some (.int (2 : Int32)))) (own_callU X0 hx hZ e0 (z := (⟨"com/example/uniform_transactions/uniformtransactions/ManagerSettings$Synchronization", "ordinal", "()I"⟩ : MethodName)) (y := (⟨"java/lang/Enum", "ordinal", "()I"⟩ : MethodName)) hown (hw _ (List.mem_of_getElem? (i := 9) rfl)) (hw _ (List.mem_of_getElem? (i := 10) rfl)) (hw _ (List.mem_of_getElem? (i := 11) rfl)) (hw _ (List.mem_of_getElem? (i := 13) rfl)) (hw _ (List.mem_of_getElem? (i := 12) rfl)) (hw _ (List.mem_of_getElem? (i := 15) rfl)) (hw _ (List.mem_of_getElem? (i := 14) rfl)) (by decide) 0 [] [] (own_bo_NEVER l Z a0 hw [] w_ALWAYS w_NEVER w_ON_ACTUAL_TRANSACTION h0 F0) (by decide) (by decide) (by decide) (by decide) E_NEVER (g := (mkF m 1 #[rv w_NEVER, iv (1 : Int32)] [(.ref w_NEVER)])) rfl (by rw [hml]; rfl) (lenOf pd_0 rfl) rfl (by show 2 * 0 + _ ≤ _; exact Nat.le_of_eq rfl) (hb hby d1_1))
  refine own_pre (T' := T1) (f' := (mkF m 4 #[rv w_NEVER, iv (1 : Int32)] [(.int (2 : Int32))])) (fun t k => st1 t k) ?_
  refine own_pre (T' := T1) (f' := (mkF m 50 #[rv w_NEVER, iv (1 : Int32)] [])) (fun t k => XS.tswIn X1.here hx rfl (pc0 := 4) (pc' := 50) rfl (hb hby d1_4) rfl (by decide) rfl (by decide) (by decide) k) ?_
  refine own_pre (T' := T1) (f' := (mkF m 51 #[rv w_NEVER, iv (1 : Int32)] [(.int (0 : Int32))])) (fun t k => XS.iconst X1.here hx rfl (hb hby d1_50) k) ?_
  exact own_retZ X1 hx hlk hret (hb hby d1_51) rfl (⟨rfl, e1, rfl⟩) (by decide) (by decide)
theorem d1_46 : decode prog_10_method_4_code 46 = .ok (.iload_n 1, 1) := by decide +kernel
theorem d1_47 : decode prog_10_method_4_code 47 = .ok (.goto 4, 3) := by decide +kernel
set_option maxRecDepth 65536 in
set_option maxHeartbeats 40000000 in
theorem own_ba_ON_ACTUAL_TRANSACTION_0 (l : Launch) (Z : State) (a0 : Array Value) (hw : ∀ d ∈ tables_1, d.before a0 Z = true) (ws : List Jvm.Cond) (w_ALWAYS w_NEVER w_ON_ACTUAL_TRANSACTION : Addr) (h0 : Heap) (F : own_F Z h0 w_ALWAYS w_NEVER w_ON_ACTUAL_TRANSACTION)  :
    own_C l (⟨"com/example/uniform_transactions/uniformtransactions/ManagerSettings$Synchronization", "allowsIn", "(Z)Z"⟩ : MethodName) prog_10_method_4_code 2 (some .boolean) ws (own_R 1 12) #[(.ref w_ON_ACTUAL_TRANSACTION), (.int (0 : Int32))] Z h0 (own_Q0 (some (.int (0 : Int32))) h0) := by
  have F0 := F
  obtain ⟨S_ALWAYS, E_ALWAYS, S_NEVER, E_NEVER, S_ON_ACTUAL_TRANSACTION, E_ON_ACTUAL_TRANSACTION, F_ordinal_ALWAYS, F_ordinal_NEVER, F_ordinal_ON_ACTUAL_TRANSACTION⟩ := F
  refine own_enter (LS := #[rv w_ON_ACTUAL_TRANSACTION, iv (0 : Int32)]) (plainFor_of_name (by first | (simp [plainName, overriddenIn, x]; done) | decide +kernel)) (fun m => by first | (simp [entryFrame, mkF, argsToLocals, Value.category, maxLocals]; done) | rfl) ?_
  intro p e s m below meth c s₁ hx hby hml hown0 hnm hret hlk hZ X0 e0 hsh
  have hown : s.vm.findClass "com/example/uniform_transactions/uniformtransactions/ManagerSettings$Synchronization" = some m.cls := hown0
  refine own_pre (T' := s₁) (f' := (mkF m 1 #[rv w_ON_ACTUAL_TRANSACTION, iv (0 : Int32)] [(.ref w_ON_ACTUAL_TRANSACTION)])) (fun t k => XS.aloadN X0.here hx rfl (hb hby d1_0) rfl rfl k) ?_
  obtain ⟨T1, X1, e1, st1⟩ := own_pure (f := 0) (n := 0) (v := (some (.int (1 : Int32)))) (own_callU X0 hx hZ e0 (z := (⟨"com/example/uniform_transactions/uniformtransactions/ManagerSettings$Synchronization", "ordinal", "()I"⟩ : MethodName)) (y := (⟨"java/lang/Enum", "ordinal", "()I"⟩ : MethodName)) hown (hw _ (List.mem_of_getElem? (i := 9) rfl)) (hw _ (List.mem_of_getElem? (i := 10) rfl)) (hw _ (List.mem_of_getElem? (i := 11) rfl)) (hw _ (List.mem_of_getElem? (i := 13) rfl)) (hw _ (List.mem_of_getElem? (i := 12) rfl)) (hw _ (List.mem_of_getElem? (i := 15) rfl)) (hw _ (List.mem_of_getElem? (i := 14) rfl)) (by decide) 0 [] [] (own_bo_ON_ACTUAL_TRANSACTION l Z a0 hw [] w_ALWAYS w_NEVER w_ON_ACTUAL_TRANSACTION h0 F0) (by decide) (by decide) (by decide) (by decide) E_ON_ACTUAL_TRANSACTION (g := (mkF m 1 #[rv w_ON_ACTUAL_TRANSACTION, iv (0 : Int32)] [(.ref w_ON_ACTUAL_TRANSACTION)])) rfl (by rw [hml]; rfl) (lenOf pd_0 rfl) rfl (by show 2 * 0 + _ ≤ _; exact Nat.le_of_eq rfl) (hb hby d1_1))
  refine own_pre (T' := T1) (f' := (mkF m 4 #[rv w_ON_ACTUAL_TRANSACTION, iv (0 : Int32)] [(.int (1 : Int32))])) (fun t k => st1 t k) ?_
  refine own_pre (T' := T1) (f' := (mkF m 46 #[rv w_ON_ACTUAL_TRANSACTION, iv (0 : Int32)] [])) (fun t k => XS.tswIn X1.here hx rfl (pc0 := 4) (pc' := 46) rfl (hb hby d1_4) rfl (by decide) rfl (by decide) (by decide) k) ?_
  refine own_pre (T' := T1) (f' := (mkF m 47 #[rv w_ON_ACTUAL_TRANSACTION, iv (0 : Int32)] [(.int (0 : Int32))])) (fun t k => XS.iloadN X1.here hx rfl (hb hby d1_46) rfl k) ?_
  refine own_pre (T' := T1) (f' := (mkF m 51 #[rv w_ON_ACTUAL_TRANSACTION, iv (0 : Int32)] [(.int (0 : Int32))])) (fun t k => XS.goto X1.here hx rfl (pc0 := 47) (pc' := 51) rfl (hb hby d1_47) (by decide) (by decide) k) ?_
  exact own_retZ X1 hx hlk hret (hb hby d1_51) rfl (⟨rfl, e1, rfl⟩) (by decide) (by decide)
set_option maxRecDepth 65536 in
set_option maxHeartbeats 40000000 in
theorem own_ba_ON_ACTUAL_TRANSACTION_1 (l : Launch) (Z : State) (a0 : Array Value) (hw : ∀ d ∈ tables_1, d.before a0 Z = true) (ws : List Jvm.Cond) (w_ALWAYS w_NEVER w_ON_ACTUAL_TRANSACTION : Addr) (h0 : Heap) (F : own_F Z h0 w_ALWAYS w_NEVER w_ON_ACTUAL_TRANSACTION)  :
    own_C l (⟨"com/example/uniform_transactions/uniformtransactions/ManagerSettings$Synchronization", "allowsIn", "(Z)Z"⟩ : MethodName) prog_10_method_4_code 2 (some .boolean) ws (own_R 1 12) #[(.ref w_ON_ACTUAL_TRANSACTION), (.int (1 : Int32))] Z h0 (own_Q0 (some (.int (1 : Int32))) h0) := by
  have F0 := F
  obtain ⟨S_ALWAYS, E_ALWAYS, S_NEVER, E_NEVER, S_ON_ACTUAL_TRANSACTION, E_ON_ACTUAL_TRANSACTION, F_ordinal_ALWAYS, F_ordinal_NEVER, F_ordinal_ON_ACTUAL_TRANSACTION⟩ := F
  refine own_enter (LS := #[rv w_ON_ACTUAL_TRANSACTION, iv (1 : Int32)]) (plainFor_of_name (by first | (simp [plainName, overriddenIn, x]; done) | decide +kernel)) (fun m => by first | (simp [entryFrame, mkF, argsToLocals, Value.category, maxLocals]; done) | rfl) ?_
  intro p e s m below meth c s₁ hx hby hml hown0 hnm hret hlk hZ X0 e0 hsh
  have hown : s.vm.findClass "com/example/uniform_transactions/uniformtransactions/ManagerSettings$Synchronization" = some m.cls := hown0
  refine own_pre (T' := s₁) (f' := (mkF m 1 #[rv w_ON_ACTUAL_TRANSACTION, iv (1 : Int32)] [(.ref w_ON_ACTUAL_TRANSACTION)])) (fun t k => XS.aloadN X0.here hx rfl (hb hby d1_0) rfl rfl k) ?_
  obtain ⟨T1, X1, e1, st1⟩ := own_pure (f := 0) (n := 0) (v := (some (.int (1 : Int32)))) (own_callU X0 hx hZ e0 (z := (⟨"com/example/uniform_transactions/uniformtransactions/ManagerSettings$Synchronization", "ordinal", "()I"⟩ : MethodName)) (y := (⟨"java/lang/Enum", "ordinal", "()I"⟩ : MethodName)) hown (hw _ (List.mem_of_getElem? (i := 9) rfl)) (hw _ (List.mem_of_getElem? (i := 10) rfl)) (hw _ (List.mem_of_getElem? (i := 11) rfl)) (hw _ (List.mem_of_getElem? (i := 13) rfl)) (hw _ (List.mem_of_getElem? (i := 12) rfl)) (hw _ (List.mem_of_getElem? (i := 15) rfl)) (hw _ (List.mem_of_getElem? (i := 14) rfl)) (by decide) 0 [] [] (own_bo_ON_ACTUAL_TRANSACTION l Z a0 hw [] w_ALWAYS w_NEVER w_ON_ACTUAL_TRANSACTION h0 F0) (by decide) (by decide) (by decide) (by decide) E_ON_ACTUAL_TRANSACTION (g := (mkF m 1 #[rv w_ON_ACTUAL_TRANSACTION, iv (1 : Int32)] [(.ref w_ON_ACTUAL_TRANSACTION)])) rfl (by rw [hml]; rfl) (lenOf pd_0 rfl) rfl (by show 2 * 0 + _ ≤ _; exact Nat.le_of_eq rfl) (hb hby d1_1))
  refine own_pre (T' := T1) (f' := (mkF m 4 #[rv w_ON_ACTUAL_TRANSACTION, iv (1 : Int32)] [(.int (1 : Int32))])) (fun t k => st1 t k) ?_
  refine own_pre (T' := T1) (f' := (mkF m 46 #[rv w_ON_ACTUAL_TRANSACTION, iv (1 : Int32)] [])) (fun t k => XS.tswIn X1.here hx rfl (pc0 := 4) (pc' := 46) rfl (hb hby d1_4) rfl (by decide) rfl (by decide) (by decide) k) ?_
  refine own_pre (T' := T1) (f' := (mkF m 47 #[rv w_ON_ACTUAL_TRANSACTION, iv (1 : Int32)] [(.int (1 : Int32))])) (fun t k => XS.iloadN X1.here hx rfl (hb hby d1_46) rfl k) ?_
  refine own_pre (T' := T1) (f' := (mkF m 51 #[rv w_ON_ACTUAL_TRANSACTION, iv (1 : Int32)] [(.int (1 : Int32))])) (fun t k => XS.goto X1.here hx rfl (pc0 := 47) (pc' := 51) rfl (hb hby d1_47) (by decide) (by decide) k) ?_
  exact own_retZ X1 hx hlk hret (hb hby d1_51) rfl (⟨rfl, e1, rfl⟩) (by decide) (by decide)
set_option maxRecDepth 65536 in
set_option maxHeartbeats 40000000 in
theorem own_law (l : Launch) (Z : State) (a0 : Array Value) (hw : ∀ d ∈ tables_1, d.before a0 Z = true) (ws : List Jvm.Cond) (w_ALWAYS w_NEVER w_ON_ACTUAL_TRANSACTION : Addr) (h0 : Heap) (F : own_F Z h0 w_ALWAYS w_NEVER w_ON_ACTUAL_TRANSACTION) (p1 : Int32) :
    own_C l x code maxLocals ret ws room_1 #[(.int p1)] Z h0 (fun v _ L => v = some (.int (1 : Int32)) ∧ Fr h0.size L) := by
  have F0 := F
  obtain ⟨S_ALWAYS, E_ALWAYS, S_NEVER, E_NEVER, S_ON_ACTUAL_TRANSACTION, E_ON_ACTUAL_TRANSACTION, F_ordinal_ALWAYS, F_ordinal_NEVER, F_ordinal_ON_ACTUAL_TRANSACTION⟩ := F
  refine own_enter (LS := #[iv p1, .unset, .unset, .unset, .unset, .unset, .unset]) (plainFor_of_name (by first | (simp [plainName, overriddenIn, x]; done) | decide +kernel)) (fun m => by first | (simp [entryFrame, mkF, argsToLocals, Value.category, maxLocals]; done) | rfl) ?_
  intro p e s m below meth c s₁ hx hby hml hown0 hnm hret hlk hZ X0 e0 hsh
  have hown : s.vm.findClass "com/example/uniform_transactions/uniformtransactions/SynchronizationAllowsInPinLaw" = some m.cls := hown0
  refine own_pre (T' := s₁) (f' := (mkF m 1 #[iv p1, .unset, .unset, .unset, .unset, .unset, .unset] [(.int p1)])) (fun t k => XS.iloadN X0.here hx rfl (hb hby at_0) rfl k) ?_
  refine own_pre (T' := s₁) (f' := (mkF m 3 #[iv p1, .unset, .unset, .unset, .unset, .unset, .unset] [(.int (2147483647 : Int32)), (.int p1)])) (fun t k => X0.ldcInt hx hown (mvT hZ (hw _ (List.mem_of_getElem? (i := 0) rfl))) (g := (mkF m 1 #[iv p1, .unset, .unset, .unset, .unset, .unset, .unset] [(.int p1)])) rfl (hb hby at_1) t k) ?_
  refine own_pre (T' := s₁) (f' := (mkF m 4 #[iv p1, .unset, .unset, .unset, .unset, .unset, .unset] [(.int (p1 &&& (2147483647 : Int32)))])) (fun t k => XS.iand X0.here hx rfl (hb hby at_3) rfl k) ?_
  refine own_pre (T' := s₁) (f' := (mkF m 5 #[iv p1, .unset, .unset, .unset, .unset, .unset, .unset] [(.int (3 : Int32)), (.int (p1 &&& (2147483647 : Int32)))])) (fun t k => XS.iconst X0.here hx rfl (hb hby at_4) k) ?_
  refine own_pre (T' := s₁) (f' := (mkF m 6 #[iv p1, .unset, .unset, .unset, .unset, .unset, .unset] [(.int ((p1 &&& (2147483647 : Int32)) % (3 : Int32)))])) (fun t k => iremM X0 hx rfl (hb hby at_5) rfl (by decide) k) ?_
  rcases own_r3 p1 with hj | hj | hj
  · rw [hj]
    refine own_pre (T' := s₁) (f' := (mkF m 7 #[iv p1, iv (0 : Int32), .unset, .unset, .unset, .unset, .unset] [])) (fun t k => XS.istoreN X0.here hx rfl (hb hby at_6) rfl (l' := #[iv p1, iv (0 : Int32), .unset, .unset, .unset, .unset, .unset]) rfl k) ?_
    refine own_pre (T' := s₁) (f' := (mkF m 8 #[iv p1, iv (0 : Int32), .unset, .unset, .unset, .unset, .unset] [(.int (0 : Int32))])) (fun t k => XS.iloadN X0.here hx rfl (hb hby at_7) rfl k) ?_
    refine own_pre (T' := s₁) (f' := (mkF m 11 #[iv p1, iv (0 : Int32), .unset, .unset, .unset, .unset, .unset] [])) (fun t k => XS.ifNo X0.here hx rfl (hb hby at_8) rfl ((if0 _ _).trans (teq (by decide : (0 : Int32) = (0 : Int32))).2) k) ?_
    obtain ⟨T1, X1, e1, st1⟩ := getS2 X0 hx hZ hown (host := "") (Or.inl (hw _ (List.mem_of_getElem? (i := 1) rfl))) Via.refl e0 S_ALWAYS (g := (mkF m 11 #[iv p1, iv (0 : Int32), .unset, .unset, .unset, .unset, .unset] [])) rfl (hb hby at_11)
    refine own_pre (T' := T1) (f' := (mkF m 14 #[iv p1, iv (0 : Int32), .unset, .unset, .unset, .unset, .unset] [(.ref w_ALWAYS)])) (fun t k => st1 t k) ?_
    refine own_pre (T' := T1) (f' := (mkF m 15 #[iv p1, iv (0 : Int32), rv w_ALWAYS, .unset, .unset, .unset, .unset] [])) (fun t k => XS.astoreN X1.here hx rfl (hb hby at_14) rfl rfl (l' := #[iv p1, iv (0 : Int32), rv w_ALWAYS, .unset, .unset, .unset, .unset]) rfl k) ?_
    refine own_pre (T' := T1) (f' := (mkF m 34 #[iv p1, iv (0 : Int32), rv w_ALWAYS, .unset, .unset, .unset, .unset] [])) (fun t k => XS.goto X1.here hx rfl (pc0 := 15) (pc' := 34) rfl (hb hby at_15) (by decide) (by decide) k) ?_
    refine own_pre (T' := T1) (f' := (mkF m 35 #[iv p1, iv (0 : Int32), rv w_ALWAYS, .unset, .unset, .unset, .unset] [(.ref w_ALWAYS)])) (fun t k => XS.aloadN X1.here hx rfl (hb hby at_34) rfl rfl k) ?_
    refine own_pre (T' := T1) (f' := (mkF m 36 #[iv p1, iv (0 : Int32), rv w_ALWAYS, .unset, .unset, .unset, .unset] [(.int (1 : Int32)), (.ref w_ALWAYS)])) (fun t k => XS.iconst X1.here hx rfl (hb hby at_35) k) ?_
    obtain ⟨T2, X2, e2, st2⟩ := own_pure (f := 1) (n := 12) (v := (some (.int (1 : Int32)))) (own_callV X1 hx hZ e1 (y := (⟨"com/example/uniform_transactions/uniformtransactions/ManagerSettings$Synchronization", "allowsIn", "(Z)Z"⟩ : MethodName)) hown (hw _ (List.mem_of_getElem? (i := 4) rfl)) (hw _ (List.mem_of_getElem? (i := 5) rfl)) (hw _ (List.mem_of_getElem? (i := 7) rfl)) (hw _ (List.mem_of_getElem? (i := 6) rfl)) (hw _ (List.mem_of_getElem? (i := 8) rfl)) (hw _ (List.mem_of_getElem? (i := 2) rfl)) (by decide) 0 [(.int (1 : Int32))] [] (own_ba_ALWAYS_1 l Z a0 hw [] w_ALWAYS w_NEVER w_ON_ACTUAL_TRANSACTION h0 F0) (by decide) (by decide) (by decide) (by decide) E_ALWAYS (g := (mkF m 36 #[iv p1, iv (0 : Int32), rv w_ALWAYS, .unset, .unset, .unset, .unset] [(.int (1 : Int32)), (.ref w_ALWAYS)])) rfl (by rw [hml]; rfl) (lenOf pd_1 rfl) rfl (by show 2 * 0 + _ ≤ _; exact Nat.le_of_eq rfl) (hb hby at_36))
    refine own_pre (T' := T2) (f' := (mkF m 39 #[iv p1, iv (0 : Int32), rv w_ALWAYS, .unset, .unset, .unset, .unset] [(.int (1 : Int32))])) (fun t k => st2 t k) ?_
    refine own_pre (T' := T2) (f' := (mkF m 40 #[iv p1, iv (0 : Int32), rv w_ALWAYS, iv (1 : Int32), .unset, .unset, .unset] [])) (fun t k => XS.istoreN X2.here hx rfl (hb hby at_39) rfl (l' := #[iv p1, iv (0 : Int32), rv w_ALWAYS, iv (1 : Int32), .unset, .unset, .unset]) rfl k) ?_
    refine own_pre (T' := T2) (f' := (mkF m 41 #[iv p1, iv (0 : Int32), rv w_ALWAYS, iv (1 : Int32), .unset, .unset, .unset] [(.ref w_ALWAYS)])) (fun t k => XS.aloadN X2.here hx rfl (hb hby at_40) rfl rfl k) ?_
    refine own_pre (T' := T2) (f' := (mkF m 42 #[iv p1, iv (0 : Int32), rv w_ALWAYS, iv (1 : Int32), .unset, .unset, .unset] [(.int (0 : Int32)), (.ref w_ALWAYS)])) (fun t k => XS.iconst X2.here hx rfl (hb hby at_41) k) ?_
    obtain ⟨T3, X3, e3, st3⟩ := own_pure (f := 1) (n := 12) (v := (some (.int (1 : Int32)))) (own_callV X2 hx hZ e2 (y := (⟨"com/example/uniform_transactions/uniformtransactions/ManagerSettings$Synchronization", "allowsIn", "(Z)Z"⟩ : MethodName)) hown (hw _ (List.mem_of_getElem? (i := 4) rfl)) (hw _ (List.mem_of_getElem? (i := 5) rfl)) (hw _ (List.mem_of_getElem? (i := 7) rfl)) (hw _ (List.mem_of_getElem? (i := 6) rfl)) (hw _ (List.mem_of_getElem? (i := 8) rfl)) (hw _ (List.mem_of_getElem? (i := 2) rfl)) (by decide) 0 [(.int (0 : Int32))] [] (own_ba_ALWAYS_0 l Z a0 hw [] w_ALWAYS w_NEVER w_ON_ACTUAL_TRANSACTION h0 F0) (by decide) (by decide) (by decide) (by decide) E_ALWAYS (g := (mkF m 42 #[iv p1, iv (0 : Int32), rv w_ALWAYS, iv (1 : Int32), .unset, .unset, .unset] [(.int (0 : Int32)), (.ref w_ALWAYS)])) rfl (by rw [hml]; rfl) (lenOf pd_1 rfl) rfl (by show 2 * 0 + _ ≤ _; exact Nat.le_of_eq rfl) (hb hby at_42))
    refine own_pre (T' := T3) (f' := (mkF m 45 #[iv p1, iv (0 : Int32), rv w_ALWAYS, iv (1 : Int32), .unset, .unset, .unset] [(.int (1 : Int32))])) (fun t k => st3 t k) ?_
    refine own_pre (T' := T3) (f' := (mkF m 47 #[iv p1, iv (0 : Int32), rv w_ALWAYS, iv (1 : Int32), iv (1 : Int32), .unset, .unset] [])) (fun t k => XS.istore X3.here hx rfl (hb hby at_45) rfl (l' := #[iv p1, iv (0 : Int32), rv w_ALWAYS, iv (1 : Int32), iv (1 : Int32), .unset, .unset]) rfl k) ?_
    refine own_pre (T' := T3) (f' := (mkF m 48 #[iv p1, iv (0 : Int32), rv w_ALWAYS, iv (1 : Int32), iv (1 : Int32), .unset, .unset] [(.int (0 : Int32))])) (fun t k => XS.iloadN X3.here hx rfl (hb hby at_47) rfl k) ?_
    refine own_pre (T' := T3) (f' := (mkF m 49 #[iv p1, iv (0 : Int32), rv w_ALWAYS, iv (1 : Int32), iv (1 : Int32), .unset, .unset] [(.int (2 : Int32)), (.int (0 : Int32))])) (fun t k => XS.iconst X3.here hx rfl (hb hby at_48) k) ?_
    refine own_pre (T' := T3) (f' := (mkF m 52 #[iv p1, iv (0 : Int32), rv w_ALWAYS, iv (1 : Int32), iv (1 : Int32), .unset, .unset] [])) (fun t k => XS.icmpNo X3.here hx rfl (hb hby at_49) rfl (feq (by decide : ¬ ((0 : Int32) = (2 : Int32)))).1 k) ?_
    refine own_pre (T' := T3) (f' := (mkF m 53 #[iv p1, iv (0 : Int32), rv w_ALWAYS, iv (1 : Int32), iv (1 : Int32), .unset, .unset] [(.int (1 : Int32))])) (fun t k => XS.iconst X3.here hx rfl (hb hby at_52) k) ?_
    refine own_pre (T' := T3) (f' := (mkF m 57 #[iv p1, iv (0 : Int32), rv w_ALWAYS, iv (1 : Int32), iv (1 : Int32), .unset, .unset] [(.int (1 : Int32))])) (fun t k => XS.goto X3.here hx rfl (pc0 := 53) (pc' := 57) rfl (hb hby at_53) (by decide) (by decide) k) ?_
    refine own_pre (T' := T3) (f' := (mkF m 59 #[iv p1, iv (0 : Int32), rv w_ALWAYS, iv (1 : Int32), iv (1 : Int32), iv (1 : Int32), .unset] [])) (fun t k => XS.istore X3.here hx rfl (hb hby at_57) rfl (l' := #[iv p1, iv (0 : Int32), rv w_ALWAYS, iv (1 : Int32), iv (1 : Int32), iv (1 : Int32), .unset]) rfl k) ?_
    refine own_pre (T' := T3) (f' := (mkF m 60 #[iv p1, iv (0 : Int32), rv w_ALWAYS, iv (1 : Int32), iv (1 : Int32), iv (1 : Int32), .unset] [(.int (0 : Int32))])) (fun t k => XS.iloadN X3.here hx rfl (hb hby at_59) rfl k) ?_
    refine own_pre (T' := T3) (f' := (mkF m 63 #[iv p1, iv (0 : Int32), rv w_ALWAYS, iv (1 : Int32), iv (1 : Int32), iv (1 : Int32), .unset] [])) (fun t k => XS.ifNo X3.here hx rfl (hb hby at_60) rfl ((if0 _ _).trans (teq (by decide : (0 : Int32) = (0 : Int32))).2) k) ?_
    refine own_pre (T' := T3) (f' := (mkF m 64 #[iv p1, iv (0 : Int32), rv w_ALWAYS, iv (1 : Int32), iv (1 : Int32), iv (1 : Int32), .unset] [(.int (1 : Int32))])) (fun t k => XS.iconst X3.here hx rfl (hb hby at_63) k) ?_
    refine own_pre (T' := T3) (f' := (mkF m 68 #[iv p1, iv (0 : Int32), rv w_ALWAYS, iv (1 : Int32), iv (1 : Int32), iv (1 : Int32), .unset] [(.int (1 : Int32))])) (fun t k => XS.goto X3.here hx rfl (pc0 := 64) (pc' := 68) rfl (hb hby at_64) (by decide) (by decide) k) ?_
    refine own_pre (T' := T3) (f' := (mkF m 70 #[iv p1, iv (0 : Int32), rv w_ALWAYS, iv (1 : Int32), iv (1 : Int32), iv (1 : Int32), iv (1 : Int32)] [])) (fun t k => XS.istore X3.here hx rfl (hb hby at_68) rfl (l' := #[iv p1, iv (0 : Int32), rv w_ALWAYS, iv (1 : Int32), iv (1 : Int32), iv (1 : Int32), iv (1 : Int32)]) rfl k) ?_
    refine own_pre (T' := T3) (f' := (mkF m 71 #[iv p1, iv (0 : Int32), rv w_ALWAYS, iv (1 : Int32), iv (1 : Int32), iv (1 : Int32), iv (1 : Int32)] [(.int (1 : Int32))])) (fun t k => XS.iloadN X3.here hx rfl (hb hby at_70) rfl k) ?_
    refine own_pre (T' := T3) (f' := (mkF m 73 #[iv p1, iv (0 : Int32), rv w_ALWAYS, iv (1 : Int32), iv (1 : Int32), iv (1 : Int32), iv (1 : Int32)] [(.int (1 : Int32)), (.int (1 : Int32))])) (fun t k => XS.iload X3.here hx rfl (hb hby at_71) rfl k) ?_
    refine own_pre (T' := T3) (f' := (mkF m 76 #[iv p1, iv (0 : Int32), rv w_ALWAYS, iv (1 : Int32), iv (1 : Int32), iv (1 : Int32), iv (1 : Int32)] [])) (fun t k => XS.icmpNo X3.here hx rfl (hb hby at_73) rfl (teq (by decide : (1 : Int32) = (1 : Int32))).2 k) ?_
    refine own_pre (T' := T3) (f' := (mkF m 78 #[iv p1, iv (0 : Int32), rv w_ALWAYS, iv (1 : Int32), iv (1 : Int32), iv (1 : Int32), iv (1 : Int32)] [(.int (1 : Int32))])) (fun t k => XS.iload X3.here hx rfl (hb hby at_76) rfl k) ?_
    refine own_pre (T' := T3) (f' := (mkF m 80 #[iv p1, iv (0 : Int32), rv w_ALWAYS, iv (1 : Int32), iv (1 : Int32), iv (1 : Int32), iv (1 : Int32)] [(.int (1 : Int32)), (.int (1 : Int32))])) (fun t k => XS.iload X3.here hx rfl (hb hby at_78) rfl k) ?_
    refine own_pre (T' := T3) (f' := (mkF m 83 #[iv p1, iv (0 : Int32), rv w_ALWAYS, iv (1 : Int32), iv (1 : Int32), iv (1 : Int32), iv (1 : Int32)] [])) (fun t k => XS.icmpNo X3.here hx rfl (hb hby at_80) rfl (teq (by decide : (1 : Int32) = (1 : Int32))).2 k) ?_
    refine own_pre (T' := T3) (f' := (mkF m 84 #[iv p1, iv (0 : Int32), rv w_ALWAYS, iv (1 : Int32), iv (1 : Int32), iv (1 : Int32), iv (1 : Int32)] [(.int (1 : Int32))])) (fun t k => XS.iconst X3.here hx rfl (hb hby at_83) k) ?_
    refine own_pre (T' := T3) (f' := (mkF m 88 #[iv p1, iv (0 : Int32), rv w_ALWAYS, iv (1 : Int32), iv (1 : Int32), iv (1 : Int32), iv (1 : Int32)] [(.int (1 : Int32))])) (fun t k => XS.goto X3.here hx rfl (pc0 := 84) (pc' := 88) rfl (hb hby at_84) (by decide) (by decide) k) ?_
    exact own_retZ X3 hx hlk hret (hb hby at_88) rfl (⟨rfl, Fr.nil _⟩) (by decide) (by decide)
  · rw [hj]
    refine own_pre (T' := s₁) (f' := (mkF m 7 #[iv p1, iv (1 : Int32), .unset, .unset, .unset, .unset, .unset] [])) (fun t k => XS.istoreN X0.here hx rfl (hb hby at_6) rfl (l' := #[iv p1, iv (1 : Int32), .unset, .unset, .unset, .unset, .unset]) rfl k) ?_
    refine own_pre (T' := s₁) (f' := (mkF m 8 #[iv p1, iv (1 : Int32), .unset, .unset, .unset, .unset, .unset] [(.int (1 : Int32))])) (fun t k => XS.iloadN X0.here hx rfl (hb hby at_7) rfl k) ?_
    refine own_pre (T' := s₁) (f' := (mkF m 18 #[iv p1, iv (1 : Int32), .unset, .unset, .unset, .unset, .unset] [])) (fun t k => XS.ifYes X0.here hx rfl (pc0 := 8) (pc' := 18) rfl (hb hby at_8) rfl ((if0 _ _).trans (feq (by decide : ¬ ((1 : Int32) = (0 : Int32)))).2) (by decide) (by decide) k) ?_
    refine own_pre (T' := s₁) (f' := (mkF m 19 #[iv p1, iv (1 : Int32), .unset, .unset, .unset, .unset, .unset] [(.int (1 : Int32))])) (fun t k => XS.iloadN X0.here hx rfl (hb hby at_18) rfl k) ?_
    refine own_pre (T' := s₁) (f' := (mkF m 20 #[iv p1, iv (1 : Int32), .unset, .unset, .unset, .unset, .unset] [(.int (1 : Int32)), (.int (1 : Int32))])) (fun t k => XS.iconst X0.here hx rfl (hb hby at_19) k) ?_
    refine own_pre (T' := s₁) (f' := (mkF m 23 #[iv p1, iv (1 : Int32), .unset, .unset, .unset, .unset, .unset] [])) (fun t k => XS.icmpNo X0.here hx rfl (hb hby at_20) rfl (teq (by decide : (1 : Int32) = (1 : Int32))).2 k) ?_
    obtain ⟨T4, X4, e4, st4⟩ := getS2 X0 hx hZ hown (host := "") (Or.inl (hw _ (List.mem_of_getElem? (i := 20) rfl))) Via.refl e0 S_ON_ACTUAL_TRANSACTION (g := (mkF m 23 #[iv p1, iv (1 : Int32), .unset, .unset, .unset, .unset, .unset] [])) rfl (hb hby at_23)
    refine own_pre (T' := T4) (f' := (mkF m 26 #[iv p1, iv (1 : Int32), .unset, .unset, .unset, .unset, .unset] [(.ref w_ON_ACTUAL_TRANSACTION)])) (fun t k => st4 t k) ?_
    refine own_pre (T' := T4) (f' := (mkF m 27 #[iv p1, iv (1 : Int32), rv w_ON_ACTUAL_TRANSACTION, .unset, .unset, .unset, .unset] [])) (fun t k => XS.astoreN X4.here hx rfl (hb hby at_26) rfl rfl (l' := #[iv p1, iv (1 : Int32), rv w_ON_ACTUAL_TRANSACTION, .unset, .unset, .unset, .unset]) rfl k) ?_
    refine own_pre (T' := T4) (f' := (mkF m 34 #[iv p1, iv (1 : Int32), rv w_ON_ACTUAL_TRANSACTION, .unset, .unset, .unset, .unset] [])) (fun t k => XS.goto X4.here hx rfl (pc0 := 27) (pc' := 34) rfl (hb hby at_27) (by decide) (by decide) k) ?_
    refine own_pre (T' := T4) (f' := (mkF m 35 #[iv p1, iv (1 : Int32), rv w_ON_ACTUAL_TRANSACTION, .unset, .unset, .unset, .unset] [(.ref w_ON_ACTUAL_TRANSACTION)])) (fun t k => XS.aloadN X4.here hx rfl (hb hby at_34) rfl rfl k) ?_
    refine own_pre (T' := T4) (f' := (mkF m 36 #[iv p1, iv (1 : Int32), rv w_ON_ACTUAL_TRANSACTION, .unset, .unset, .unset, .unset] [(.int (1 : Int32)), (.ref w_ON_ACTUAL_TRANSACTION)])) (fun t k => XS.iconst X4.here hx rfl (hb hby at_35) k) ?_
    obtain ⟨T5, X5, e5, st5⟩ := own_pure (f := 1) (n := 12) (v := (some (.int (1 : Int32)))) (own_callV X4 hx hZ e4 (y := (⟨"com/example/uniform_transactions/uniformtransactions/ManagerSettings$Synchronization", "allowsIn", "(Z)Z"⟩ : MethodName)) hown (hw _ (List.mem_of_getElem? (i := 4) rfl)) (hw _ (List.mem_of_getElem? (i := 5) rfl)) (hw _ (List.mem_of_getElem? (i := 7) rfl)) (hw _ (List.mem_of_getElem? (i := 6) rfl)) (hw _ (List.mem_of_getElem? (i := 8) rfl)) (hw _ (List.mem_of_getElem? (i := 2) rfl)) (by decide) 0 [(.int (1 : Int32))] [] (own_ba_ON_ACTUAL_TRANSACTION_1 l Z a0 hw [] w_ALWAYS w_NEVER w_ON_ACTUAL_TRANSACTION h0 F0) (by decide) (by decide) (by decide) (by decide) E_ON_ACTUAL_TRANSACTION (g := (mkF m 36 #[iv p1, iv (1 : Int32), rv w_ON_ACTUAL_TRANSACTION, .unset, .unset, .unset, .unset] [(.int (1 : Int32)), (.ref w_ON_ACTUAL_TRANSACTION)])) rfl (by rw [hml]; rfl) (lenOf pd_1 rfl) rfl (by show 2 * 0 + _ ≤ _; exact Nat.le_of_eq rfl) (hb hby at_36))
    refine own_pre (T' := T5) (f' := (mkF m 39 #[iv p1, iv (1 : Int32), rv w_ON_ACTUAL_TRANSACTION, .unset, .unset, .unset, .unset] [(.int (1 : Int32))])) (fun t k => st5 t k) ?_
    refine own_pre (T' := T5) (f' := (mkF m 40 #[iv p1, iv (1 : Int32), rv w_ON_ACTUAL_TRANSACTION, iv (1 : Int32), .unset, .unset, .unset] [])) (fun t k => XS.istoreN X5.here hx rfl (hb hby at_39) rfl (l' := #[iv p1, iv (1 : Int32), rv w_ON_ACTUAL_TRANSACTION, iv (1 : Int32), .unset, .unset, .unset]) rfl k) ?_
    refine own_pre (T' := T5) (f' := (mkF m 41 #[iv p1, iv (1 : Int32), rv w_ON_ACTUAL_TRANSACTION, iv (1 : Int32), .unset, .unset, .unset] [(.ref w_ON_ACTUAL_TRANSACTION)])) (fun t k => XS.aloadN X5.here hx rfl (hb hby at_40) rfl rfl k) ?_
    refine own_pre (T' := T5) (f' := (mkF m 42 #[iv p1, iv (1 : Int32), rv w_ON_ACTUAL_TRANSACTION, iv (1 : Int32), .unset, .unset, .unset] [(.int (0 : Int32)), (.ref w_ON_ACTUAL_TRANSACTION)])) (fun t k => XS.iconst X5.here hx rfl (hb hby at_41) k) ?_
    obtain ⟨T6, X6, e6, st6⟩ := own_pure (f := 1) (n := 12) (v := (some (.int (0 : Int32)))) (own_callV X5 hx hZ e5 (y := (⟨"com/example/uniform_transactions/uniformtransactions/ManagerSettings$Synchronization", "allowsIn", "(Z)Z"⟩ : MethodName)) hown (hw _ (List.mem_of_getElem? (i := 4) rfl)) (hw _ (List.mem_of_getElem? (i := 5) rfl)) (hw _ (List.mem_of_getElem? (i := 7) rfl)) (hw _ (List.mem_of_getElem? (i := 6) rfl)) (hw _ (List.mem_of_getElem? (i := 8) rfl)) (hw _ (List.mem_of_getElem? (i := 2) rfl)) (by decide) 0 [(.int (0 : Int32))] [] (own_ba_ON_ACTUAL_TRANSACTION_0 l Z a0 hw [] w_ALWAYS w_NEVER w_ON_ACTUAL_TRANSACTION h0 F0) (by decide) (by decide) (by decide) (by decide) E_ON_ACTUAL_TRANSACTION (g := (mkF m 42 #[iv p1, iv (1 : Int32), rv w_ON_ACTUAL_TRANSACTION, iv (1 : Int32), .unset, .unset, .unset] [(.int (0 : Int32)), (.ref w_ON_ACTUAL_TRANSACTION)])) rfl (by rw [hml]; rfl) (lenOf pd_1 rfl) rfl (by show 2 * 0 + _ ≤ _; exact Nat.le_of_eq rfl) (hb hby at_42))
    refine own_pre (T' := T6) (f' := (mkF m 45 #[iv p1, iv (1 : Int32), rv w_ON_ACTUAL_TRANSACTION, iv (1 : Int32), .unset, .unset, .unset] [(.int (0 : Int32))])) (fun t k => st6 t k) ?_
    refine own_pre (T' := T6) (f' := (mkF m 47 #[iv p1, iv (1 : Int32), rv w_ON_ACTUAL_TRANSACTION, iv (1 : Int32), iv (0 : Int32), .unset, .unset] [])) (fun t k => XS.istore X6.here hx rfl (hb hby at_45) rfl (l' := #[iv p1, iv (1 : Int32), rv w_ON_ACTUAL_TRANSACTION, iv (1 : Int32), iv (0 : Int32), .unset, .unset]) rfl k) ?_
    refine own_pre (T' := T6) (f' := (mkF m 48 #[iv p1, iv (1 : Int32), rv w_ON_ACTUAL_TRANSACTION, iv (1 : Int32), iv (0 : Int32), .unset, .unset] [(.int (1 : Int32))])) (fun t k => XS.iloadN X6.here hx rfl (hb hby at_47) rfl k) ?_
    refine own_pre (T' := T6) (f' := (mkF m 49 #[iv p1, iv (1 : Int32), rv w_ON_ACTUAL_TRANSACTION, iv (1 : Int32), iv (0 : Int32), .unset, .unset] [(.int (2 : Int32)), (.int (1 : Int32))])) (fun t k => XS.iconst X6.here hx rfl (hb hby at_48) k) ?_
    refine own_pre (T' := T6) (f' := (mkF m 52 #[iv p1, iv (1 : Int32), rv w_ON_ACTUAL_TRANSACTION, iv (1 : Int32), iv (0 : Int32), .unset, .unset] [])) (fun t k => XS.icmpNo X6.here hx rfl (hb hby at_49) rfl (feq (by decide : ¬ ((1 : Int32) = (2 : Int32)))).1 k) ?_
    refine own_pre (T' := T6) (f' := (mkF m 53 #[iv p1, iv (1 : Int32), rv w_ON_ACTUAL_TRANSACTION, iv (1 : Int32), iv (0 : Int32), .unset, .unset] [(.int (1 : Int32))])) (fun t k => XS.iconst X6.here hx rfl (hb hby at_52) k) ?_
    refine own_pre (T' := T6) (f' := (mkF m 57 #[iv p1, iv (1 : Int32), rv w_ON_ACTUAL_TRANSACTION, iv (1 : Int32), iv (0 : Int32), .unset, .unset] [(.int (1 : Int32))])) (fun t k => XS.goto X6.here hx rfl (pc0 := 53) (pc' := 57) rfl (hb hby at_53) (by decide) (by decide) k) ?_
    refine own_pre (T' := T6) (f' := (mkF m 59 #[iv p1, iv (1 : Int32), rv w_ON_ACTUAL_TRANSACTION, iv (1 : Int32), iv (0 : Int32), iv (1 : Int32), .unset] [])) (fun t k => XS.istore X6.here hx rfl (hb hby at_57) rfl (l' := #[iv p1, iv (1 : Int32), rv w_ON_ACTUAL_TRANSACTION, iv (1 : Int32), iv (0 : Int32), iv (1 : Int32), .unset]) rfl k) ?_
    refine own_pre (T' := T6) (f' := (mkF m 60 #[iv p1, iv (1 : Int32), rv w_ON_ACTUAL_TRANSACTION, iv (1 : Int32), iv (0 : Int32), iv (1 : Int32), .unset] [(.int (1 : Int32))])) (fun t k => XS.iloadN X6.here hx rfl (hb hby at_59) rfl k) ?_
    refine own_pre (T' := T6) (f' := (mkF m 67 #[iv p1, iv (1 : Int32), rv w_ON_ACTUAL_TRANSACTION, iv (1 : Int32), iv (0 : Int32), iv (1 : Int32), .unset] [])) (fun t k => XS.ifYes X6.here hx rfl (pc0 := 60) (pc' := 67) rfl (hb hby at_60) rfl ((if0 _ _).trans (feq (by decide : ¬ ((1 : Int32) = (0 : Int32)))).2) (by decide) (by decide) k) ?_
    refine own_pre (T' := T6) (f' := (mkF m 68 #[iv p1, iv (1 : Int32), rv w_ON_ACTUAL_TRANSACTION, iv (1 : Int32), iv (0 : Int32), iv (1 : Int32), .unset] [(.int (0 : Int32))])) (fun t k => XS.iconst X6.here hx rfl (hb hby at_67) k) ?_
    refine own_pre (T' := T6) (f' := (mkF m 70 #[iv p1, iv (1 : Int32), rv w_ON_ACTUAL_TRANSACTION, iv (1 : Int32), iv (0 : Int32), iv (1 : Int32), iv (0 : Int32)] [])) (fun t k => XS.istore X6.here hx rfl (hb hby at_68) rfl (l' := #[iv p1, iv (1 : Int32), rv w_ON_ACTUAL_TRANSACTION, iv (1 : Int32), iv (0 : Int32), iv (1 : Int32), iv (0 : Int32)]) rfl k) ?_
    refine own_pre (T' := T6) (f' := (mkF m 71 #[iv p1, iv (1 : Int32), rv w_ON_ACTUAL_TRANSACTION, iv (1 : Int32), iv (0 : Int32), iv (1 : Int32), iv (0 : Int32)] [(.int (1 : Int32))])) (fun t k => XS.iloadN X6.here hx rfl (hb hby at_70) rfl k) ?_
    refine own_pre (T' := T6) (f' := (mkF m 73 #[iv p1, iv (1 : Int32), rv w_ON_ACTUAL_TRANSACTION, iv (1 : Int32), iv (0 : Int32), iv (1 : Int32), iv (0 : Int32)] [(.int (1 : Int32)), (.int (1 : Int32))])) (fun t k => XS.iload X6.here hx rfl (hb hby at_71) rfl k) ?_
    refine own_pre (T' := T6) (f' := (mkF m 76 #[iv p1, iv (1 : Int32), rv w_ON_ACTUAL_TRANSACTION, iv (1 : Int32), iv (0 : Int32), iv (1 : Int32), iv (0 : Int32)] [])) (fun t k => XS.icmpNo X6.here hx rfl (hb hby at_73) rfl (teq (by decide : (1 : Int32) = (1 : Int32))).2 k) ?_
    refine own_pre (T' := T6) (f' := (mkF m 78 #[iv p1, iv (1 : Int32), rv w_ON_ACTUAL_TRANSACTION, iv (1 : Int32), iv (0 : Int32), iv (1 : Int32), iv (0 : Int32)] [(.int (0 : Int32))])) (fun t k => XS.iload X6.here hx rfl (hb hby at_76) rfl k) ?_
    refine own_pre (T' := T6) (f' := (mkF m 80 #[iv p1, iv (1 : Int32), rv w_ON_ACTUAL_TRANSACTION, iv (1 : Int32), iv (0 : Int32), iv (1 : Int32), iv (0 : Int32)] [(.int (0 : Int32)), (.int (0 : Int32))])) (fun t k => XS.iload X6.here hx rfl (hb hby at_78) rfl k) ?_
    refine own_pre (T' := T6) (f' := (mkF m 83 #[iv p1, iv (1 : Int32), rv w_ON_ACTUAL_TRANSACTION, iv (1 : Int32), iv (0 : Int32), iv (1 : Int32), iv (0 : Int32)] [])) (fun t k => XS.icmpNo X6.here hx rfl (hb hby at_80) rfl (teq (by decide : (0 : Int32) = (0 : Int32))).2 k) ?_
    refine own_pre (T' := T6) (f' := (mkF m 84 #[iv p1, iv (1 : Int32), rv w_ON_ACTUAL_TRANSACTION, iv (1 : Int32), iv (0 : Int32), iv (1 : Int32), iv (0 : Int32)] [(.int (1 : Int32))])) (fun t k => XS.iconst X6.here hx rfl (hb hby at_83) k) ?_
    refine own_pre (T' := T6) (f' := (mkF m 88 #[iv p1, iv (1 : Int32), rv w_ON_ACTUAL_TRANSACTION, iv (1 : Int32), iv (0 : Int32), iv (1 : Int32), iv (0 : Int32)] [(.int (1 : Int32))])) (fun t k => XS.goto X6.here hx rfl (pc0 := 84) (pc' := 88) rfl (hb hby at_84) (by decide) (by decide) k) ?_
    exact own_retZ X6 hx hlk hret (hb hby at_88) rfl (⟨rfl, Fr.nil _⟩) (by decide) (by decide)
  · rw [hj]
    refine own_pre (T' := s₁) (f' := (mkF m 7 #[iv p1, iv (2 : Int32), .unset, .unset, .unset, .unset, .unset] [])) (fun t k => XS.istoreN X0.here hx rfl (hb hby at_6) rfl (l' := #[iv p1, iv (2 : Int32), .unset, .unset, .unset, .unset, .unset]) rfl k) ?_
    refine own_pre (T' := s₁) (f' := (mkF m 8 #[iv p1, iv (2 : Int32), .unset, .unset, .unset, .unset, .unset] [(.int (2 : Int32))])) (fun t k => XS.iloadN X0.here hx rfl (hb hby at_7) rfl k) ?_
    refine own_pre (T' := s₁) (f' := (mkF m 18 #[iv p1, iv (2 : Int32), .unset, .unset, .unset, .unset, .unset] [])) (fun t k => XS.ifYes X0.here hx rfl (pc0 := 8) (pc' := 18) rfl (hb hby at_8) rfl ((if0 _ _).trans (feq (by decide : ¬ ((2 : Int32) = (0 : Int32)))).2) (by decide) (by decide) k) ?_
    refine own_pre (T' := s₁) (f' := (mkF m 19 #[iv p1, iv (2 : Int32), .unset, .unset, .unset, .unset, .unset] [(.int (2 : Int32))])) (fun t k => XS.iloadN X0.here hx rfl (hb hby at_18) rfl k) ?_
    refine own_pre (T' := s₁) (f' := (mkF m 20 #[iv p1, iv (2 : Int32), .unset, .unset, .unset, .unset, .unset] [(.int (1 : Int32)), (.int (2 : Int32))])) (fun t k => XS.iconst X0.here hx rfl (hb hby at_19) k) ?_
    refine own_pre (T' := s₁) (f' := (mkF m 30 #[iv p1, iv (2 : Int32), .unset, .unset, .unset, .unset, .unset] [])) (fun t k => XS.icmpYes X0.here hx rfl (pc0 := 20) (pc' := 30) rfl (hb hby at_20) rfl (feq (by decide : ¬ ((2 : Int32) = (1 : Int32)))).2 (by decide) (by decide) k) ?_
    obtain ⟨T7, X7, e7, st7⟩ := getS2 X0 hx hZ hown (host := "") (Or.inl (hw _ (List.mem_of_getElem? (i := 18) rfl))) Via.refl e0 S_NEVER (g := (mkF m 30 #[iv p1, iv (2 : Int32), .unset, .unset, .unset, .unset, .unset] [])) rfl (hb hby at_30)
    refine own_pre (T' := T7) (f' := (mkF m 33 #[iv p1, iv (2 : Int32), .unset, .unset, .unset, .unset, .unset] [(.ref w_NEVER)])) (fun t k => st7 t k) ?_
    refine own_pre (T' := T7) (f' := (mkF m 34 #[iv p1, iv (2 : Int32), rv w_NEVER, .unset, .unset, .unset, .unset] [])) (fun t k => XS.astoreN X7.here hx rfl (hb hby at_33) rfl rfl (l' := #[iv p1, iv (2 : Int32), rv w_NEVER, .unset, .unset, .unset, .unset]) rfl k) ?_
    refine own_pre (T' := T7) (f' := (mkF m 35 #[iv p1, iv (2 : Int32), rv w_NEVER, .unset, .unset, .unset, .unset] [(.ref w_NEVER)])) (fun t k => XS.aloadN X7.here hx rfl (hb hby at_34) rfl rfl k) ?_
    refine own_pre (T' := T7) (f' := (mkF m 36 #[iv p1, iv (2 : Int32), rv w_NEVER, .unset, .unset, .unset, .unset] [(.int (1 : Int32)), (.ref w_NEVER)])) (fun t k => XS.iconst X7.here hx rfl (hb hby at_35) k) ?_
    obtain ⟨T8, X8, e8, st8⟩ := own_pure (f := 1) (n := 12) (v := (some (.int (0 : Int32)))) (own_callV X7 hx hZ e7 (y := (⟨"com/example/uniform_transactions/uniformtransactions/ManagerSettings$Synchronization", "allowsIn", "(Z)Z"⟩ : MethodName)) hown (hw _ (List.mem_of_getElem? (i := 4) rfl)) (hw _ (List.mem_of_getElem? (i := 5) rfl)) (hw _ (List.mem_of_getElem? (i := 7) rfl)) (hw _ (List.mem_of_getElem? (i := 6) rfl)) (hw _ (List.mem_of_getElem? (i := 8) rfl)) (hw _ (List.mem_of_getElem? (i := 2) rfl)) (by decide) 0 [(.int (1 : Int32))] [] (own_ba_NEVER_1 l Z a0 hw [] w_ALWAYS w_NEVER w_ON_ACTUAL_TRANSACTION h0 F0) (by decide) (by decide) (by decide) (by decide) E_NEVER (g := (mkF m 36 #[iv p1, iv (2 : Int32), rv w_NEVER, .unset, .unset, .unset, .unset] [(.int (1 : Int32)), (.ref w_NEVER)])) rfl (by rw [hml]; rfl) (lenOf pd_1 rfl) rfl (by show 2 * 0 + _ ≤ _; exact Nat.le_of_eq rfl) (hb hby at_36))
    refine own_pre (T' := T8) (f' := (mkF m 39 #[iv p1, iv (2 : Int32), rv w_NEVER, .unset, .unset, .unset, .unset] [(.int (0 : Int32))])) (fun t k => st8 t k) ?_
    refine own_pre (T' := T8) (f' := (mkF m 40 #[iv p1, iv (2 : Int32), rv w_NEVER, iv (0 : Int32), .unset, .unset, .unset] [])) (fun t k => XS.istoreN X8.here hx rfl (hb hby at_39) rfl (l' := #[iv p1, iv (2 : Int32), rv w_NEVER, iv (0 : Int32), .unset, .unset, .unset]) rfl k) ?_
    refine own_pre (T' := T8) (f' := (mkF m 41 #[iv p1, iv (2 : Int32), rv w_NEVER, iv (0 : Int32), .unset, .unset, .unset] [(.ref w_NEVER)])) (fun t k => XS.aloadN X8.here hx rfl (hb hby at_40) rfl rfl k) ?_
    refine own_pre (T' := T8) (f' := (mkF m 42 #[iv p1, iv (2 : Int32), rv w_NEVER, iv (0 : Int32), .unset, .unset, .unset] [(.int (0 : Int32)), (.ref w_NEVER)])) (fun t k => XS.iconst X8.here hx rfl (hb hby at_41) k) ?_
    obtain ⟨T9, X9, e9, st9⟩ := own_pure (f := 1) (n := 12) (v := (some (.int (0 : Int32)))) (own_callV X8 hx hZ e8 (y := (⟨"com/example/uniform_transactions/uniformtransactions/ManagerSettings$Synchronization", "allowsIn", "(Z)Z"⟩ : MethodName)) hown (hw _ (List.mem_of_getElem? (i := 4) rfl)) (hw _ (List.mem_of_getElem? (i := 5) rfl)) (hw _ (List.mem_of_getElem? (i := 7) rfl)) (hw _ (List.mem_of_getElem? (i := 6) rfl)) (hw _ (List.mem_of_getElem? (i := 8) rfl)) (hw _ (List.mem_of_getElem? (i := 2) rfl)) (by decide) 0 [(.int (0 : Int32))] [] (own_ba_NEVER_0 l Z a0 hw [] w_ALWAYS w_NEVER w_ON_ACTUAL_TRANSACTION h0 F0) (by decide) (by decide) (by decide) (by decide) E_NEVER (g := (mkF m 42 #[iv p1, iv (2 : Int32), rv w_NEVER, iv (0 : Int32), .unset, .unset, .unset] [(.int (0 : Int32)), (.ref w_NEVER)])) rfl (by rw [hml]; rfl) (lenOf pd_1 rfl) rfl (by show 2 * 0 + _ ≤ _; exact Nat.le_of_eq rfl) (hb hby at_42))
    refine own_pre (T' := T9) (f' := (mkF m 45 #[iv p1, iv (2 : Int32), rv w_NEVER, iv (0 : Int32), .unset, .unset, .unset] [(.int (0 : Int32))])) (fun t k => st9 t k) ?_
    refine own_pre (T' := T9) (f' := (mkF m 47 #[iv p1, iv (2 : Int32), rv w_NEVER, iv (0 : Int32), iv (0 : Int32), .unset, .unset] [])) (fun t k => XS.istore X9.here hx rfl (hb hby at_45) rfl (l' := #[iv p1, iv (2 : Int32), rv w_NEVER, iv (0 : Int32), iv (0 : Int32), .unset, .unset]) rfl k) ?_
    refine own_pre (T' := T9) (f' := (mkF m 48 #[iv p1, iv (2 : Int32), rv w_NEVER, iv (0 : Int32), iv (0 : Int32), .unset, .unset] [(.int (2 : Int32))])) (fun t k => XS.iloadN X9.here hx rfl (hb hby at_47) rfl k) ?_
    refine own_pre (T' := T9) (f' := (mkF m 49 #[iv p1, iv (2 : Int32), rv w_NEVER, iv (0 : Int32), iv (0 : Int32), .unset, .unset] [(.int (2 : Int32)), (.int (2 : Int32))])) (fun t k => XS.iconst X9.here hx rfl (hb hby at_48) k) ?_
    refine own_pre (T' := T9) (f' := (mkF m 56 #[iv p1, iv (2 : Int32), rv w_NEVER, iv (0 : Int32), iv (0 : Int32), .unset, .unset] [])) (fun t k => XS.icmpYes X9.here hx rfl (pc0 := 49) (pc' := 56) rfl (hb hby at_49) rfl (teq (by decide : (2 : Int32) = (2 : Int32))).1 (by decide) (by decide) k) ?_
    refine own_pre (T' := T9) (f' := (mkF m 57 #[iv p1, iv (2 : Int32), rv w_NEVER, iv (0 : Int32), iv (0 : Int32), .unset, .unset] [(.int (0 : Int32))])) (fun t k => XS.iconst X9.here hx rfl (hb hby at_56) k) ?_
    refine own_pre (T' := T9) (f' := (mkF m 59 #[iv p1, iv (2 : Int32), rv w_NEVER, iv (0 : Int32), iv (0 : Int32), iv (0 : Int32), .unset] [])) (fun t k => XS.istore X9.here hx rfl (hb hby at_57) rfl (l' := #[iv p1, iv (2 : Int32), rv w_NEVER, iv (0 : Int32), iv (0 : Int32), iv (0 : Int32), .unset]) rfl k) ?_
    refine own_pre (T' := T9) (f' := (mkF m 60 #[iv p1, iv (2 : Int32), rv w_NEVER, iv (0 : Int32), iv (0 : Int32), iv (0 : Int32), .unset] [(.int (2 : Int32))])) (fun t k => XS.iloadN X9.here hx rfl (hb hby at_59) rfl k) ?_
    refine own_pre (T' := T9) (f' := (mkF m 67 #[iv p1, iv (2 : Int32), rv w_NEVER, iv (0 : Int32), iv (0 : Int32), iv (0 : Int32), .unset] [])) (fun t k => XS.ifYes X9.here hx rfl (pc0 := 60) (pc' := 67) rfl (hb hby at_60) rfl ((if0 _ _).trans (feq (by decide : ¬ ((2 : Int32) = (0 : Int32)))).2) (by decide) (by decide) k) ?_
    refine own_pre (T' := T9) (f' := (mkF m 68 #[iv p1, iv (2 : Int32), rv w_NEVER, iv (0 : Int32), iv (0 : Int32), iv (0 : Int32), .unset] [(.int (0 : Int32))])) (fun t k => XS.iconst X9.here hx rfl (hb hby at_67) k) ?_
    refine own_pre (T' := T9) (f' := (mkF m 70 #[iv p1, iv (2 : Int32), rv w_NEVER, iv (0 : Int32), iv (0 : Int32), iv (0 : Int32), iv (0 : Int32)] [])) (fun t k => XS.istore X9.here hx rfl (hb hby at_68) rfl (l' := #[iv p1, iv (2 : Int32), rv w_NEVER, iv (0 : Int32), iv (0 : Int32), iv (0 : Int32), iv (0 : Int32)]) rfl k) ?_
    refine own_pre (T' := T9) (f' := (mkF m 71 #[iv p1, iv (2 : Int32), rv w_NEVER, iv (0 : Int32), iv (0 : Int32), iv (0 : Int32), iv (0 : Int32)] [(.int (0 : Int32))])) (fun t k => XS.iloadN X9.here hx rfl (hb hby at_70) rfl k) ?_
    refine own_pre (T' := T9) (f' := (mkF m 73 #[iv p1, iv (2 : Int32), rv w_NEVER, iv (0 : Int32), iv (0 : Int32), iv (0 : Int32), iv (0 : Int32)] [(.int (0 : Int32)), (.int (0 : Int32))])) (fun t k => XS.iload X9.here hx rfl (hb hby at_71) rfl k) ?_
    refine own_pre (T' := T9) (f' := (mkF m 76 #[iv p1, iv (2 : Int32), rv w_NEVER, iv (0 : Int32), iv (0 : Int32), iv (0 : Int32), iv (0 : Int32)] [])) (fun t k => XS.icmpNo X9.here hx rfl (hb hby at_73) rfl (teq (by decide : (0 : Int32) = (0 : Int32))).2 k) ?_
    refine own_pre (T' := T9) (f' := (mkF m 78 #[iv p1, iv (2 : Int32), rv w_NEVER, iv (0 : Int32), iv (0 : Int32), iv (0 : Int32), iv (0 : Int32)] [(.int (0 : Int32))])) (fun t k => XS.iload X9.here hx rfl (hb hby at_76) rfl k) ?_
    refine own_pre (T' := T9) (f' := (mkF m 80 #[iv p1, iv (2 : Int32), rv w_NEVER, iv (0 : Int32), iv (0 : Int32), iv (0 : Int32), iv (0 : Int32)] [(.int (0 : Int32)), (.int (0 : Int32))])) (fun t k => XS.iload X9.here hx rfl (hb hby at_78) rfl k) ?_
    refine own_pre (T' := T9) (f' := (mkF m 83 #[iv p1, iv (2 : Int32), rv w_NEVER, iv (0 : Int32), iv (0 : Int32), iv (0 : Int32), iv (0 : Int32)] [])) (fun t k => XS.icmpNo X9.here hx rfl (hb hby at_80) rfl (teq (by decide : (0 : Int32) = (0 : Int32))).2 k) ?_
    refine own_pre (T' := T9) (f' := (mkF m 84 #[iv p1, iv (2 : Int32), rv w_NEVER, iv (0 : Int32), iv (0 : Int32), iv (0 : Int32), iv (0 : Int32)] [(.int (1 : Int32))])) (fun t k => XS.iconst X9.here hx rfl (hb hby at_83) k) ?_
    refine own_pre (T' := T9) (f' := (mkF m 88 #[iv p1, iv (2 : Int32), rv w_NEVER, iv (0 : Int32), iv (0 : Int32), iv (0 : Int32), iv (0 : Int32)] [(.int (1 : Int32))])) (fun t k => XS.goto X9.here hx rfl (pc0 := 84) (pc' := 88) rfl (hb hby at_84) (by decide) (by decide) k) ?_
    exact own_retZ X9 hx hlk hret (hb hby at_88) rfl (⟨rfl, Fr.nil _⟩) (by decide) (by decide)
set_option maxRecDepth 65536 in
set_option maxHeartbeats 40000000 in
theorem comes_1 {Post : Tables → Env → Array Value → State → Outcome → State → Prop} (hpost : ∀ tb e args s v u, (limb_1_1.after args s (.returned v) u = true ∧ limb_1_2.after args s (.returned v) u = true ∧ True) → FrameEnd s (.returned v) u (Jvm.fieldLocs frame_1_writes args s ++ Jvm.arrayLocs frame_1_arrays args s ++ Jvm.staticLocs frame_1_statics s) 0 0 → Post tb e args s (.returned v) u) :
    ArmFor flags0 classFile x code maxLocals ret World_1 tables_1 room_1 Calls_1 rest_1 Pre_1 Post := by
  intro l hfl _ _ p e ha hc hk s m args below hf hA hF happ hP
  obtain ⟨hcalls, hrest, hpre⟩ := hP
  obtain ⟨-, -, -, hnamed, -, -, -, hat⟩ := (Spec.applies_iff hf).mp happ
  obtain ⟨hg, hn⟩ := and_e (Cond.before_iff.mp (show (Jvm.Cond.and given_1 narrow_1).before args s = true from hpre))
  obtain ⟨gv0, gr0⟩ := and_e hg
  obtain ⟨w0, rfl⟩ : ∃ w0 : Value, args = #[w0] := by
    have hs : args.size = 1 := by simpa [Cond.value, given_1] using gv0
    obtain ⟨L⟩ := args
    match L, hs with
    | [w0], _ => exact ⟨w0, rfl⟩
  have hw := fun d (hd : d ∈ tables_1) => atoms_spec (ws := Jvm.Cond.code x code maxLocals ret :: tables_1) hat d (List.mem_cons_of_mem _ hd)
  have hfit : Fit s := fun {y c} hc i hi => by
    obtain ⟨ha, rfl⟩ := Array.getElem?_eq_some_iff.mp hc
    have q := List.all_eq_true.mp ((Array.all_eq_true_iff_forall_mem.mp hF) _ (Array.getElem_mem ha)) i (List.mem_range.mpr hi)
    simpa [Array.getElem?_eq_getElem hi] using q
  obtain ⟨i0, ei0⟩ := is_v gr0
  obtain rfl : w0 = (.int i0) := Option.some.inj ei0
  obtain ⟨nw0, nr0⟩ := and_e hn
  obtain ⟨nw1, nr1⟩ := and_e nr0
  obtain ⟨nw2, nr2⟩ := and_e nr1
  obtain ⟨nw3, nr3⟩ := and_e nr2
  obtain ⟨nw4, nr4⟩ := and_e nr3
  obtain ⟨w_ALWAYS, ev_ALWAYS⟩ := exa_v nw0
  obtain ⟨w_NEVER, ev_NEVER⟩ := exa_v nw2
  obtain ⟨w_ON_ACTUAL_TRANSACTION, ev_ON_ACTUAL_TRANSACTION⟩ := exa_v nw4
  have F : own_F s s.heap w_ALWAYS w_NEVER w_ON_ACTUAL_TRANSACTION := ⟨Sta.start ev_ALWAYS (Or.inr ⟨(hw _ (List.mem_of_getElem? (i := 2) rfl)), (hw _ (List.mem_of_getElem? (i := 3) rfl))⟩), Exa.start ev_ALWAYS nw0, Sta.start ev_NEVER (Or.inr ⟨(hw _ (List.mem_of_getElem? (i := 2) rfl)), (hw _ (List.mem_of_getElem? (i := 19) rfl))⟩), Exa.start ev_NEVER nw2, Sta.start ev_ON_ACTUAL_TRANSACTION (Or.inr ⟨(hw _ (List.mem_of_getElem? (i := 2) rfl)), (hw _ (List.mem_of_getElem? (i := 21) rfl))⟩), Exa.start ev_ON_ACTUAL_TRANSACTION nw4, Fld.start ((fld_at ev_ALWAYS).symm.trans (own_eqI nw1)), Fld.start ((fld_at ev_NEVER).symm.trans (own_eqI nw3)), Fld.start ((fld_at ev_ON_ACTUAL_TRANSACTION).symm.trans (own_eqI nr4))⟩
  obtain ⟨n, o, h1, h2, h3, _, L, rfl, ⟨rfl, N⟩, hq⟩ := own_law l s _ hw tables_1 w_ALWAYS w_NEVER w_ON_ACTUAL_TRANSACTION s.heap F i0  p e ha hc hk s m _ below hf ((Spec.applies_iff_loose hf).mp happ).1 ⟨rfl, State.Warmed39.refl s, rfl⟩ trivial
  refine ⟨n, _, h1, h2, h3, hpost _ _ _ _ _ _ ⟨Cond.after_iff.mpr rfl, Cond.after_iff.mpr (eq_i res_at (Term.int_eval (1)) rfl), trivial⟩ ⟨hq.1, hq.2.1, (hq.2.2.sift fun y hy => Or.inr (N y hy)).mono (by decide) (by decide)⟩⟩
theorem main_1_1 : Claimed_1_1 := comes_1 fun _ _ _ _ _ _ h hF => ⟨h.1, hF⟩
theorem main_1_2 : Claimed_1_2 := comes_1 fun _ _ _ _ _ _ h hF => ⟨h.2.1, hF⟩
end Jvm.Pilot.@@N@@
namespace Jvm.Pilot.@@N@@
open Jvm Jvm.ClassFile Sem Op Lib Jvm.Free Jvm.Stand Jvm.Pilot.@@N@@.Jvm.D
/-! MADE BY PROGRAM (witnessworld.py) out of the Statement's table words and the real class files: 10 classes; the members and pool entries that the words name. The judged class is class 1, her method 1. -/
namespace start1
open Jvm.ClassFile
def u (s : String) : CpInfo := .utf8 (stringToUtf16 s)
/-- a pool by its gaps: so many unusable entries, then the entry; so many at the end -/
def gap : Nat → List CpInfo → List CpInfo
  | 0, r => r
  | n + 1, r => .unusable :: gap n r
def poolList (es : List (Nat × CpInfo)) (last : Nat) : List CpInfo := es.foldr (fun e r => gap e.1 (e.2 :: r)) (gap last [])
def pool (es : List (Nat × CpInfo)) (last : Nat) : Array CpInfo := ⟨poolList es last⟩
def fileOf (pool : Array CpInfo) (this : Nat) (attrs : Array Attribute := #[]) (ms : Array MethodInfo := #[]) (fl : Nat := 33) (sup : Nat := 0) (ifs : Array Nat := #[]) (fds : Array FieldInfo := #[]) : ClassFile where
  minorVersion := 0
  majorVersion := 65
  constantPool := pool
  accessFlags := fl
  thisClass := this
  superClass := sup
  interfaces := ifs
  fields := fds
  methods := ms
  attributes := attrs
def plain (name : String) (sup : Option ClassId) : Class where
  name := name
  kind := .ordinary
  loader := none
  accessFlags := 33
  super := sup
  interfaces := #[]
  cf := none
  fields := #[]
  methods := #[]
  instanceTypes := #[]
  staticTypes := #[]
  resolved := #[]
  callSites := []
  init := .initialized
  statics := none
  mirror := none

def pool0 : Array CpInfo := pool [(5, u "<init>"), (0, u "()V"), (1, .class_ 10), (1, u "java/lang/Object")] 113

def k0m0 : Method := { name := "<init>", desc := "()V", sig := { parameters := [], returnType := none }, accessFlags := 1, code := none }
/-- java/lang/Object -/
def k0 : Class := { plain "java/lang/Object" none with
  accessFlags := 33
  interfaces := #[]
  cf := some (fileOf pool0 8 #[] #[{ accessFlags := 1, nameIndex := 5, descriptorIndex := 6, attributes := #[] }] 33 0 #[] #[])
  fields := #[]
  methods := #[k0m0]
  instanceTypes := #[]
  staticTypes := #[]
  resolved := Array.replicate 124 none
  statics := none }

def pool1 : Array CpInfo := pool [(2, .class_ 4), (1, u "java/lang/Object"), (0, u "<init>"), (0, u "()V"), (0, .integer 2147483647), (0, .fieldref 9 10), (0, .class_ 11), (0, .nameAndType 12 13), (0, u "com/example/uniform_transactions/uniformtransactions/ManagerSettings$Synchronization"), (0, u "ALWAYS"), (0, u "Lcom/example/uniform_transactions/uniformtransactions/ManagerSettings$Synchronization;"), (0, .fieldref 9 15), (0, .nameAndType 16 13), (0, u "ON_ACTUAL_TRANSACTION"), (0, .fieldref 9 18), (0, .nameAndType 19 13), (0, u "NEVER"), (0, .methodref 9 21), (0, .nameAndType 22 23), (0, u "allowsIn"), (0, u "(Z)Z"), (0, .class_ 25), (0, u "com/example/uniform_transactions/uniformtransactions/SynchronizationAllowsInPinLaw"), (2, u "law"), (0, u "(I)Z")] 7

def k1m0 : Method := { name := "<init>", desc := "()V", sig := { parameters := [], returnType := none }, accessFlags := 1, code := none }
def k1c1 : Code := { maxStack := 2, maxLocals := 7, code := code, exceptionTable := #[], attributes := #[] }
def k1m1 : Method := { name := "law", desc := "(I)Z", sig := { parameters := [.int], returnType := some .boolean }, accessFlags := 9, code := some k1c1 }
/-- com/example/uniform_transactions/uniformtransactions/SynchronizationAllowsInPinLaw -/
def k1 : Class := { plain "com/example/uniform_transactions/uniformtransactions/SynchronizationAllowsInPinLaw" (some 0) with
  accessFlags := 49
  interfaces := #[]
  cf := some (fileOf pool1 24 #[] #[{ accessFlags := 1, nameIndex := 5, descriptorIndex := 6, attributes := #[] }, { accessFlags := 9, nameIndex := 28, descriptorIndex := 29, attributes := #[] }] 49 2 #[] #[])
  fields := #[]
  methods := #[k1m0, k1m1]
  instanceTypes := #[]
  staticTypes := #[]
  resolved := Array.replicate 37 none
  statics := none }

def pool2 : Array CpInfo := pool [(1, .class_ 2), (0, u "java/lang/constant/Constable"), (0, .class_ 4), (0, u "java/lang/Object")] 6

/-- java/lang/constant/Constable -/
def k2 : Class := { plain "java/lang/constant/Constable" (some 0) with
  accessFlags := 1537
  interfaces := #[]
  cf := some (fileOf pool2 1 #[] #[] 1537 3 #[] #[])
  fields := #[]
  methods := #[]
  instanceTypes := #[]
  staticTypes := #[]
  resolved := Array.replicate 11 none
  statics := none }

def pool3 : Array CpInfo := pool [(1, .class_ 2), (0, u "java/lang/Comparable"), (0, .class_ 4), (0, u "java/lang/Object")] 7

/-- java/lang/Comparable -/
def k3 : Class := { plain "java/lang/Comparable" (some 0) with
  accessFlags := 1537
  interfaces := #[]
  cf := some (fileOf pool3 1 #[] #[] 1537 3 #[] #[])
  fields := #[]
  methods := #[]
  instanceTypes := #[]
  staticTypes := #[]
  resolved := Array.replicate 12 none
  statics := none }

def pool4 : Array CpInfo := pool [(1, .class_ 2), (0, u "java/io/Serializable"), (0, .class_ 4), (0, u "java/lang/Object")] 2

/-- java/io/Serializable -/
def k4 : Class := { plain "java/io/Serializable" (some 0) with
  accessFlags := 1537
  interfaces := #[]
  cf := some (fileOf pool4 1 #[] #[] 1537 3 #[] #[])
  fields := #[]
  methods := #[]
  instanceTypes := #[]
  staticTypes := #[]
  resolved := Array.replicate 7 none
  statics := none }

def pool5 : Array CpInfo := pool [(2, .class_ 4), (1, u "java/lang/Enum"), (0, u "name"), (0, u "Ljava/lang/String;"), (0, .fieldref 2 8), (0, .nameAndType 9 10), (0, u "ordinal"), (0, u "I"), (1, .class_ 14), (1, u "java/lang/Object"), (4, u "hash"), (86, .class_ 108), (1, u "java/lang/Enum$EnumDesc"), (2, .class_ 112), (0, u "java/lang/constant/Constable"), (0, .class_ 114), (0, u "java/lang/Comparable"), (0, .class_ 116), (0, u "java/io/Serializable"), (9, u "()I")] 77

def k5c0 : Code := { maxStack := 1, maxLocals := 1, code := jdk_37_method_2_code, exceptionTable := #[], attributes := #[] }
def k5m0 : Method := { name := "ordinal", desc := "()I", sig := { parameters := [], returnType := some .int }, accessFlags := 17, code := some k5c0 }
/-- java/lang/Enum -/
def k5 : Class := { plain "java/lang/Enum" (some 0) with
  accessFlags := 1057
  interfaces := #[2, 3, 4]
  cf := some (fileOf pool5 2 #[.nestMembers #[106]] #[{ accessFlags := 17, nameIndex := 9, descriptorIndex := 126, attributes := #[] }] 1057 12 #[111, 113, 115] #[{ accessFlags := 18, nameIndex := 5, descriptorIndex := 6, attributes := #[] }, { accessFlags := 18, nameIndex := 9, descriptorIndex := 10, attributes := #[] }, { accessFlags := 2, nameIndex := 19, descriptorIndex := 10, attributes := #[] }])
  fields := #[{ name := "name", type := (.object "java/lang/String"), accessFlags := 18, slot := 0, constantValue := 0 }, { name := "ordinal", type := .int, accessFlags := 18, slot := 1, constantValue := 0 }, { name := "hash", type := .int, accessFlags := 2, slot := 2, constantValue := 0 }]
  methods := #[k5m0]
  instanceTypes := #[(.object "java/lang/String"), .int, .int]
  staticTypes := #[]
  resolved := Array.replicate 204 none
  statics := none }

def pool6 : Array CpInfo := pool [(1, .class_ 2), (0, u "com/example/uniform_transactions/uniformtransactions/ManagerSettings$Synchronization"), (2, u "ALWAYS"), (0, u "Lcom/example/uniform_transactions/uniformtransactions/ManagerSettings$Synchronization;"), (2, u "ON_ACTUAL_TRANSACTION"), (2, u "NEVER"), (2, u "$VALUES"), (0, u "[Lcom/example/uniform_transactions/uniformtransactions/ManagerSettings$Synchronization;"), (6, .class_ 25), (1, u "java/lang/Enum"), (6, .methodref 1 33), (0, .nameAndType 34 35), (0, u "ordinal"), (0, u "()I"), (20, u "allowsIn"), (0, u "(Z)Z"), (6, .class_ 65), (0, u "com/example/uniform_transactions/uniformtransactions/ManagerSettings")] 2

def k6c0 : Code := { maxStack := 4, maxLocals := 2, code := prog_10_method_4_code, exceptionTable := #[], attributes := #[] }
def k6m0 : Method := { name := "allowsIn", desc := "(Z)Z", sig := { parameters := [.boolean], returnType := some .boolean }, accessFlags := 0, code := some k6c0 }
/-- com/example/uniform_transactions/uniformtransactions/ManagerSettings$Synchronization -/
def k6 : Class := { plain "com/example/uniform_transactions/uniformtransactions/ManagerSettings$Synchronization" (some 5) with
  accessFlags := 16433
  interfaces := #[]
  cf := some (fileOf pool6 1 #[.nestHost 64] #[{ accessFlags := 0, nameIndex := 56, descriptorIndex := 57, attributes := #[] }] 16433 23 #[] #[{ accessFlags := 16409, nameIndex := 5, descriptorIndex := 6, attributes := #[] }, { accessFlags := 16409, nameIndex := 9, descriptorIndex := 6, attributes := #[] }, { accessFlags := 16409, nameIndex := 12, descriptorIndex := 6, attributes := #[] }, { accessFlags := 4122, nameIndex := 15, descriptorIndex := 16, attributes := #[] }])
  fields := #[{ name := "ALWAYS", type := (.object "com/example/uniform_transactions/uniformtransactions/ManagerSettings$Synchronization"), accessFlags := 16409, slot := 0, constantValue := 0 }, { name := "ON_ACTUAL_TRANSACTION", type := (.object "com/example/uniform_transactions/uniformtransactions/ManagerSettings$Synchronization"), accessFlags := 16409, slot := 1, constantValue := 0 }, { name := "NEVER", type := (.object "com/example/uniform_transactions/uniformtransactions/ManagerSettings$Synchronization"), accessFlags := 16409, slot := 2, constantValue := 0 }, { name := "$VALUES", type := (.array (.object "com/example/uniform_transactions/uniformtransactions/ManagerSettings$Synchronization")), accessFlags := 4122, slot := 3, constantValue := 0 }]
  methods := #[k6m0]
  instanceTypes := #[(.object "java/lang/String"), .int, .int]
  staticTypes := #[(.object "com/example/uniform_transactions/uniformtransactions/ManagerSettings$Synchronization"), (.object "com/example/uniform_transactions/uniformtransactions/ManagerSettings$Synchronization"), (.object "com/example/uniform_transactions/uniformtransactions/ManagerSettings$Synchronization"), (.array (.object "com/example/uniform_transactions/uniformtransactions/ManagerSettings$Synchronization"))]
  resolved := Array.replicate 68 none
  statics := some 0 }

def pool7 : Array CpInfo := pool [(1, u "java/lang/Cloneable"), (0, .class_ 1), (0, u "java/lang/Object"), (0, .class_ 3)] 3

/-- java/lang/Cloneable -/
def k7 : Class := { plain "java/lang/Cloneable" (some 0) with
  accessFlags := 1537
  interfaces := #[]
  cf := some (fileOf pool7 2 #[] #[] 1537 4 #[] #[])
  fields := #[]
  methods := #[]
  instanceTypes := #[]
  staticTypes := #[]
  resolved := Array.replicate 8 none
  statics := none }

/-- the primitive byte -/
def k8 : Class := { plain "byte" none with kind := .primitive 'B', accessFlags := 0x411 }
/-- [B -/
def k9 : Class := { plain "[B" (some 0) with kind := .array 8 .byte, interfaces := #[7, 4], accessFlags := 1041 }

def heap : Heap := #[{ cls := 6, slots := #[.ref 1, .ref 3, .ref 2, .null], vm := .statics 6 },
  { cls := 6, slots := #[.null, .int 0, .int 0], vm := .none },
  { cls := 6, slots := #[.null, .int 2, .int 0], vm := .none },
  { cls := 6, slots := #[.null, .int 1, .int 0], vm := .none }]
def classes : Array Class := #[k0, k1, k2, k3, k4, k5, k6, k7, k8, k9]
def interned : List (Array UInt16 × Addr) := []
def slotsUsed : Nat := 13
def theMethod : MethodId := ⟨1, 1⟩
def args0 : Array Value := #[.int 5]
def aboutOver (below : List Frame) : State where
  vm := { classes := classes, interned := interned.toArray }
  heap := heap
  slotsUsed := slotsUsed
  threads := #[{ frames := .invoking theMethod args0 :: below }]
def below0 : List Frame := [.native { method := ⟨0, 0⟩, args := #[] }]
def about1 : State := aboutOver below0
def p0 : Program := .bare "" "" ""
def e0 : Env := launch0.env 0 0 0
theorem w_frames : about1.frames = Frame.invoking theMethod args0 :: below0 := rfl
set_option maxRecDepth 65536 in
theorem w_args : argsFit about1.vm theMethod args0 = true := by decide +kernel
set_option maxRecDepth 65536 in
theorem w_heap : heapFits about1 = true := by decide +kernel
set_option maxRecDepth 65536 in
theorem w_runnable : about1.curStatus? = some .runnable := by decide +kernel
set_option maxRecDepth 65536 in
theorem w_alone : about1.alone = true := by decide +kernel
set_option maxRecDepth 65536 in
theorem w_named : about1.methodNamed? x = some theMethod := by decide +kernel
set_option maxRecDepth 65536 in
theorem w_hears : about1.hears theMethod below0 = true := by decide +kernel
set_option maxRecDepth 65536 in
theorem w_ripe : about1.ripe theMethod args0 below0 = true := by decide +kernel
theorem w_running : about1.status = .running := rfl
set_option maxRecDepth 65536 in
theorem w_room : about1.hasRoom e0.platform room_1 = true :=
  launch0.hasRoom_least _ room_1 (by decide +kernel) (by decide +kernel) (by decide +kernel) (by decide +kernel) (by decide +kernel) (by decide +kernel)
theorem allAtoms_all (ts : List Jvm.Cond) (a : Array Jvm.Value) (st : Jvm.State) : (allAtoms ts).before a st = ts.all (fun c => c.before a st) := by
  induction ts with
  | nil => rfl
  | cons c t ih =>
    show (Jvm.Cond.and c (allAtoms t)).before a st = _
    rw [Jvm.Cond.before_and, ih, List.all_cons]
def words1 : List Jvm.Cond := Jvm.Cond.code x code maxLocals ret :: tables_1
/-- a 'code' word, met by the world's own term for the bytes: nothing is compared byte by byte -/
theorem code_word {y : MethodName} {bytes : ByteArray} {mx : Nat} {rt : Option FieldType} {a : Array Value} {s : State} {m : MethodId} {meth : Method} {c : Code} (h1 : s.methodNamed? y = some m) (h2 : s.vm.method? m = some meth) (h3 : meth.code = some c) (h4 : c.code = bytes)
    (h5 : (c.maxLocals == mx && c.exceptionTable.isEmpty && decide (c.maxStack ≤ mostOperands) && decide (meth.sig.returnType = rt) && !meth.locks && decide (parseMethodDescriptor y.desc = some meth.sig)) = true) : (Jvm.Cond.code y bytes mx rt).before a s = true := by
  simp only [Bool.and_eq_true, beq_iff_eq, Bool.not_eq_true', decide_eq_true_eq] at h5
  obtain ⟨⟨⟨⟨⟨g1, g2⟩, g3⟩, g4⟩, g5⟩, g6⟩ := h5
  simp [Cond.before, Cond.holds, Cond.value, h1, h2, h3, h4, g1, g2, g3, g4, g5, g6]
def isCode : Jvm.Cond → Bool
  | .code _ _ _ _ => true
  | _ => false
theorem all_split {L : List Jvm.Cond} {P : Jvm.Cond → Bool} (h1 : L.all (fun c => isCode c || P c) = true) (h2 : ∀ c ∈ L.filter isCode, P c = true) : L.all P = true := by
  refine List.all_eq_true.mpr fun c hc => ?_
  have h := List.all_eq_true.mp h1 c hc
  rcases Bool.eq_false_or_eq_true (isCode c) with hi | hi
  · exact h2 c (List.mem_filter.mpr ⟨hc, hi⟩)
  · simpa [hi] using h
set_option maxRecDepth 65536 in
theorem w_c0 : (Jvm.Cond.code x code maxLocals ret).before args0 about1 = true := code_word (m := ⟨1, 1⟩) (meth := k1m1) (c := k1c1) (by decide +kernel) rfl rfl rfl (by decide +kernel)
set_option maxRecDepth 65536 in
theorem w_c1 : (Jvm.Cond.code ({ cls := "com/example/uniform_transactions/uniformtransactions/ManagerSettings$Synchronization", name := "allowsIn", desc := "(Z)Z" } : Jvm.MethodName) prog_10_method_4_code (2 : Nat) (Option.some Jvm.ClassFile.FieldType.boolean)).before args0 about1 = true := code_word (m := ⟨6, 0⟩) (meth := k6m0) (c := k6c0) (by decide +kernel) rfl rfl rfl (by decide +kernel)
set_option maxRecDepth 65536 in
theorem w_c2 : (Jvm.Cond.code ({ cls := "java/lang/Enum", name := "ordinal", desc := "()I" } : Jvm.MethodName) jdk_37_method_2_code (1 : Nat) (Option.some Jvm.ClassFile.FieldType.int)).before args0 about1 = true := code_word (m := ⟨5, 0⟩) (meth := k5m0) (c := k5c0) (by decide +kernel) rfl rfl rfl (by decide +kernel)
def codes1 : List Jvm.Cond := [Jvm.Cond.code x code maxLocals ret, Jvm.Cond.code ({ cls := "com/example/uniform_transactions/uniformtransactions/ManagerSettings$Synchronization", name := "allowsIn", desc := "(Z)Z" } : Jvm.MethodName) prog_10_method_4_code (2 : Nat) (Option.some Jvm.ClassFile.FieldType.boolean), Jvm.Cond.code ({ cls := "java/lang/Enum", name := "ordinal", desc := "()I" } : Jvm.MethodName) jdk_37_method_2_code (1 : Nat) (Option.some Jvm.ClassFile.FieldType.int)]
set_option maxRecDepth 65536 in
theorem codes_eq : words1.filter isCode = codes1 := rfl
theorem w_codes : ∀ c ∈ words1.filter isCode, c.before args0 about1 = true := by
  rw [codes_eq]
  intro c hc
  simp only [codes1, List.mem_cons, List.not_mem_nil, or_false] at hc
  rcases hc with rfl | rfl | rfl
  · exact w_c0
  · exact w_c1
  · exact w_c2
set_option maxRecDepth 65536 in
theorem w_t1 : words1.all (fun c => isCode c || c.before args0 about1) = true := by decide +kernel
theorem w_tables : (allAtoms (Jvm.Cond.code x code maxLocals ret :: tables_1)).before args0 about1 = true := by
  rw [allAtoms_all]
  show words1.all (fun c => c.before args0 about1) = true
  refine all_split ?_ w_codes
  rw [w_t1]
set_option maxRecDepth 65536 in
theorem w_case : (Jvm.Cond.and given_1 narrow_1).before args0 about1 = true := by decide +kernel
theorem w_applies : (headSpec (Jvm.Cond.code x code maxLocals ret :: tables_1) room_1).applies x e0.platform about1 = true :=
  (Spec.applies_iff w_frames).mpr ⟨w_running, w_runnable, w_alone, w_named, w_hears, w_ripe, w_room, w_tables⟩
theorem atStart : AtStart classFile x code maxLocals ret World_1 tables_1 room_1 Calls_1 rest_1 Pre_1 launch0 p0 e0 about1 theMethod args0 below0 :=
  ⟨lists_1, trivial, launch0.admits_env _ _ _, launch0.least_env, fairChoices_fair.cas, fairChoices_fair.clock, w_frames, w_args, w_heap, w_applies, trivial, trivial, w_case⟩
end start1
theorem witness_1 : WitnessClaimed_1 := ⟨start1.p0, start1.e0, start1.about1, start1.theMethod, start1.args0, start1.below0, start1.atStart⟩
end Jvm.Pilot.@@N@@
