import JvmDerived
import JvmDerived.Pilot.@@N@@Statement
import JvmDerived.Pilot.@@N@@Code
set_option linter.unusedVariables false
set_option linter.unusedSimpArgs false
namespace Jvm.Pilot.@@N@@
open Jvm Jvm.ClassFile Sem Op Lib Jvm.Free Jvm.Stand Jvm.LawKit Jvm.RoadKit Bundle Jvm.Pilot.@@N@@.Jvm.D
section OwnKit
variable {p : Program} {l : Launch} {e : Env} {R : Room} {s : State} {m : MethodId} {args : Array Value} {below : List Frame} {meth : Method} {c : Code} {T : State} {locs : List Loc} {cells slots : Nat} {Z : State} {a0 : Array Value} {h : Heap} {Qr : Option Value → Heap → List Loc → Prop}
/-- from this frame on the run ends, and Q holds of the end -/
def own_G (tb : Tables) (e : Env) (below : List Frame) (T : State) (f : JFrame) (Qe : Outcome → State → Prop) : Prop := ∃ s₂ o, Steps tb e below (T.setTop f) s₂ ∧ s₂.status = .running ∧ Ended s₂ below o ∧ Qe o s₂
theorem own_pre {tb : Tables} {T' : State} {f f' : JFrame} {Qe : Outcome → State → Prop} (k1 : ∀ t, Steps tb e below (T'.setTop f') t → Steps tb e below (T.setTop f) t) (k2 : own_G tb e below T' f' Qe) : own_G tb e below T f Qe := by
  obtain ⟨s2, o, h1, h2⟩ := k2
  exact ⟨s2, o, k1 _ h1, h2⟩
/-- the end of a body: it returned v with Qr; the frame -/
abbrev own_P (R : Room) (s : State) (Qr : Option Value → Heap → List Loc → Prop) : Outcome → State → Prop := fun o U' => ∃ v L, o = .returned v ∧ Qr v U'.heap L ∧ FrameEnd s o U' L R.cells R.slots
/-- a body's contract -/
abbrev own_C (l : Launch) (y : MethodName) (code : ByteArray) (ml : Nat) (ret : Option FieldType) (ws : List Jvm.Cond) (R : Room) (as : Array Value) (Z : State) (h0 : Heap) (Qr : Option Value → Heap → List Loc → Prop) : Prop :=
  MetFree l y (head1 (Jvm.Cond.code y code ml ret :: ws) R) (fun a U => a = as ∧ Z.Warmed39 U.vm ∧ U.heap = h0) (fun _ _ _ _ _ => True) (fun _ U o U' => ∃ v L, o = .returned v ∧ Qr v U'.heap L ∧ FrameEnd U o U' L R.cells R.slots)
theorem own_enter {y : MethodName} {code : ByteArray} {ml : Nat} {ret : Option FieldType} {ws : List Jvm.Cond} {as : Array Value} {LS : Array Slot} {h0 : Heap} (hp : plainFor y = true) (hef : ∀ m, entryFrame m as ml = mkF m 0 LS [])
    (body : ∀ (p : Program) (e : Env) (s : State) (m : MethodId) (below : List Frame) (meth : Method) (c : Code) (s₁ : State), p.tables.exec = Jvm.exec → c.code = code → c.maxLocals = ml → s.vm.findClass y.cls = some m.cls → meth.name = y.name → meth.sig.returnType = ret → meth.locks = false → Z.Warmed39 s.vm → Stand p l e R s m as below meth c s₁ [] 0 0 → s₁.heap = h0 → s.heap = h0 → own_G p.tables e below s₁ (mkF m 0 LS []) (own_P R s Qr)) : own_C l y code ml ret ws R as Z h0 Qr := by
  refine MetFree.of_bodySF hp hisR ?_
  intro p e s m args below meth c s₁ Bd hml0 hP hK
  obtain ⟨rfl, hZ, hh⟩ := hP
  have e0 : s₁.heap = h0 := by rw [← hh, Bd.state]; rfl
  obtain ⟨s2, o, h1, h2⟩ := body p e s m below meth c s₁ Bd.exec Bd.bytes hml0 (findClass_of_methodNamed Bd.named) (name_of_methodNamed Bd.named Bd.method).1 Bd.returns Bd.notSynchronized hZ (Stand.of_body Bd) e0 hh
  exact ⟨s2, o, castTop (hef m) h1, h2⟩
theorem own_retZ (X : Stand p l e R s m args below meth c T locs cells slots) (hx : p.tables.exec = Jvm.exec) (hlk : meth.locks = false) {pc : Nat} {Ls : Array Slot} {z z' : Int32} {rest : List Value} (hret : meth.sig.returnType = some .boolean) (hd : decode c.code pc = .ok (.ireturn, 1)) (hz : nar .boolean z = z')
    (hQ : Qr (some (.int z')) T.heap locs) (hc : cells ≤ R.cells) (hs : slots ≤ R.slots) : own_G p.tables e below T (mkF m pc Ls (.int z :: rest)) (own_P R s Qr) := by
  subst hz
  obtain ⟨fs, hr, hrun, hended, hW, hsame⟩ := X.leave (v := some (.int (nar .boolean z))) (fun h => by rw [hret] at h; cases h) hlk
  exact ⟨_, _, retN X hx hret (by simp) hd hr, hrun, hended, _, _, rfl, hQ, ⟨_, rfl⟩, hW, hsame.mono hc hs⟩
theorem own_retI (X : Stand p l e R s m args below meth c T locs cells slots) (hx : p.tables.exec = Jvm.exec) (hlk : meth.locks = false) {pc : Nat} {Ls : Array Slot} {z : Int32} {rest : List Value} (hret : meth.sig.returnType = some .int) (hd : decode c.code pc = .ok (.ireturn, 1))
    (hQ : Qr (some (.int z)) T.heap locs) (hc : cells ≤ R.cells) (hs : slots ≤ R.slots) : own_G p.tables e below T (mkF m pc Ls (.int z :: rest)) (own_P R s Qr) := by
  obtain ⟨fs, hr, hrun, hended, hW, hsame⟩ := X.leave (v := some (.int z)) (fun h => by rw [hret] at h; cases h) hlk
  exact ⟨_, _, retOut X hx hret rfl (Or.inl ⟨rfl, Or.inl rfl, _, rfl⟩) hd hr, hrun, hended, _, _, rfl, hQ, ⟨_, rfl⟩, hW, hsame.mono hc hs⟩
theorem own_retR (X : Stand p l e R s m args below meth c T locs cells slots) (hx : p.tables.exec = Jvm.exec) (hlk : meth.locks = false) {pc : Nat} {Ls : Array Slot} {w : Value} {t : FieldType} {rest : List Value} (hret : meth.sig.returnType = some t) (hd : decode c.code pc = .ok (.areturn, 1)) (hn : narrow t w = w) (ht : t.isReference = true) (hw : w.isRef = true)
    (hQ : Qr (some w) T.heap locs) (hc : cells ≤ R.cells) (hs : slots ≤ R.slots) : own_G p.tables e below T (mkF m pc Ls (w :: rest)) (own_P R s Qr) := by
  obtain ⟨fs, hr, hrun, hended, hW, hsame⟩ := X.leave (v := some w) (fun h => by rw [hret] at h; cases h) hlk
  exact ⟨_, _, retOut X hx hret hn (Or.inr (Or.inr (Or.inr (Or.inr ⟨rfl, ht, hw⟩)))) hd hr, hrun, hended, _, _, rfl, hQ, ⟨_, rfl⟩, hW, hsame.mono hc hs⟩
theorem own_ret0 (X : Stand p l e R s m args below meth c T locs cells slots) (hx : p.tables.exec = Jvm.exec) (hlk : meth.locks = false) {pc : Nat} {Ls : Array Slot} (hret : meth.sig.returnType = none) (hd : decode c.code pc = .ok (.return_, 1))
    (hQ : Qr none T.heap locs) (hc : cells ≤ R.cells) (hs : slots ≤ R.slots) : own_G p.tables e below T (mkF m pc Ls []) (own_P R s Qr) := by
  obtain ⟨fs, hr, hrun, hended, hW, hsame⟩ := X.leave (v := none) (fun _ => rfl) hlk
  exact ⟨_, _, X.returnOut hx hret hd hr, hrun, hended, _, _, rfl, hQ, ⟨_, rfl⟩, hW, hsame.mono hc hs⟩
theorem own_callV (X : Stand p l e R s m args below meth c T locs cells slots) (hx : p.tables.exec = Jvm.exec) (hZ : Z.Warmed39 s.vm) (eT : T.heap = h) {own C : String} {index : Nat} {y : MethodName} {bytes : ByteArray} {maxL : Nat} {ret : Option FieldType} {R' : Room} {b : Addr} {Qc : Option Value → Heap → List Loc → Prop}
    (hown : s.vm.findClass own = some m.cls) (w1 : (Jvm.Cond.methodLink own index y).before a0 Z = true) (w2 : (Jvm.Cond.declares y).before a0 Z = true) (w3 : (Jvm.Cond.selects C y y).before a0 Z = true) (w4 : (Jvm.Cond.instanceMethod y).before a0 Z = true) (w5 : (Jvm.Cond.code y bytes maxL ret).before a0 Z = true) (w6 : (Jvm.Cond.initialized y.cls).before a0 Z = true)
    (hy : y.cls ≠ "java/lang/invoke/MethodHandle" ∧ y.cls ≠ "java/lang/invoke/VarHandle") (W : Nat) (argsL rest : List Value) (hM : own_C l y bytes maxL ret [] R' (.ref b :: argsL).toArray Z h Qc) (hf : R'.frames + 1 ≤ R.frames) (hl : W + (maxL + 11) + R'.locals ≤ R.locals) (hc : cells + R'.cells ≤ R.cells) (hs : slots + R'.slots ≤ R.slots)
    (E : Exa Z h b C) {g : JFrame} (hg : g.method = m) (hsize : g.locals.size = c.maxLocals) (hlen : ∀ sig, parseMethodDescriptor y.desc = some sig → argsL.length = sig.parameters.length) (hstack : g.stack = argsL.reverse ++ .ref b :: rest) (hW : 2 * g.monitorRoom + (rest.map fun v => v.category).sum ≤ W) (hd : decode c.code g.pc = .ok (.invokevirtual index, 3)) :
    ∃ (T' : State) (L : List Loc) (v : Option Value), Stand p l e R s m args below meth c T' (locs ++ L) (cells + R'.cells) (slots + R'.slots) ∧ Qc v T'.heap L ∧ ∀ target, Steps p.tables e below (T'.setTop { g with pc := g.pc + 3, stack := v.toList ++ rest }) target → Steps p.tables e below (T.setTop g) target := by
  obtain ⟨cq, kq, qa, qb, qc⟩ := isOf hZ eT E
  obtain ⟨v, _, ⟨T2, L2, k2, n2⟩, -, X2, ⟨Lc, hQ, l2, y2, z2⟩, st⟩ := X.virtualBack hx (y := y) (z := y) hown (mvT hZ w1) (mvT hZ w2) (notFace_of_selects (args := #[]) (mvT hZ w3)) (mvT hZ w3) (mvT hZ w4) hy (backOf (W := W) hM hZ w5 w6 hf hl) qa qc (g := g) hg hsize (Steps.refl _) (argsL := argsL) (rest := rest) hlen hstack hW hd (fun _ _ => ⟨rfl, eT, hc, hs⟩)
  dsimp only [Pt.U, Pt.locs, Pt.cells, Pt.slots] at X2 l2 y2 z2 st hQ
  subst l2 y2 z2
  exact ⟨T2, Lc, v, X2, hQ, fun t k => st.trans k⟩
theorem own_callU (X : Stand p l e R s m args below meth c T locs cells slots) (hx : p.tables.exec = Jvm.exec) (hZ : Z.Warmed39 s.vm) (eT : T.heap = h) {own C owner : String} {index : Nat} {y z : MethodName} {bytes : ByteArray} {maxL : Nat} {ret : Option FieldType} {R' : Room} {b : Addr} {Qc : Option Value → Heap → List Loc → Prop}
    (hown : s.vm.findClass own = some m.cls) (w1 : (Jvm.Cond.methodLink own index z).before a0 Z = true) (w0 : (Jvm.Cond.sameMethod z.cls owner z.name z.desc).before a0 Z = true) (w2 : (Jvm.Cond.declares ⟨owner, z.name, z.desc⟩).before a0 Z = true) (w3 : (Jvm.Cond.selects C z y).before a0 Z = true) (w4 : (Jvm.Cond.instanceMethod y).before a0 Z = true) (w5 : (Jvm.Cond.code y bytes maxL ret).before a0 Z = true) (w6 : (Jvm.Cond.initialized y.cls).before a0 Z = true)
    (hy : owner ≠ "java/lang/invoke/MethodHandle" ∧ owner ≠ "java/lang/invoke/VarHandle") (W : Nat) (argsL rest : List Value) (hM : own_C l y bytes maxL ret [] R' (.ref b :: argsL).toArray Z h Qc) (hf : R'.frames + 1 ≤ R.frames) (hl : W + (maxL + 11) + R'.locals ≤ R.locals) (hc : cells + R'.cells ≤ R.cells) (hs : slots + R'.slots ≤ R.slots)
    (E : Exa Z h b C) {g : JFrame} (hg : g.method = m) (hsize : g.locals.size = c.maxLocals) (hlen : ∀ sig, parseMethodDescriptor z.desc = some sig → argsL.length = sig.parameters.length) (hstack : g.stack = argsL.reverse ++ .ref b :: rest) (hW : 2 * g.monitorRoom + (rest.map fun v => v.category).sum ≤ W) (hd : decode c.code g.pc = .ok (.invokevirtual index, 3)) :
    ∃ (T' : State) (L : List Loc) (v : Option Value), Stand p l e R s m args below meth c T' (locs ++ L) (cells + R'.cells) (slots + R'.slots) ∧ Qc v T'.heap L ∧ ∀ target, Steps p.tables e below (T'.setTop { g with pc := g.pc + 3, stack := v.toList ++ rest }) target → Steps p.tables e below (T.setTop g) target := by
  obtain ⟨cq, kq, qa, qb, qc⟩ := isOf hZ eT E
  obtain ⟨v, _, ⟨T2, L2, k2, n2⟩, -, X2, ⟨Lc, hQ, l2, y2, z2⟩, st⟩ := X.virtualBackUp hx (x := z) (y := y) hown (mvT hZ w1) (mvT hZ w0) (mvT hZ w2) hy (mvT hZ w3) (mvT hZ w4) (backOf (W := W) hM hZ w5 w6 hf hl) qa qc (g := g) hg hsize (Steps.refl _) (argsL := argsL) (rest := rest) hlen hstack hW hd (fun _ _ => ⟨rfl, eT, hc, hs⟩)
  dsimp only [Pt.U, Pt.locs, Pt.cells, Pt.slots] at X2 l2 y2 z2 st hQ
  subst l2 y2 z2
  exact ⟨T2, Lc, v, X2, hQ, fun t k => st.trans k⟩
theorem own_callS (X : Stand p l e R s m args below meth c T locs cells slots) (hx : p.tables.exec = Jvm.exec) (hZ : Z.Warmed39 s.vm) (eT : T.heap = h) {own : String} {index : Nat} {y : MethodName} {bytes : ByteArray} {maxL : Nat} {ret : Option FieldType} {R' : Room} {Qc : Option Value → Heap → List Loc → Prop}
    (hown : s.vm.findClass own = some m.cls) (w1 : (Jvm.Cond.methodLink own index y).before a0 Z = true) (w2 : (Jvm.Cond.static y).before a0 Z = true) (w5 : (Jvm.Cond.code y bytes maxL ret).before a0 Z = true) (w6 : (Jvm.Cond.initialized y.cls).before a0 Z = true)
    (hy : y.cls ≠ "java/lang/invoke/MethodHandle" ∧ y.cls ≠ "java/lang/invoke/VarHandle") (W : Nat) (argsL rest : List Value) (hM : own_C l y bytes maxL ret [] R' argsL.toArray Z h Qc) (hf : R'.frames + 1 ≤ R.frames) (hl : W + (maxL + 11) + R'.locals ≤ R.locals) (hc : cells + R'.cells ≤ R.cells) (hs : slots + R'.slots ≤ R.slots)
    {g : JFrame} (hg : g.method = m) (hsize : g.locals.size = c.maxLocals) (hlen : ∀ sig, parseMethodDescriptor y.desc = some sig → argsL.length = sig.parameters.length) (hstack : g.stack = argsL.reverse ++ rest) (hW : 2 * g.monitorRoom + (rest.map fun v => v.category).sum ≤ W) (hd : decode c.code g.pc = .ok (.invokestatic index, 3)) :
    ∃ (T' : State) (L : List Loc) (v : Option Value), Stand p l e R s m args below meth c T' (locs ++ L) (cells + R'.cells) (slots + R'.slots) ∧ Qc v T'.heap L ∧ ∀ target, Steps p.tables e below (T'.setTop { g with pc := g.pc + 3, stack := v.toList ++ rest }) target → Steps p.tables e below (T.setTop g) target := by
  obtain ⟨v, _, ⟨T2, L2, k2, n2⟩, -, X2, ⟨Lc, hQ, l2, y2, z2⟩, st⟩ := Jvm.LawKit.callS X hx (y := y) hown (mvT hZ w1) (mvT hZ w2) (mvT hZ w6) (mvT hZ w5) hy (backOf (W := W) hM hZ w5 w6 hf hl) (g := g) hg hsize (argsL := argsL) (rest := rest) hlen hstack hW hd (fun _ _ => ⟨rfl, eT, hc, hs⟩)
  dsimp only [Pt.U, Pt.locs, Pt.cells, Pt.slots] at X2 l2 y2 z2 st hQ
  subst l2 y2 z2
  exact ⟨T2, Lc, v, X2, hQ, st⟩
theorem own_callI (X : Stand p l e R s m args below meth c T locs cells slots) (hx : p.tables.exec = Jvm.exec) (hZ : Z.Warmed39 s.vm) (eT : T.heap = h) {own : String} {index : Nat} {y : MethodName} {bytes : ByteArray} {maxL : Nat} {R' : Room} {b : Addr} {Qc : Option Value → Heap → List Loc → Prop} (hy1 : y.name = "<init>")
    (hown : s.vm.findClass own = some m.cls) (w1 : (Jvm.Cond.methodLink own index y).before a0 Z = true) (w4 : (Jvm.Cond.instanceMethod y).before a0 Z = true) (w5 : (Jvm.Cond.code y bytes maxL none).before a0 Z = true) (w6 : (Jvm.Cond.initialized y.cls).before a0 Z = true)
    (hy : y.cls ≠ "java/lang/invoke/MethodHandle" ∧ y.cls ≠ "java/lang/invoke/VarHandle") (W : Nat) (argsL rest : List Value) (hM : own_C l y bytes maxL none [] R' (.ref b :: argsL).toArray Z h Qc) (hf : R'.frames + 1 ≤ R.frames) (hl : W + (maxL + 11) + R'.locals ≤ R.locals) (hc : cells + R'.cells ≤ R.cells) (hs : slots + R'.slots ≤ R.slots)
    {g : JFrame} (hg : g.method = m) (hsize : g.locals.size = c.maxLocals) (hlen : ∀ sig, parseMethodDescriptor y.desc = some sig → argsL.length = sig.parameters.length) (hstack : g.stack = argsL.reverse ++ .ref b :: rest) (hW : 2 * g.monitorRoom + (rest.map fun v => v.category).sum ≤ W) (hd : decode c.code g.pc = .ok (.invokespecial index, 3)) :
    ∃ (T' : State) (L : List Loc) (v : Option Value), Stand p l e R s m args below meth c T' (locs ++ L) (cells + R'.cells) (slots + R'.slots) ∧ Qc v T'.heap L ∧ ∀ target, Steps p.tables e below (T'.setTop { g with pc := g.pc + 3, stack := v.toList ++ rest }) target → Steps p.tables e below (T.setTop g) target := by
  obtain ⟨v, _, ⟨T2, L2, k2, n2⟩, -, X2, ⟨Lc, hQ, l2, y2, z2⟩, st⟩ := X.specialBack hx (y := y) hy1 hown (mvT hZ w1) (mvT hZ w4) (mvT hZ w5) hy (backOf (W := W) hM hZ w5 w6 hf hl) (g := g) hg hsize (Steps.refl _) (a := b) (argsL := argsL) (rest := rest) hlen hstack hW hd (fun _ _ => ⟨rfl, eT, hc, hs⟩)
  dsimp only [Pt.U, Pt.locs, Pt.cells, Pt.slots] at X2 l2 y2 z2 st hQ
  subst l2 y2 z2
  exact ⟨T2, Lc, v, X2, hQ, fun t k => st.trans k⟩
/-- a callee that leaves the heap alone: what it returns -/
abbrev own_Q0 (v : Option Value) (h0 : Heap) : Option Value → Heap → List Loc → Prop := fun v' h' L => v' = v ∧ h' = h0 ∧ L = []
abbrev own_R (f n : Nat) : Room := { frames := f, cells := 0, slots := 0, locals := n }
theorem own_pure {f n : Nat} {v : Option Value} {h0 : Heap} {P : State → Option Value → Prop}
    (q : ∃ (T' : State) (L : List Loc) (v' : Option Value), Stand p l e R s m args below meth c T' (locs ++ L) (cells + (own_R f n).cells) (slots + (own_R f n).slots) ∧ own_Q0 v h0 v' T'.heap L ∧ P T' v') : ∃ T', Stand p l e R s m args below meth c T' locs cells slots ∧ T'.heap = h0 ∧ P T' v := by
  obtain ⟨T', L, v', X, ⟨rfl, hh, rfl⟩, k⟩ := q
  rw [List.append_nil] at X
  exact ⟨T', X, hh, k⟩
theorem own_eqI {ar : Array Value} {first st : State} {o : Option Outcome} {idx : List Nat} {t : Term} {n : Int32} (q : (Jvm.Cond.eq t (.int n)).value ar first o st idx = some true) : t.eval ar first o idx st = some (.int n) := by
  simp only [Jvm.Cond.value, Term.eval] at q
  cases ht : t.eval ar first o idx st with
  | none => simp [ht] at q
  | some x => cases x <;> simp [ht] at q ⊢; exact q
theorem own_eqR {ar : Array Value} {first st : State} {o : Option Outcome} {idx : List Nat} {t u : Term} {b : Addr} (q : (Jvm.Cond.eq t u).value ar first o st idx = some true) (hu : u.eval ar first o idx st = some (.ref b)) : t.eval ar first o idx st = some (.ref b) := by
  cases ht : t.eval ar first o idx st with
  | none => simp [Jvm.Cond.value, ht] at q
  | some x => cases x <;> simp [Jvm.Cond.value, ht, hu] at q ⊢; exact q
theorem own_arrlen {ar : Array Value} {st : State} {t : Term} {a : Addr} {cl : Cell} {ty : FieldType} {n : Int32} (A : Arr st st.heap a cl ty) (ht : t.eval ar st none [] st = some (.ref a)) (hl : (Term.length t).eval ar st none [] st = some (.int n)) : cl.slots.size < 2 ^ 31 ∧ cl.slots.size.toInt32 = n := by
  have ha : st.arrayAt? a = some cl := Arr.fin (Vm.Alike.refl _) A
  by_cases q : cl.slots.size < 2 ^ 31
  · rw [len_f ht ha q] at hl
    exact ⟨q, Value.int.inj (Option.some.inj hl)⟩
  · simp [Term.eval, ht, ha, q] at hl
theorem own_neI {a b : Int32} (q : a ≠ b) : (Value.int a) ≠ (Value.int b) := fun z => q (Value.int.inj z)
end OwnKit

theorem pd_0 : parseMethodDescriptor "(IZZ)Z" = some ⟨[.int, .boolean, .boolean], some .boolean⟩ := by decide +kernel
theorem pd_1 : parseMethodDescriptor "(II)Z" = some ⟨[.int, .int], some .boolean⟩ := by decide +kernel
theorem own_c3 (z : Int32) (q0 : 0 ≤ z.toInt) (q1 : z.toInt < 3) : z = (0 : Int32) ∨ z = (1 : Int32) ∨ z = (2 : Int32) := by
  simp only [← Int32.toInt_inj, show (0 : Int32).toInt = 0 from rfl, show (1 : Int32).toInt = 1 from rfl, show (2 : Int32).toInt = 2 from rfl]
  omega
theorem own_r3 (z : Int32) : (z &&& (2147483647 : Int32)) % (3 : Int32) = (0 : Int32) ∨ (z &&& (2147483647 : Int32)) % (3 : Int32) = (1 : Int32) ∨ (z &&& (2147483647 : Int32)) % (3 : Int32) = (2 : Int32) := by
  have q := c_mask z (2147483647 : Int32) 31 (by decide) (by decide)
  have r := (c_irem (z &&& (2147483647 : Int32)) (3 : Int32) 3 rfl).1 (by omega)
  exact own_c3 _ (by omega) (by omega)
def own_F (Z : State) (h : Heap) (w_BOTH w_FIRST_ONLY w_EXACTLY_ONE : Addr) : Prop :=
  Sta Z h "com/example/witness/witness/pattern/Dfa$Combination" "BOTH" "Lcom/example/witness/witness/pattern/Dfa$Combination;" (.ref w_BOTH) ∧
  Exa Z h w_BOTH "com/example/witness/witness/pattern/Dfa$Combination" ∧
  Sta Z h "com/example/witness/witness/pattern/Dfa$Combination" "FIRST_ONLY" "Lcom/example/witness/witness/pattern/Dfa$Combination;" (.ref w_FIRST_ONLY) ∧
  Exa Z h w_FIRST_ONLY "com/example/witness/witness/pattern/Dfa$Combination" ∧
  Sta Z h "com/example/witness/witness/pattern/Dfa$Combination" "EXACTLY_ONE" "Lcom/example/witness/witness/pattern/Dfa$Combination;" (.ref w_EXACTLY_ONE) ∧
  Exa Z h w_EXACTLY_ONE "com/example/witness/witness/pattern/Dfa$Combination" ∧
  Fld Z h w_FIRST_ONLY "java/lang/Enum" "ordinal" "I" (.int (1 : Int32)) ∧
  Fld Z h w_BOTH "java/lang/Enum" "ordinal" "I" (.int (0 : Int32)) ∧
  Fld Z h w_EXACTLY_ONE "java/lang/Enum" "ordinal" "I" (.int (2 : Int32))
theorem d1_0 : decode method_2_code 0 = .ok (.iload_n 0, 1) := by decide +kernel
theorem d1_1 : decode method_2_code 1 = .ok (.ifCond .ne 17, 3) := by decide +kernel
theorem d1_4 : decode method_2_code 4 = .ok (.iload_n 1, 1) := by decide +kernel
theorem d1_5 : decode method_2_code 5 = .ok (.ifCond .eq 11, 3) := by decide +kernel
theorem d1_16 : decode method_2_code 16 = .ok (.iconst 0, 1) := by decide +kernel
theorem d1_17 : decode method_2_code 17 = .ok (.ireturn, 1) := by decide +kernel
set_option maxRecDepth 65536 in
set_option maxHeartbeats 40000000 in
theorem own_b1_000 (l : Launch) (Z : State) (a0 : Array Value) (hw : ∀ d ∈ tables_1, d.before a0 Z = true) (ws : List Jvm.Cond) (w_BOTH w_FIRST_ONLY w_EXACTLY_ONE : Addr) (h0 : Heap) (F : own_F Z h0 w_BOTH w_FIRST_ONLY w_EXACTLY_ONE)  :
    own_C l (⟨"com/example/witness/witness/pattern/CombinationGoesOnPinLaw", "rule", "(IZZ)Z"⟩ : MethodName) method_2_code 3 (some .boolean) ws (own_R 0 0) #[(.int (0 : Int32)), (.int (0 : Int32)), (.int (0 : Int32))] Z h0 (own_Q0 (some (.int (0 : Int32))) h0) := by
  have F0 := F
  obtain ⟨S_BOTH, E_BOTH, S_FIRST_ONLY, E_FIRST_ONLY, S_EXACTLY_ONE, E_EXACTLY_ONE, F_ordinal_FIRST_ONLY, F_ordinal_BOTH, F_ordinal_EXACTLY_ONE⟩ := F
  refine own_enter (LS := #[iv (0 : Int32), iv (0 : Int32), iv (0 : Int32)]) (plainFor_of_name (by first | (simp [plainName, overriddenIn, x]; done) | decide +kernel)) (fun m => by first | (simp [entryFrame, mkF, argsToLocals, Value.category, maxLocals]; done) | rfl) ?_
  intro p e s m below meth c s₁ hx hby hml hown0 hnm hret hlk hZ X0 e0 hsh
  have hown : s.vm.findClass "com/example/witness/witness/pattern/CombinationGoesOnPinLaw" = some m.cls := hown0
  refine own_pre (T' := s₁) (f' := (mkF m 1 #[iv (0 : Int32), iv (0 : Int32), iv (0 : Int32)] [(.int (0 : Int32))])) (fun t k => XS.iloadN X0.here hx rfl (hb hby d1_0) rfl k) ?_
  refine own_pre (T' := s₁) (f' := (mkF m 4 #[iv (0 : Int32), iv (0 : Int32), iv (0 : Int32)] [])) (fun t k => XS.ifNo X0.here hx rfl (hb hby d1_1) rfl ((if0 _ _).trans (teq (by decide : (0 : Int32) = (0 : Int32))).2) k) ?_
  refine own_pre (T' := s₁) (f' := (mkF m 5 #[iv (0 : Int32), iv (0 : Int32), iv (0 : Int32)] [(.int (0 : Int32))])) (fun t k => XS.iloadN X0.here hx rfl (hb hby d1_4) rfl k) ?_
  refine own_pre (T' := s₁) (f' := (mkF m 16 #[iv (0 : Int32), iv (0 : Int32), iv (0 : Int32)] [])) (fun t k => XS.ifYes X0.here hx rfl (pc0 := 5) (pc' := 16) rfl (hb hby d1_5) rfl ((if0 _ _).trans (teq (by decide : (0 : Int32) = (0 : Int32))).1) (by decide) (by decide) k) ?_
  refine own_pre (T' := s₁) (f' := (mkF m 17 #[iv (0 : Int32), iv (0 : Int32), iv (0 : Int32)] [(.int (0 : Int32))])) (fun t k => XS.iconst X0.here hx rfl (hb hby d1_16) k) ?_
  exact own_retZ X0 hx hlk hret (hb hby d1_17) rfl (⟨rfl, e0, rfl⟩) (by decide) (by decide)
set_option maxRecDepth 65536 in
set_option maxHeartbeats 40000000 in
theorem own_b1_001 (l : Launch) (Z : State) (a0 : Array Value) (hw : ∀ d ∈ tables_1, d.before a0 Z = true) (ws : List Jvm.Cond) (w_BOTH w_FIRST_ONLY w_EXACTLY_ONE : Addr) (h0 : Heap) (F : own_F Z h0 w_BOTH w_FIRST_ONLY w_EXACTLY_ONE)  :
    own_C l (⟨"com/example/witness/witness/pattern/CombinationGoesOnPinLaw", "rule", "(IZZ)Z"⟩ : MethodName) method_2_code 3 (some .boolean) ws (own_R 0 0) #[(.int (0 : Int32)), (.int (0 : Int32)), (.int (1 : Int32))] Z h0 (own_Q0 (some (.int (0 : Int32))) h0) := by
  have F0 := F
  obtain ⟨S_BOTH, E_BOTH, S_FIRST_ONLY, E_FIRST_ONLY, S_EXACTLY_ONE, E_EXACTLY_ONE, F_ordinal_FIRST_ONLY, F_ordinal_BOTH, F_ordinal_EXACTLY_ONE⟩ := F
  refine own_enter (LS := #[iv (0 : Int32), iv (0 : Int32), iv (1 : Int32)]) (plainFor_of_name (by first | (simp [plainName, overriddenIn, x]; done) | decide +kernel)) (fun m => by first | (simp [entryFrame, mkF, argsToLocals, Value.category, maxLocals]; done) | rfl) ?_
  intro p e s m below meth c s₁ hx hby hml hown0 hnm hret hlk hZ X0 e0 hsh
  have hown : s.vm.findClass "com/example/witness/witness/pattern/CombinationGoesOnPinLaw" = some m.cls := hown0
  refine own_pre (T' := s₁) (f' := (mkF m 1 #[iv (0 : Int32), iv (0 : Int32), iv (1 : Int32)] [(.int (0 : Int32))])) (fun t k => XS.iloadN X0.here hx rfl (hb hby d1_0) rfl k) ?_
  refine own_pre (T' := s₁) (f' := (mkF m 4 #[iv (0 : Int32), iv (0 : Int32), iv (1 : Int32)] [])) (fun t k => XS.ifNo X0.here hx rfl (hb hby d1_1) rfl ((if0 _ _).trans (teq (by decide : (0 : Int32) = (0 : Int32))).2) k) ?_
  refine own_pre (T' := s₁) (f' := (mkF m 5 #[iv (0 : Int32), iv (0 : Int32), iv (1 : Int32)] [(.int (0 : Int32))])) (fun t k => XS.iloadN X0.here hx rfl (hb hby d1_4) rfl k) ?_
  refine own_pre (T' := s₁) (f' := (mkF m 16 #[iv (0 : Int32), iv (0 : Int32), iv (1 : Int32)] [])) (fun t k => XS.ifYes X0.here hx rfl (pc0 := 5) (pc' := 16) rfl (hb hby d1_5) rfl ((if0 _ _).trans (teq (by decide : (0 : Int32) = (0 : Int32))).1) (by decide) (by decide) k) ?_
  refine own_pre (T' := s₁) (f' := (mkF m 17 #[iv (0 : Int32), iv (0 : Int32), iv (1 : Int32)] [(.int (0 : Int32))])) (fun t k => XS.iconst X0.here hx rfl (hb hby d1_16) k) ?_
  exact own_retZ X0 hx hlk hret (hb hby d1_17) rfl (⟨rfl, e0, rfl⟩) (by decide) (by decide)
theorem d1_8 : decode method_2_code 8 = .ok (.iload_n 2, 1) := by decide +kernel
theorem d1_9 : decode method_2_code 9 = .ok (.ifCond .eq 7, 3) := by decide +kernel
set_option maxRecDepth 65536 in
set_option maxHeartbeats 40000000 in
theorem own_b1_010 (l : Launch) (Z : State) (a0 : Array Value) (hw : ∀ d ∈ tables_1, d.before a0 Z = true) (ws : List Jvm.Cond) (w_BOTH w_FIRST_ONLY w_EXACTLY_ONE : Addr) (h0 : Heap) (F : own_F Z h0 w_BOTH w_FIRST_ONLY w_EXACTLY_ONE)  :
    own_C l (⟨"com/example/witness/witness/pattern/CombinationGoesOnPinLaw", "rule", "(IZZ)Z"⟩ : MethodName) method_2_code 3 (some .boolean) ws (own_R 0 0) #[(.int (0 : Int32)), (.int (1 : Int32)), (.int (0 : Int32))] Z h0 (own_Q0 (some (.int (0 : Int32))) h0) := by
  have F0 := F
  obtain ⟨S_BOTH, E_BOTH, S_FIRST_ONLY, E_FIRST_ONLY, S_EXACTLY_ONE, E_EXACTLY_ONE, F_ordinal_FIRST_ONLY, F_ordinal_BOTH, F_ordinal_EXACTLY_ONE⟩ := F
  refine own_enter (LS := #[iv (0 : Int32), iv (1 : Int32), iv (0 : Int32)]) (plainFor_of_name (by first | (simp [plainName, overriddenIn, x]; done) | decide +kernel)) (fun m => by first | (simp [entryFrame, mkF, argsToLocals, Value.category, maxLocals]; done) | rfl) ?_
  intro p e s m below meth c s₁ hx hby hml hown0 hnm hret hlk hZ X0 e0 hsh
  have hown : s.vm.findClass "com/example/witness/witness/pattern/CombinationGoesOnPinLaw" = some m.cls := hown0
  refine own_pre (T' := s₁) (f' := (mkF m 1 #[iv (0 : Int32), iv (1 : Int32), iv (0 : Int32)] [(.int (0 : Int32))])) (fun t k => XS.iloadN X0.here hx rfl (hb hby d1_0) rfl k) ?_
  refine own_pre (T' := s₁) (f' := (mkF m 4 #[iv (0 : Int32), iv (1 : Int32), iv (0 : Int32)] [])) (fun t k => XS.ifNo X0.here hx rfl (hb hby d1_1) rfl ((if0 _ _).trans (teq (by decide : (0 : Int32) = (0 : Int32))).2) k) ?_
  refine own_pre (T' := s₁) (f' := (mkF m 5 #[iv (0 : Int32), iv (1 : Int32), iv (0 : Int32)] [(.int (1 : Int32))])) (fun t k => XS.iloadN X0.here hx rfl (hb hby d1_4) rfl k) ?_
  refine own_pre (T' := s₁) (f' := (mkF m 8 #[iv (0 : Int32), iv (1 : Int32), iv (0 : Int32)] [])) (fun t k => XS.ifNo X0.here hx rfl (hb hby d1_5) rfl ((if0 _ _).trans (feq (by decide : ¬ ((1 : Int32) = (0 : Int32)))).1) k) ?_
  refine own_pre (T' := s₁) (f' := (mkF m 9 #[iv (0 : Int32), iv (1 : Int32), iv (0 : Int32)] [(.int (0 : Int32))])) (fun t k => XS.iloadN X0.here hx rfl (hb hby d1_8) rfl k) ?_
  refine own_pre (T' := s₁) (f' := (mkF m 16 #[iv (0 : Int32), iv (1 : Int32), iv (0 : Int32)] [])) (fun t k => XS.ifYes X0.here hx rfl (pc0 := 9) (pc' := 16) rfl (hb hby d1_9) rfl ((if0 _ _).trans (teq (by decide : (0 : Int32) = (0 : Int32))).1) (by decide) (by decide) k) ?_
  refine own_pre (T' := s₁) (f' := (mkF m 17 #[iv (0 : Int32), iv (1 : Int32), iv (0 : Int32)] [(.int (0 : Int32))])) (fun t k => XS.iconst X0.here hx rfl (hb hby d1_16) k) ?_
  exact own_retZ X0 hx hlk hret (hb hby d1_17) rfl (⟨rfl, e0, rfl⟩) (by decide) (by decide)
theorem d1_12 : decode method_2_code 12 = .ok (.iconst 1, 1) := by decide +kernel
theorem d1_13 : decode method_2_code 13 = .ok (.goto 4, 3) := by decide +kernel
set_option maxRecDepth 65536 in
set_option maxHeartbeats 40000000 in
theorem own_b1_011 (l : Launch) (Z : State) (a0 : Array Value) (hw : ∀ d ∈ tables_1, d.before a0 Z = true) (ws : List Jvm.Cond) (w_BOTH w_FIRST_ONLY w_EXACTLY_ONE : Addr) (h0 : Heap) (F : own_F Z h0 w_BOTH w_FIRST_ONLY w_EXACTLY_ONE)  :
    own_C l (⟨"com/example/witness/witness/pattern/CombinationGoesOnPinLaw", "rule", "(IZZ)Z"⟩ : MethodName) method_2_code 3 (some .boolean) ws (own_R 0 0) #[(.int (0 : Int32)), (.int (1 : Int32)), (.int (1 : Int32))] Z h0 (own_Q0 (some (.int (1 : Int32))) h0) := by
  have F0 := F
  obtain ⟨S_BOTH, E_BOTH, S_FIRST_ONLY, E_FIRST_ONLY, S_EXACTLY_ONE, E_EXACTLY_ONE, F_ordinal_FIRST_ONLY, F_ordinal_BOTH, F_ordinal_EXACTLY_ONE⟩ := F
  refine own_enter (LS := #[iv (0 : Int32), iv (1 : Int32), iv (1 : Int32)]) (plainFor_of_name (by first | (simp [plainName, overriddenIn, x]; done) | decide +kernel)) (fun m => by first | (simp [entryFrame, mkF, argsToLocals, Value.category, maxLocals]; done) | rfl) ?_
  intro p e s m below meth c s₁ hx hby hml hown0 hnm hret hlk hZ X0 e0 hsh
  have hown : s.vm.findClass "com/example/witness/witness/pattern/CombinationGoesOnPinLaw" = some m.cls := hown0
  refine own_pre (T' := s₁) (f' := (mkF m 1 #[iv (0 : Int32), iv (1 : Int32), iv (1 : Int32)] [(.int (0 : Int32))])) (fun t k => XS.iloadN X0.here hx rfl (hb hby d1_0) rfl k) ?_
  refine own_pre (T' := s₁) (f' := (mkF m 4 #[iv (0 : Int32), iv (1 : Int32), iv (1 : Int32)] [])) (fun t k => XS.ifNo X0.here hx rfl (hb hby d1_1) rfl ((if0 _ _).trans (teq (by decide : (0 : Int32) = (0 : Int32))).2) k) ?_
  refine own_pre (T' := s₁) (f' := (mkF m 5 #[iv (0 : Int32), iv (1 : Int32), iv (1 : Int32)] [(.int (1 : Int32))])) (fun t k => XS.iloadN X0.here hx rfl (hb hby d1_4) rfl k) ?_
  refine own_pre (T' := s₁) (f' := (mkF m 8 #[iv (0 : Int32), iv (1 : Int32), iv (1 : Int32)] [])) (fun t k => XS.ifNo X0.here hx rfl (hb hby d1_5) rfl ((if0 _ _).trans (feq (by decide : ¬ ((1 : Int32) = (0 : Int32)))).1) k) ?_
  refine own_pre (T' := s₁) (f' := (mkF m 9 #[iv (0 : Int32), iv (1 : Int32), iv (1 : Int32)] [(.int (1 : Int32))])) (fun t k => XS.iloadN X0.here hx rfl (hb hby d1_8) rfl k) ?_
  refine own_pre (T' := s₁) (f' := (mkF m 12 #[iv (0 : Int32), iv (1 : Int32), iv (1 : Int32)] [])) (fun t k => XS.ifNo X0.here hx rfl (hb hby d1_9) rfl ((if0 _ _).trans (feq (by decide : ¬ ((1 : Int32) = (0 : Int32)))).1) k) ?_
  refine own_pre (T' := s₁) (f' := (mkF m 13 #[iv (0 : Int32), iv (1 : Int32), iv (1 : Int32)] [(.int (1 : Int32))])) (fun t k => XS.iconst X0.here hx rfl (hb hby d1_12) k) ?_
  refine own_pre (T' := s₁) (f' := (mkF m 17 #[iv (0 : Int32), iv (1 : Int32), iv (1 : Int32)] [(.int (1 : Int32))])) (fun t k => XS.goto X0.here hx rfl (pc0 := 13) (pc' := 17) rfl (hb hby d1_13) (by decide) (by decide) k) ?_
  exact own_retZ X0 hx hlk hret (hb hby d1_17) rfl (⟨rfl, e0, rfl⟩) (by decide) (by decide)
theorem d1_18 : decode method_2_code 18 = .ok (.iload_n 0, 1) := by decide +kernel
theorem d1_19 : decode method_2_code 19 = .ok (.iconst 1, 1) := by decide +kernel
theorem d1_20 : decode method_2_code 20 = .ok (.if_icmp .ne 17, 3) := by decide +kernel
theorem d1_23 : decode method_2_code 23 = .ok (.iload_n 1, 1) := by decide +kernel
theorem d1_24 : decode method_2_code 24 = .ok (.ifCond .eq 11, 3) := by decide +kernel
theorem d1_35 : decode method_2_code 35 = .ok (.iconst 0, 1) := by decide +kernel
theorem d1_36 : decode method_2_code 36 = .ok (.ireturn, 1) := by decide +kernel
set_option maxRecDepth 65536 in
set_option maxHeartbeats 40000000 in
theorem own_b1_100 (l : Launch) (Z : State) (a0 : Array Value) (hw : ∀ d ∈ tables_1, d.before a0 Z = true) (ws : List Jvm.Cond) (w_BOTH w_FIRST_ONLY w_EXACTLY_ONE : Addr) (h0 : Heap) (F : own_F Z h0 w_BOTH w_FIRST_ONLY w_EXACTLY_ONE)  :
    own_C l (⟨"com/example/witness/witness/pattern/CombinationGoesOnPinLaw", "rule", "(IZZ)Z"⟩ : MethodName) method_2_code 3 (some .boolean) ws (own_R 0 0) #[(.int (1 : Int32)), (.int (0 : Int32)), (.int (0 : Int32))] Z h0 (own_Q0 (some (.int (0 : Int32))) h0) := by
  have F0 := F
  obtain ⟨S_BOTH, E_BOTH, S_FIRST_ONLY, E_FIRST_ONLY, S_EXACTLY_ONE, E_EXACTLY_ONE, F_ordinal_FIRST_ONLY, F_ordinal_BOTH, F_ordinal_EXACTLY_ONE⟩ := F
  refine own_enter (LS := #[iv (1 : Int32), iv (0 : Int32), iv (0 : Int32)]) (plainFor_of_name (by first | (simp [plainName, overriddenIn, x]; done) | decide +kernel)) (fun m => by first | (simp [entryFrame, mkF, argsToLocals, Value.category, maxLocals]; done) | rfl) ?_
  intro p e s m below meth c s₁ hx hby hml hown0 hnm hret hlk hZ X0 e0 hsh
  have hown : s.vm.findClass "com/example/witness/witness/pattern/CombinationGoesOnPinLaw" = some m.cls := hown0
  refine own_pre (T' := s₁) (f' := (mkF m 1 #[iv (1 : Int32), iv (0 : Int32), iv (0 : Int32)] [(.int (1 : Int32))])) (fun t k => XS.iloadN X0.here hx rfl (hb hby d1_0) rfl k) ?_
  refine own_pre (T' := s₁) (f' := (mkF m 18 #[iv (1 : Int32), iv (0 : Int32), iv (0 : Int32)] [])) (fun t k => XS.ifYes X0.here hx rfl (pc0 := 1) (pc' := 18) rfl (hb hby d1_1) rfl ((if0 _ _).trans (feq (by decide : ¬ ((1 : Int32) = (0 : Int32)))).2) (by decide) (by decide) k) ?_
  refine own_pre (T' := s₁) (f' := (mkF m 19 #[iv (1 : Int32), iv (0 : Int32), iv (0 : Int32)] [(.int (1 : Int32))])) (fun t k => XS.iloadN X0.here hx rfl (hb hby d1_18) rfl k) ?_
  refine own_pre (T' := s₁) (f' := (mkF m 20 #[iv (1 : Int32), iv (0 : Int32), iv (0 : Int32)] [(.int (1 : Int32)), (.int (1 : Int32))])) (fun t k => XS.iconst X0.here hx rfl (hb hby d1_19) k) ?_
  refine own_pre (T' := s₁) (f' := (mkF m 23 #[iv (1 : Int32), iv (0 : Int32), iv (0 : Int32)] [])) (fun t k => XS.icmpNo X0.here hx rfl (hb hby d1_20) rfl (teq (by decide : (1 : Int32) = (1 : Int32))).2 k) ?_
  refine own_pre (T' := s₁) (f' := (mkF m 24 #[iv (1 : Int32), iv (0 : Int32), iv (0 : Int32)] [(.int (0 : Int32))])) (fun t k => XS.iloadN X0.here hx rfl (hb hby d1_23) rfl k) ?_
  refine own_pre (T' := s₁) (f' := (mkF m 35 #[iv (1 : Int32), iv (0 : Int32), iv (0 : Int32)] [])) (fun t k => XS.ifYes X0.here hx rfl (pc0 := 24) (pc' := 35) rfl (hb hby d1_24) rfl ((if0 _ _).trans (teq (by decide : (0 : Int32) = (0 : Int32))).1) (by decide) (by decide) k) ?_
  refine own_pre (T' := s₁) (f' := (mkF m 36 #[iv (1 : Int32), iv (0 : Int32), iv (0 : Int32)] [(.int (0 : Int32))])) (fun t k => XS.iconst X0.here hx rfl (hb hby d1_35) k) ?_
  exact own_retZ X0 hx hlk hret (hb hby d1_36) rfl (⟨rfl, e0, rfl⟩) (by decide) (by decide)
set_option maxRecDepth 65536 in
set_option maxHeartbeats 40000000 in
theorem own_b1_101 (l : Launch) (Z : State) (a0 : Array Value) (hw : ∀ d ∈ tables_1, d.before a0 Z = true) (ws : List Jvm.Cond) (w_BOTH w_FIRST_ONLY w_EXACTLY_ONE : Addr) (h0 : Heap) (F : own_F Z h0 w_BOTH w_FIRST_ONLY w_EXACTLY_ONE)  :
    own_C l (⟨"com/example/witness/witness/pattern/CombinationGoesOnPinLaw", "rule", "(IZZ)Z"⟩ : MethodName) method_2_code 3 (some .boolean) ws (own_R 0 0) #[(.int (1 : Int32)), (.int (0 : Int32)), (.int (1 : Int32))] Z h0 (own_Q0 (some (.int (0 : Int32))) h0) := by
  have F0 := F
  obtain ⟨S_BOTH, E_BOTH, S_FIRST_ONLY, E_FIRST_ONLY, S_EXACTLY_ONE, E_EXACTLY_ONE, F_ordinal_FIRST_ONLY, F_ordinal_BOTH, F_ordinal_EXACTLY_ONE⟩ := F
  refine own_enter (LS := #[iv (1 : Int32), iv (0 : Int32), iv (1 : Int32)]) (plainFor_of_name (by first | (simp [plainName, overriddenIn, x]; done) | decide +kernel)) (fun m => by first | (simp [entryFrame, mkF, argsToLocals, Value.category, maxLocals]; done) | rfl) ?_
  intro p e s m below meth c s₁ hx hby hml hown0 hnm hret hlk hZ X0 e0 hsh
  have hown : s.vm.findClass "com/example/witness/witness/pattern/CombinationGoesOnPinLaw" = some m.cls := hown0
  refine own_pre (T' := s₁) (f' := (mkF m 1 #[iv (1 : Int32), iv (0 : Int32), iv (1 : Int32)] [(.int (1 : Int32))])) (fun t k => XS.iloadN X0.here hx rfl (hb hby d1_0) rfl k) ?_
  refine own_pre (T' := s₁) (f' := (mkF m 18 #[iv (1 : Int32), iv (0 : Int32), iv (1 : Int32)] [])) (fun t k => XS.ifYes X0.here hx rfl (pc0 := 1) (pc' := 18) rfl (hb hby d1_1) rfl ((if0 _ _).trans (feq (by decide : ¬ ((1 : Int32) = (0 : Int32)))).2) (by decide) (by decide) k) ?_
  refine own_pre (T' := s₁) (f' := (mkF m 19 #[iv (1 : Int32), iv (0 : Int32), iv (1 : Int32)] [(.int (1 : Int32))])) (fun t k => XS.iloadN X0.here hx rfl (hb hby d1_18) rfl k) ?_
  refine own_pre (T' := s₁) (f' := (mkF m 20 #[iv (1 : Int32), iv (0 : Int32), iv (1 : Int32)] [(.int (1 : Int32)), (.int (1 : Int32))])) (fun t k => XS.iconst X0.here hx rfl (hb hby d1_19) k) ?_
  refine own_pre (T' := s₁) (f' := (mkF m 23 #[iv (1 : Int32), iv (0 : Int32), iv (1 : Int32)] [])) (fun t k => XS.icmpNo X0.here hx rfl (hb hby d1_20) rfl (teq (by decide : (1 : Int32) = (1 : Int32))).2 k) ?_
  refine own_pre (T' := s₁) (f' := (mkF m 24 #[iv (1 : Int32), iv (0 : Int32), iv (1 : Int32)] [(.int (0 : Int32))])) (fun t k => XS.iloadN X0.here hx rfl (hb hby d1_23) rfl k) ?_
  refine own_pre (T' := s₁) (f' := (mkF m 35 #[iv (1 : Int32), iv (0 : Int32), iv (1 : Int32)] [])) (fun t k => XS.ifYes X0.here hx rfl (pc0 := 24) (pc' := 35) rfl (hb hby d1_24) rfl ((if0 _ _).trans (teq (by decide : (0 : Int32) = (0 : Int32))).1) (by decide) (by decide) k) ?_
  refine own_pre (T' := s₁) (f' := (mkF m 36 #[iv (1 : Int32), iv (0 : Int32), iv (1 : Int32)] [(.int (0 : Int32))])) (fun t k => XS.iconst X0.here hx rfl (hb hby d1_35) k) ?_
  exact own_retZ X0 hx hlk hret (hb hby d1_36) rfl (⟨rfl, e0, rfl⟩) (by decide) (by decide)
theorem d1_27 : decode method_2_code 27 = .ok (.iload_n 2, 1) := by decide +kernel
theorem d1_28 : decode method_2_code 28 = .ok (.ifCond .ne 7, 3) := by decide +kernel
theorem d1_31 : decode method_2_code 31 = .ok (.iconst 1, 1) := by decide +kernel
theorem d1_32 : decode method_2_code 32 = .ok (.goto 4, 3) := by decide +kernel
set_option maxRecDepth 65536 in
set_option maxHeartbeats 40000000 in
theorem own_b1_110 (l : Launch) (Z : State) (a0 : Array Value) (hw : ∀ d ∈ tables_1, d.before a0 Z = true) (ws : List Jvm.Cond) (w_BOTH w_FIRST_ONLY w_EXACTLY_ONE : Addr) (h0 : Heap) (F : own_F Z h0 w_BOTH w_FIRST_ONLY w_EXACTLY_ONE)  :
    own_C l (⟨"com/example/witness/witness/pattern/CombinationGoesOnPinLaw", "rule", "(IZZ)Z"⟩ : MethodName) method_2_code 3 (some .boolean) ws (own_R 0 0) #[(.int (1 : Int32)), (.int (1 : Int32)), (.int (0 : Int32))] Z h0 (own_Q0 (some (.int (1 : Int32))) h0) := by
  have F0 := F
  obtain ⟨S_BOTH, E_BOTH, S_FIRST_ONLY, E_FIRST_ONLY, S_EXACTLY_ONE, E_EXACTLY_ONE, F_ordinal_FIRST_ONLY, F_ordinal_BOTH, F_ordinal_EXACTLY_ONE⟩ := F
  refine own_enter (LS := #[iv (1 : Int32), iv (1 : Int32), iv (0 : Int32)]) (plainFor_of_name (by first | (simp [plainName, overriddenIn, x]; done) | decide +kernel)) (fun m => by first | (simp [entryFrame, mkF, argsToLocals, Value.category, maxLocals]; done) | rfl) ?_
  intro p e s m below meth c s₁ hx hby hml hown0 hnm hret hlk hZ X0 e0 hsh
  have hown : s.vm.findClass "com/example/witness/witness/pattern/CombinationGoesOnPinLaw" = some m.cls := hown0
  refine own_pre (T' := s₁) (f' := (mkF m 1 #[iv (1 : Int32), iv (1 : Int32), iv (0 : Int32)] [(.int (1 : Int32))])) (fun t k => XS.iloadN X0.here hx rfl (hb hby d1_0) rfl k) ?_
  refine own_pre (T' := s₁) (f' := (mkF m 18 #[iv (1 : Int32), iv (1 : Int32), iv (0 : Int32)] [])) (fun t k => XS.ifYes X0.here hx rfl (pc0 := 1) (pc' := 18) rfl (hb hby d1_1) rfl ((if0 _ _).trans (feq (by decide : ¬ ((1 : Int32) = (0 : Int32)))).2) (by decide) (by decide) k) ?_
  refine own_pre (T' := s₁) (f' := (mkF m 19 #[iv (1 : Int32), iv (1 : Int32), iv (0 : Int32)] [(.int (1 : Int32))])) (fun t k => XS.iloadN X0.here hx rfl (hb hby d1_18) rfl k) ?_
  refine own_pre (T' := s₁) (f' := (mkF m 20 #[iv (1 : Int32), iv (1 : Int32), iv (0 : Int32)] [(.int (1 : Int32)), (.int (1 : Int32))])) (fun t k => XS.iconst X0.here hx rfl (hb hby d1_19) k) ?_
  refine own_pre (T' := s₁) (f' := (mkF m 23 #[iv (1 : Int32), iv (1 : Int32), iv (0 : Int32)] [])) (fun t k => XS.icmpNo X0.here hx rfl (hb hby d1_20) rfl (teq (by decide : (1 : Int32) = (1 : Int32))).2 k) ?_
  refine own_pre (T' := s₁) (f' := (mkF m 24 #[iv (1 : Int32), iv (1 : Int32), iv (0 : Int32)] [(.int (1 : Int32))])) (fun t k => XS.iloadN X0.here hx rfl (hb hby d1_23) rfl k) ?_
  refine own_pre (T' := s₁) (f' := (mkF m 27 #[iv (1 : Int32), iv (1 : Int32), iv (0 : Int32)] [])) (fun t k => XS.ifNo X0.here hx rfl (hb hby d1_24) rfl ((if0 _ _).trans (feq (by decide : ¬ ((1 : Int32) = (0 : Int32)))).1) k) ?_
  refine own_pre (T' := s₁) (f' := (mkF m 28 #[iv (1 : Int32), iv (1 : Int32), iv (0 : Int32)] [(.int (0 : Int32))])) (fun t k => XS.iloadN X0.here hx rfl (hb hby d1_27) rfl k) ?_
  refine own_pre (T' := s₁) (f' := (mkF m 31 #[iv (1 : Int32), iv (1 : Int32), iv (0 : Int32)] [])) (fun t k => XS.ifNo X0.here hx rfl (hb hby d1_28) rfl ((if0 _ _).trans (teq (by decide : (0 : Int32) = (0 : Int32))).2) k) ?_
  refine own_pre (T' := s₁) (f' := (mkF m 32 #[iv (1 : Int32), iv (1 : Int32), iv (0 : Int32)] [(.int (1 : Int32))])) (fun t k => XS.iconst X0.here hx rfl (hb hby d1_31) k) ?_
  refine own_pre (T' := s₁) (f' := (mkF m 36 #[iv (1 : Int32), iv (1 : Int32), iv (0 : Int32)] [(.int (1 : Int32))])) (fun t k => XS.goto X0.here hx rfl (pc0 := 32) (pc' := 36) rfl (hb hby d1_32) (by decide) (by decide) k) ?_
  exact own_retZ X0 hx hlk hret (hb hby d1_36) rfl (⟨rfl, e0, rfl⟩) (by decide) (by decide)
set_option maxRecDepth 65536 in
set_option maxHeartbeats 40000000 in
theorem own_b1_111 (l : Launch) (Z : State) (a0 : Array Value) (hw : ∀ d ∈ tables_1, d.before a0 Z = true) (ws : List Jvm.Cond) (w_BOTH w_FIRST_ONLY w_EXACTLY_ONE : Addr) (h0 : Heap) (F : own_F Z h0 w_BOTH w_FIRST_ONLY w_EXACTLY_ONE)  :
    own_C l (⟨"com/example/witness/witness/pattern/CombinationGoesOnPinLaw", "rule", "(IZZ)Z"⟩ : MethodName) method_2_code 3 (some .boolean) ws (own_R 0 0) #[(.int (1 : Int32)), (.int (1 : Int32)), (.int (1 : Int32))] Z h0 (own_Q0 (some (.int (0 : Int32))) h0) := by
  have F0 := F
  obtain ⟨S_BOTH, E_BOTH, S_FIRST_ONLY, E_FIRST_ONLY, S_EXACTLY_ONE, E_EXACTLY_ONE, F_ordinal_FIRST_ONLY, F_ordinal_BOTH, F_ordinal_EXACTLY_ONE⟩ := F
  refine own_enter (LS := #[iv (1 : Int32), iv (1 : Int32), iv (1 : Int32)]) (plainFor_of_name (by first | (simp [plainName, overriddenIn, x]; done) | decide +kernel)) (fun m => by first | (simp [entryFrame, mkF, argsToLocals, Value.category, maxLocals]; done) | rfl) ?_
  intro p e s m below meth c s₁ hx hby hml hown0 hnm hret hlk hZ X0 e0 hsh
  have hown : s.vm.findClass "com/example/witness/witness/pattern/CombinationGoesOnPinLaw" = some m.cls := hown0
  refine own_pre (T' := s₁) (f' := (mkF m 1 #[iv (1 : Int32), iv (1 : Int32), iv (1 : Int32)] [(.int (1 : Int32))])) (fun t k => XS.iloadN X0.here hx rfl (hb hby d1_0) rfl k) ?_
  refine own_pre (T' := s₁) (f' := (mkF m 18 #[iv (1 : Int32), iv (1 : Int32), iv (1 : Int32)] [])) (fun t k => XS.ifYes X0.here hx rfl (pc0 := 1) (pc' := 18) rfl (hb hby d1_1) rfl ((if0 _ _).trans (feq (by decide : ¬ ((1 : Int32) = (0 : Int32)))).2) (by decide) (by decide) k) ?_
  refine own_pre (T' := s₁) (f' := (mkF m 19 #[iv (1 : Int32), iv (1 : Int32), iv (1 : Int32)] [(.int (1 : Int32))])) (fun t k => XS.iloadN X0.here hx rfl (hb hby d1_18) rfl k) ?_
  refine own_pre (T' := s₁) (f' := (mkF m 20 #[iv (1 : Int32), iv (1 : Int32), iv (1 : Int32)] [(.int (1 : Int32)), (.int (1 : Int32))])) (fun t k => XS.iconst X0.here hx rfl (hb hby d1_19) k) ?_
  refine own_pre (T' := s₁) (f' := (mkF m 23 #[iv (1 : Int32), iv (1 : Int32), iv (1 : Int32)] [])) (fun t k => XS.icmpNo X0.here hx rfl (hb hby d1_20) rfl (teq (by decide : (1 : Int32) = (1 : Int32))).2 k) ?_
  refine own_pre (T' := s₁) (f' := (mkF m 24 #[iv (1 : Int32), iv (1 : Int32), iv (1 : Int32)] [(.int (1 : Int32))])) (fun t k => XS.iloadN X0.here hx rfl (hb hby d1_23) rfl k) ?_
  refine own_pre (T' := s₁) (f' := (mkF m 27 #[iv (1 : Int32), iv (1 : Int32), iv (1 : Int32)] [])) (fun t k => XS.ifNo X0.here hx rfl (hb hby d1_24) rfl ((if0 _ _).trans (feq (by decide : ¬ ((1 : Int32) = (0 : Int32)))).1) k) ?_
  refine own_pre (T' := s₁) (f' := (mkF m 28 #[iv (1 : Int32), iv (1 : Int32), iv (1 : Int32)] [(.int (1 : Int32))])) (fun t k => XS.iloadN X0.here hx rfl (hb hby d1_27) rfl k) ?_
  refine own_pre (T' := s₁) (f' := (mkF m 35 #[iv (1 : Int32), iv (1 : Int32), iv (1 : Int32)] [])) (fun t k => XS.ifYes X0.here hx rfl (pc0 := 28) (pc' := 35) rfl (hb hby d1_28) rfl ((if0 _ _).trans (feq (by decide : ¬ ((1 : Int32) = (0 : Int32)))).2) (by decide) (by decide) k) ?_
  refine own_pre (T' := s₁) (f' := (mkF m 36 #[iv (1 : Int32), iv (1 : Int32), iv (1 : Int32)] [(.int (0 : Int32))])) (fun t k => XS.iconst X0.here hx rfl (hb hby d1_35) k) ?_
  exact own_retZ X0 hx hlk hret (hb hby d1_36) rfl (⟨rfl, e0, rfl⟩) (by decide) (by decide)
theorem d1_37 : decode method_2_code 37 = .ok (.iload_n 1, 1) := by decide +kernel
theorem d1_38 : decode method_2_code 38 = .ok (.iload_n 2, 1) := by decide +kernel
theorem d1_39 : decode method_2_code 39 = .ok (.if_icmp .eq 7, 3) := by decide +kernel
theorem d1_46 : decode method_2_code 46 = .ok (.iconst 0, 1) := by decide +kernel
theorem d1_47 : decode method_2_code 47 = .ok (.ireturn, 1) := by decide +kernel
set_option maxRecDepth 65536 in
set_option maxHeartbeats 40000000 in
theorem own_b1_200 (l : Launch) (Z : State) (a0 : Array Value) (hw : ∀ d ∈ tables_1, d.before a0 Z = true) (ws : List Jvm.Cond) (w_BOTH w_FIRST_ONLY w_EXACTLY_ONE : Addr) (h0 : Heap) (F : own_F Z h0 w_BOTH w_FIRST_ONLY w_EXACTLY_ONE)  :
    own_C l (⟨"com/example/witness/witness/pattern/CombinationGoesOnPinLaw", "rule", "(IZZ)Z"⟩ : MethodName) method_2_code 3 (some .boolean) ws (own_R 0 0) #[(.int (2 : Int32)), (.int (0 : Int32)), (.int (0 : Int32))] Z h0 (own_Q0 (some (.int (0 : Int32))) h0) := by
  have F0 := F
  obtain ⟨S_BOTH, E_BOTH, S_FIRST_ONLY, E_FIRST_ONLY, S_EXACTLY_ONE, E_EXACTLY_ONE, F_ordinal_FIRST_ONLY, F_ordinal_BOTH, F_ordinal_EXACTLY_ONE⟩ := F
  refine own_enter (LS := #[iv (2 : Int32), iv (0 : Int32), iv (0 : Int32)]) (plainFor_of_name (by first | (simp [plainName, overriddenIn, x]; done) | decide +kernel)) (fun m => by first | (simp [entryFrame, mkF, argsToLocals, Value.category, maxLocals]; done) | rfl) ?_
  intro p e s m below meth c s₁ hx hby hml hown0 hnm hret hlk hZ X0 e0 hsh
  have hown : s.vm.findClass "com/example/witness/witness/pattern/CombinationGoesOnPinLaw" = some m.cls := hown0
  refine own_pre (T' := s₁) (f' := (mkF m 1 #[iv (2 : Int32), iv (0 : Int32), iv (0 : Int32)] [(.int (2 : Int32))])) (fun t k => XS.iloadN X0.here hx rfl (hb hby d1_0) rfl k) ?_
  refine own_pre (T' := s₁) (f' := (mkF m 18 #[iv (2 : Int32), iv (0 : Int32), iv (0 : Int32)] [])) (fun t k => XS.ifYes X0.here hx rfl (pc0 := 1) (pc' := 18) rfl (hb hby d1_1) rfl ((if0 _ _).trans (feq (by decide : ¬ ((2 : Int32) = (0 : Int32)))).2) (by decide) (by decide) k) ?_
  refine own_pre (T' := s₁) (f' := (mkF m 19 #[iv (2 : Int32), iv (0 : Int32), iv (0 : Int32)] [(.int (2 : Int32))])) (fun t k => XS.iloadN X0.here hx rfl (hb hby d1_18) rfl k) ?_
  refine own_pre (T' := s₁) (f' := (mkF m 20 #[iv (2 : Int32), iv (0 : Int32), iv (0 : Int32)] [(.int (1 : Int32)), (.int (2 : Int32))])) (fun t k => XS.iconst X0.here hx rfl (hb hby d1_19) k) ?_
  refine own_pre (T' := s₁) (f' := (mkF m 37 #[iv (2 : Int32), iv (0 : Int32), iv (0 : Int32)] [])) (fun t k => XS.icmpYes X0.here hx rfl (pc0 := 20) (pc' := 37) rfl (hb hby d1_20) rfl (feq (by decide : ¬ ((2 : Int32) = (1 : Int32)))).2 (by decide) (by decide) k) ?_
  refine own_pre (T' := s₁) (f' := (mkF m 38 #[iv (2 : Int32), iv (0 : Int32), iv (0 : Int32)] [(.int (0 : Int32))])) (fun t k => XS.iloadN X0.here hx rfl (hb hby d1_37) rfl k) ?_
  refine own_pre (T' := s₁) (f' := (mkF m 39 #[iv (2 : Int32), iv (0 : Int32), iv (0 : Int32)] [(.int (0 : Int32)), (.int (0 : Int32))])) (fun t k => XS.iloadN X0.here hx rfl (hb hby d1_38) rfl k) ?_
  refine own_pre (T' := s₁) (f' := (mkF m 46 #[iv (2 : Int32), iv (0 : Int32), iv (0 : Int32)] [])) (fun t k => XS.icmpYes X0.here hx rfl (pc0 := 39) (pc' := 46) rfl (hb hby d1_39) rfl (teq (by decide : (0 : Int32) = (0 : Int32))).1 (by decide) (by decide) k) ?_
  refine own_pre (T' := s₁) (f' := (mkF m 47 #[iv (2 : Int32), iv (0 : Int32), iv (0 : Int32)] [(.int (0 : Int32))])) (fun t k => XS.iconst X0.here hx rfl (hb hby d1_46) k) ?_
  exact own_retZ X0 hx hlk hret (hb hby d1_47) rfl (⟨rfl, e0, rfl⟩) (by decide) (by decide)
theorem d1_42 : decode method_2_code 42 = .ok (.iconst 1, 1) := by decide +kernel
theorem d1_43 : decode method_2_code 43 = .ok (.goto 4, 3) := by decide +kernel
set_option maxRecDepth 65536 in
set_option maxHeartbeats 40000000 in
theorem own_b1_201 (l : Launch) (Z : State) (a0 : Array Value) (hw : ∀ d ∈ tables_1, d.before a0 Z = true) (ws : List Jvm.Cond) (w_BOTH w_FIRST_ONLY w_EXACTLY_ONE : Addr) (h0 : Heap) (F : own_F Z h0 w_BOTH w_FIRST_ONLY w_EXACTLY_ONE)  :
    own_C l (⟨"com/example/witness/witness/pattern/CombinationGoesOnPinLaw", "rule", "(IZZ)Z"⟩ : MethodName) method_2_code 3 (some .boolean) ws (own_R 0 0) #[(.int (2 : Int32)), (.int (0 : Int32)), (.int (1 : Int32))] Z h0 (own_Q0 (some (.int (1 : Int32))) h0) := by
  have F0 := F
  obtain ⟨S_BOTH, E_BOTH, S_FIRST_ONLY, E_FIRST_ONLY, S_EXACTLY_ONE, E_EXACTLY_ONE, F_ordinal_FIRST_ONLY, F_ordinal_BOTH, F_ordinal_EXACTLY_ONE⟩ := F
  refine own_enter (LS := #[iv (2 : Int32), iv (0 : Int32), iv (1 : Int32)]) (plainFor_of_name (by first | (simp [plainName, overriddenIn, x]; done) | decide +kernel)) (fun m => by first | (simp [entryFrame, mkF, argsToLocals, Value.category, maxLocals]; done) | rfl) ?_
  intro p e s m below meth c s₁ hx hby hml hown0 hnm hret hlk hZ X0 e0 hsh
  have hown : s.vm.findClass "com/example/witness/witness/pattern/CombinationGoesOnPinLaw" = some m.cls := hown0
  refine own_pre (T' := s₁) (f' := (mkF m 1 #[iv (2 : Int32), iv (0 : Int32), iv (1 : Int32)] [(.int (2 : Int32))])) (fun t k => XS.iloadN X0.here hx rfl (hb hby d1_0) rfl k) ?_
  refine own_pre (T' := s₁) (f' := (mkF m 18 #[iv (2 : Int32), iv (0 : Int32), iv (1 : Int32)] [])) (fun t k => XS.ifYes X0.here hx rfl (pc0 := 1) (pc' := 18) rfl (hb hby d1_1) rfl ((if0 _ _).trans (feq (by decide : ¬ ((2 : Int32) = (0 : Int32)))).2) (by decide) (by decide) k) ?_
  refine own_pre (T' := s₁) (f' := (mkF m 19 #[iv (2 : Int32), iv (0 : Int32), iv (1 : Int32)] [(.int (2 : Int32))])) (fun t k => XS.iloadN X0.here hx rfl (hb hby d1_18) rfl k) ?_
  refine own_pre (T' := s₁) (f' := (mkF m 20 #[iv (2 : Int32), iv (0 : Int32), iv (1 : Int32)] [(.int (1 : Int32)), (.int (2 : Int32))])) (fun t k => XS.iconst X0.here hx rfl (hb hby d1_19) k) ?_
  refine own_pre (T' := s₁) (f' := (mkF m 37 #[iv (2 : Int32), iv (0 : Int32), iv (1 : Int32)] [])) (fun t k => XS.icmpYes X0.here hx rfl (pc0 := 20) (pc' := 37) rfl (hb hby d1_20) rfl (feq (by decide : ¬ ((2 : Int32) = (1 : Int32)))).2 (by decide) (by decide) k) ?_
  refine own_pre (T' := s₁) (f' := (mkF m 38 #[iv (2 : Int32), iv (0 : Int32), iv (1 : Int32)] [(.int (0 : Int32))])) (fun t k => XS.iloadN X0.here hx rfl (hb hby d1_37) rfl k) ?_
  refine own_pre (T' := s₁) (f' := (mkF m 39 #[iv (2 : Int32), iv (0 : Int32), iv (1 : Int32)] [(.int (1 : Int32)), (.int (0 : Int32))])) (fun t k => XS.iloadN X0.here hx rfl (hb hby d1_38) rfl k) ?_
  refine own_pre (T' := s₁) (f' := (mkF m 42 #[iv (2 : Int32), iv (0 : Int32), iv (1 : Int32)] [])) (fun t k => XS.icmpNo X0.here hx rfl (hb hby d1_39) rfl (feq (by decide : ¬ ((0 : Int32) = (1 : Int32)))).1 k) ?_
  refine own_pre (T' := s₁) (f' := (mkF m 43 #[iv (2 : Int32), iv (0 : Int32), iv (1 : Int32)] [(.int (1 : Int32))])) (fun t k => XS.iconst X0.here hx rfl (hb hby d1_42) k) ?_
  refine own_pre (T' := s₁) (f' := (mkF m 47 #[iv (2 : Int32), iv (0 : Int32), iv (1 : Int32)] [(.int (1 : Int32))])) (fun t k => XS.goto X0.here hx rfl (pc0 := 43) (pc' := 47) rfl (hb hby d1_43) (by decide) (by decide) k) ?_
  exact own_retZ X0 hx hlk hret (hb hby d1_47) rfl (⟨rfl, e0, rfl⟩) (by decide) (by decide)
set_option maxRecDepth 65536 in
set_option maxHeartbeats 40000000 in
theorem own_b1_210 (l : Launch) (Z : State) (a0 : Array Value) (hw : ∀ d ∈ tables_1, d.before a0 Z = true) (ws : List Jvm.Cond) (w_BOTH w_FIRST_ONLY w_EXACTLY_ONE : Addr) (h0 : Heap) (F : own_F Z h0 w_BOTH w_FIRST_ONLY w_EXACTLY_ONE)  :
    own_C l (⟨"com/example/witness/witness/pattern/CombinationGoesOnPinLaw", "rule", "(IZZ)Z"⟩ : MethodName) method_2_code 3 (some .boolean) ws (own_R 0 0) #[(.int (2 : Int32)), (.int (1 : Int32)), (.int (0 : Int32))] Z h0 (own_Q0 (some (.int (1 : Int32))) h0) := by
  have F0 := F
  obtain ⟨S_BOTH, E_BOTH, S_FIRST_ONLY, E_FIRST_ONLY, S_EXACTLY_ONE, E_EXACTLY_ONE, F_ordinal_FIRST_ONLY, F_ordinal_BOTH, F_ordinal_EXACTLY_ONE⟩ := F
  refine own_enter (LS := #[iv (2 : Int32), iv (1 : Int32), iv (0 : Int32)]) (plainFor_of_name (by first | (simp [plainName, overriddenIn, x]; done) | decide +kernel)) (fun m => by first | (simp [entryFrame, mkF, argsToLocals, Value.category, maxLocals]; done) | rfl) ?_
  intro p e s m below meth c s₁ hx hby hml hown0 hnm hret hlk hZ X0 e0 hsh
  have hown : s.vm.findClass "com/example/witness/witness/pattern/CombinationGoesOnPinLaw" = some m.cls := hown0
  refine own_pre (T' := s₁) (f' := (mkF m 1 #[iv (2 : Int32), iv (1 : Int32), iv (0 : Int32)] [(.int (2 : Int32))])) (fun t k => XS.iloadN X0.here hx rfl (hb hby d1_0) rfl k) ?_
  refine own_pre (T' := s₁) (f' := (mkF m 18 #[iv (2 : Int32), iv (1 : Int32), iv (0 : Int32)] [])) (fun t k => XS.ifYes X0.here hx rfl (pc0 := 1) (pc' := 18) rfl (hb hby d1_1) rfl ((if0 _ _).trans (feq (by decide : ¬ ((2 : Int32) = (0 : Int32)))).2) (by decide) (by decide) k) ?_
  refine own_pre (T' := s₁) (f' := (mkF m 19 #[iv (2 : Int32), iv (1 : Int32), iv (0 : Int32)] [(.int (2 : Int32))])) (fun t k => XS.iloadN X0.here hx rfl (hb hby d1_18) rfl k) ?_
  refine own_pre (T' := s₁) (f' := (mkF m 20 #[iv (2 : Int32), iv (1 : Int32), iv (0 : Int32)] [(.int (1 : Int32)), (.int (2 : Int32))])) (fun t k => XS.iconst X0.here hx rfl (hb hby d1_19) k) ?_
  refine own_pre (T' := s₁) (f' := (mkF m 37 #[iv (2 : Int32), iv (1 : Int32), iv (0 : Int32)] [])) (fun t k => XS.icmpYes X0.here hx rfl (pc0 := 20) (pc' := 37) rfl (hb hby d1_20) rfl (feq (by decide : ¬ ((2 : Int32) = (1 : Int32)))).2 (by decide) (by decide) k) ?_
  refine own_pre (T' := s₁) (f' := (mkF m 38 #[iv (2 : Int32), iv (1 : Int32), iv (0 : Int32)] [(.int (1 : Int32))])) (fun t k => XS.iloadN X0.here hx rfl (hb hby d1_37) rfl k) ?_
  refine own_pre (T' := s₁) (f' := (mkF m 39 #[iv (2 : Int32), iv (1 : Int32), iv (0 : Int32)] [(.int (0 : Int32)), (.int (1 : Int32))])) (fun t k => XS.iloadN X0.here hx rfl (hb hby d1_38) rfl k) ?_
  refine own_pre (T' := s₁) (f' := (mkF m 42 #[iv (2 : Int32), iv (1 : Int32), iv (0 : Int32)] [])) (fun t k => XS.icmpNo X0.here hx rfl (hb hby d1_39) rfl (feq (by decide : ¬ ((1 : Int32) = (0 : Int32)))).1 k) ?_
  refine own_pre (T' := s₁) (f' := (mkF m 43 #[iv (2 : Int32), iv (1 : Int32), iv (0 : Int32)] [(.int (1 : Int32))])) (fun t k => XS.iconst X0.here hx rfl (hb hby d1_42) k) ?_
  refine own_pre (T' := s₁) (f' := (mkF m 47 #[iv (2 : Int32), iv (1 : Int32), iv (0 : Int32)] [(.int (1 : Int32))])) (fun t k => XS.goto X0.here hx rfl (pc0 := 43) (pc' := 47) rfl (hb hby d1_43) (by decide) (by decide) k) ?_
  exact own_retZ X0 hx hlk hret (hb hby d1_47) rfl (⟨rfl, e0, rfl⟩) (by decide) (by decide)
set_option maxRecDepth 65536 in
set_option maxHeartbeats 40000000 in
theorem own_b1_211 (l : Launch) (Z : State) (a0 : Array Value) (hw : ∀ d ∈ tables_1, d.before a0 Z = true) (ws : List Jvm.Cond) (w_BOTH w_FIRST_ONLY w_EXACTLY_ONE : Addr) (h0 : Heap) (F : own_F Z h0 w_BOTH w_FIRST_ONLY w_EXACTLY_ONE)  :
    own_C l (⟨"com/example/witness/witness/pattern/CombinationGoesOnPinLaw", "rule", "(IZZ)Z"⟩ : MethodName) method_2_code 3 (some .boolean) ws (own_R 0 0) #[(.int (2 : Int32)), (.int (1 : Int32)), (.int (1 : Int32))] Z h0 (own_Q0 (some (.int (0 : Int32))) h0) := by
  have F0 := F
  obtain ⟨S_BOTH, E_BOTH, S_FIRST_ONLY, E_FIRST_ONLY, S_EXACTLY_ONE, E_EXACTLY_ONE, F_ordinal_FIRST_ONLY, F_ordinal_BOTH, F_ordinal_EXACTLY_ONE⟩ := F
  refine own_enter (LS := #[iv (2 : Int32), iv (1 : Int32), iv (1 : Int32)]) (plainFor_of_name (by first | (simp [plainName, overriddenIn, x]; done) | decide +kernel)) (fun m => by first | (simp [entryFrame, mkF, argsToLocals, Value.category, maxLocals]; done) | rfl) ?_
  intro p e s m below meth c s₁ hx hby hml hown0 hnm hret hlk hZ X0 e0 hsh
  have hown : s.vm.findClass "com/example/witness/witness/pattern/CombinationGoesOnPinLaw" = some m.cls := hown0
  refine own_pre (T' := s₁) (f' := (mkF m 1 #[iv (2 : Int32), iv (1 : Int32), iv (1 : Int32)] [(.int (2 : Int32))])) (fun t k => XS.iloadN X0.here hx rfl (hb hby d1_0) rfl k) ?_
  refine own_pre (T' := s₁) (f' := (mkF m 18 #[iv (2 : Int32), iv (1 : Int32), iv (1 : Int32)] [])) (fun t k => XS.ifYes X0.here hx rfl (pc0 := 1) (pc' := 18) rfl (hb hby d1_1) rfl ((if0 _ _).trans (feq (by decide : ¬ ((2 : Int32) = (0 : Int32)))).2) (by decide) (by decide) k) ?_
  refine own_pre (T' := s₁) (f' := (mkF m 19 #[iv (2 : Int32), iv (1 : Int32), iv (1 : Int32)] [(.int (2 : Int32))])) (fun t k => XS.iloadN X0.here hx rfl (hb hby d1_18) rfl k) ?_
  refine own_pre (T' := s₁) (f' := (mkF m 20 #[iv (2 : Int32), iv (1 : Int32), iv (1 : Int32)] [(.int (1 : Int32)), (.int (2 : Int32))])) (fun t k => XS.iconst X0.here hx rfl (hb hby d1_19) k) ?_
  refine own_pre (T' := s₁) (f' := (mkF m 37 #[iv (2 : Int32), iv (1 : Int32), iv (1 : Int32)] [])) (fun t k => XS.icmpYes X0.here hx rfl (pc0 := 20) (pc' := 37) rfl (hb hby d1_20) rfl (feq (by decide : ¬ ((2 : Int32) = (1 : Int32)))).2 (by decide) (by decide) k) ?_
  refine own_pre (T' := s₁) (f' := (mkF m 38 #[iv (2 : Int32), iv (1 : Int32), iv (1 : Int32)] [(.int (1 : Int32))])) (fun t k => XS.iloadN X0.here hx rfl (hb hby d1_37) rfl k) ?_
  refine own_pre (T' := s₁) (f' := (mkF m 39 #[iv (2 : Int32), iv (1 : Int32), iv (1 : Int32)] [(.int (1 : Int32)), (.int (1 : Int32))])) (fun t k => XS.iloadN X0.here hx rfl (hb hby d1_38) rfl k) ?_
  refine own_pre (T' := s₁) (f' := (mkF m 46 #[iv (2 : Int32), iv (1 : Int32), iv (1 : Int32)] [])) (fun t k => XS.icmpYes X0.here hx rfl (pc0 := 39) (pc' := 46) rfl (hb hby d1_39) rfl (teq (by decide : (1 : Int32) = (1 : Int32))).1 (by decide) (by decide) k) ?_
  refine own_pre (T' := s₁) (f' := (mkF m 47 #[iv (2 : Int32), iv (1 : Int32), iv (1 : Int32)] [(.int (0 : Int32))])) (fun t k => XS.iconst X0.here hx rfl (hb hby d1_46) k) ?_
  exact own_retZ X0 hx hlk hret (hb hby d1_47) rfl (⟨rfl, e0, rfl⟩) (by decide) (by decide)
theorem d2_0 : decode prog_16_method_5_code 0 = .ok (.aload_n 0, 1) := by decide +kernel
theorem d2_1 : decode prog_16_method_5_code 1 = .ok (.getstatic 3, 3) := by decide +kernel
theorem d2_4 : decode prog_16_method_5_code 4 = .ok (.if_acmp .ne 20, 3) := by decide +kernel
theorem d2_7 : decode prog_16_method_5_code 7 = .ok (.iload_n 1, 1) := by decide +kernel
theorem d2_8 : decode prog_16_method_5_code 8 = .ok (.ifCond .lt 11, 3) := by decide +kernel
theorem d2_11 : decode prog_16_method_5_code 11 = .ok (.iload_n 2, 1) := by decide +kernel
theorem d2_12 : decode prog_16_method_5_code 12 = .ok (.ifCond .lt 7, 3) := by decide +kernel
theorem d2_15 : decode prog_16_method_5_code 15 = .ok (.iconst 1, 1) := by decide +kernel
theorem d2_16 : decode prog_16_method_5_code 16 = .ok (.goto 4, 3) := by decide +kernel
theorem d2_20 : decode prog_16_method_5_code 20 = .ok (.istore_n 3, 1) := by decide +kernel
theorem d2_21 : decode prog_16_method_5_code 21 = .ok (.goto 37, 3) := by decide +kernel
theorem d2_58 : decode prog_16_method_5_code 58 = .ok (.iload_n 3, 1) := by decide +kernel
theorem d2_59 : decode prog_16_method_5_code 59 = .ok (.ireturn, 1) := by decide +kernel
set_option maxRecDepth 65536 in
set_option maxHeartbeats 40000000 in
theorem own_b2_BOTH_00 (l : Launch) (Z : State) (a0 : Array Value) (hw : ∀ d ∈ tables_1, d.before a0 Z = true) (ws : List Jvm.Cond) (w_BOTH w_FIRST_ONLY w_EXACTLY_ONE : Addr) (h0 : Heap) (F : own_F Z h0 w_BOTH w_FIRST_ONLY w_EXACTLY_ONE) (x1 x2 : Int32) (hA : ¬ (x1 < (0 : Int32))) (hB : ¬ (x2 < (0 : Int32))) :
    own_C l (⟨"com/example/witness/witness/pattern/Dfa$Combination", "goesOn", "(II)Z"⟩ : MethodName) prog_16_method_5_code 4 (some .boolean) ws (own_R 0 0) #[(.ref w_BOTH), (.int x1), (.int x2)] Z h0 (own_Q0 (some (.int (1 : Int32))) h0) := by
  have F0 := F
  obtain ⟨S_BOTH, E_BOTH, S_FIRST_ONLY, E_FIRST_ONLY, S_EXACTLY_ONE, E_EXACTLY_ONE, F_ordinal_FIRST_ONLY, F_ordinal_BOTH, F_ordinal_EXACTLY_ONE⟩ := F
  refine own_enter (LS := #[rv w_BOTH, iv x1, iv x2, .unset]) (plainFor_of_name (by first | (simp [plainName, overriddenIn, x]; done) | decide +kernel)) (fun m => by first | (simp [entryFrame, mkF, argsToLocals, Value.category, maxLocals]; done) | rfl) ?_
  intro p e s m below meth c s₁ hx hby hml hown0 hnm hret hlk hZ X0 e0 hsh
  have hown : s.vm.findClass "com/example/witness/witness/pattern/Dfa$Combination" = some m.cls := hown0
  refine own_pre (T' := s₁) (f' := (mkF m 1 #[rv w_BOTH, iv x1, iv x2, .unset] [(.ref w_BOTH)])) (fun t k => XS.aloadN X0.here hx rfl (hb hby d2_0) rfl rfl k) ?_
  obtain ⟨T1, X1, e1, st1⟩ := getS2 X0 hx hZ hown (host := "") (Or.inl (hw _ (List.mem_of_getElem? (i := 13) rfl))) Via.refl e0 S_BOTH (g := (mkF m 1 #[rv w_BOTH, iv x1, iv x2, .unset] [(.ref w_BOTH)])) rfl (hb hby d2_1)
  refine own_pre (T' := T1) (f' := (mkF m 4 #[rv w_BOTH, iv x1, iv x2, .unset] [(.ref w_BOTH), (.ref w_BOTH)])) (fun t k => st1 t k) ?_
  refine own_pre (T' := T1) (f' := (mkF m 7 #[rv w_BOTH, iv x1, iv x2, .unset] [])) (fun t k => Jvm.RoadKit.acmp (g := (mkF m 4 #[rv w_BOTH, iv x1, iv x2, .unset] [(.ref w_BOTH), (.ref w_BOTH)])) X1 hx rfl rfl rfl (pc0 := 4) (pc' := 7) (same := true) rfl (hb hby d2_4) rfl (decide_eq_true rfl) (by decide) (by decide) k) ?_
  refine own_pre (T' := T1) (f' := (mkF m 8 #[rv w_BOTH, iv x1, iv x2, .unset] [(.int x1)])) (fun t k => XS.iloadN X1.here hx rfl (hb hby d2_7) rfl k) ?_
  refine own_pre (T' := T1) (f' := (mkF m 11 #[rv w_BOTH, iv x1, iv x2, .unset] [])) (fun t k => XS.ifNo X1.here hx rfl (hb hby d2_8) rfl ((if0 _ _).trans (flt hA).1) k) ?_
  refine own_pre (T' := T1) (f' := (mkF m 12 #[rv w_BOTH, iv x1, iv x2, .unset] [(.int x2)])) (fun t k => XS.iloadN X1.here hx rfl (hb hby d2_11) rfl k) ?_
  refine own_pre (T' := T1) (f' := (mkF m 15 #[rv w_BOTH, iv x1, iv x2, .unset] [])) (fun t k => XS.ifNo X1.here hx rfl (hb hby d2_12) rfl ((if0 _ _).trans (flt hB).1) k) ?_
  refine own_pre (T' := T1) (f' := (mkF m 16 #[rv w_BOTH, iv x1, iv x2, .unset] [(.int (1 : Int32))])) (fun t k => XS.iconst X1.here hx rfl (hb hby d2_15) k) ?_
  refine own_pre (T' := T1) (f' := (mkF m 20 #[rv w_BOTH, iv x1, iv x2, .unset] [(.int (1 : Int32))])) (fun t k => XS.goto X1.here hx rfl (pc0 := 16) (pc' := 20) rfl (hb hby d2_16) (by decide) (by decide) k) ?_
  refine own_pre (T' := T1) (f' := (mkF m 21 #[rv w_BOTH, iv x1, iv x2, iv (1 : Int32)] [])) (fun t k => XS.istoreN X1.here hx rfl (hb hby d2_20) rfl (l' := #[rv w_BOTH, iv x1, iv x2, iv (1 : Int32)]) rfl k) ?_
  refine own_pre (T' := T1) (f' := (mkF m 58 #[rv w_BOTH, iv x1, iv x2, iv (1 : Int32)] [])) (fun t k => XS.goto X1.here hx rfl (pc0 := 21) (pc' := 58) rfl (hb hby d2_21) (by decide) (by decide) k) ?_
  refine own_pre (T' := T1) (f' := (mkF m 59 #[rv w_BOTH, iv x1, iv x2, iv (1 : Int32)] [(.int (1 : Int32))])) (fun t k => XS.iloadN X1.here hx rfl (hb hby d2_58) rfl k) ?_
  exact own_retZ X1 hx hlk hret (hb hby d2_59) rfl (⟨rfl, e1, rfl⟩) (by decide) (by decide)
theorem d2_19 : decode prog_16_method_5_code 19 = .ok (.iconst 0, 1) := by decide +kernel
set_option maxRecDepth 65536 in
set_option maxHeartbeats 40000000 in
theorem own_b2_BOTH_01 (l : Launch) (Z : State) (a0 : Array Value) (hw : ∀ d ∈ tables_1, d.before a0 Z = true) (ws : List Jvm.Cond) (w_BOTH w_FIRST_ONLY w_EXACTLY_ONE : Addr) (h0 : Heap) (F : own_F Z h0 w_BOTH w_FIRST_ONLY w_EXACTLY_ONE) (x1 x2 : Int32) (hA : ¬ (x1 < (0 : Int32))) (hB : x2 < (0 : Int32)) :
    own_C l (⟨"com/example/witness/witness/pattern/Dfa$Combination", "goesOn", "(II)Z"⟩ : MethodName) prog_16_method_5_code 4 (some .boolean) ws (own_R 0 0) #[(.ref w_BOTH), (.int x1), (.int x2)] Z h0 (own_Q0 (some (.int (0 : Int32))) h0) := by
  have F0 := F
  obtain ⟨S_BOTH, E_BOTH, S_FIRST_ONLY, E_FIRST_ONLY, S_EXACTLY_ONE, E_EXACTLY_ONE, F_ordinal_FIRST_ONLY, F_ordinal_BOTH, F_ordinal_EXACTLY_ONE⟩ := F
  refine own_enter (LS := #[rv w_BOTH, iv x1, iv x2, .unset]) (plainFor_of_name (by first | (simp [plainName, overriddenIn, x]; done) | decide +kernel)) (fun m => by first | (simp [entryFrame, mkF, argsToLocals, Value.category, maxLocals]; done) | rfl) ?_
  intro p e s m below meth c s₁ hx hby hml hown0 hnm hret hlk hZ X0 e0 hsh
  have hown : s.vm.findClass "com/example/witness/witness/pattern/Dfa$Combination" = some m.cls := hown0
  refine own_pre (T' := s₁) (f' := (mkF m 1 #[rv w_BOTH, iv x1, iv x2, .unset] [(.ref w_BOTH)])) (fun t k => XS.aloadN X0.here hx rfl (hb hby d2_0) rfl rfl k) ?_
  obtain ⟨T1, X1, e1, st1⟩ := getS2 X0 hx hZ hown (host := "") (Or.inl (hw _ (List.mem_of_getElem? (i := 13) rfl))) Via.refl e0 S_BOTH (g := (mkF m 1 #[rv w_BOTH, iv x1, iv x2, .unset] [(.ref w_BOTH)])) rfl (hb hby d2_1)
  refine own_pre (T' := T1) (f' := (mkF m 4 #[rv w_BOTH, iv x1, iv x2, .unset] [(.ref w_BOTH), (.ref w_BOTH)])) (fun t k => st1 t k) ?_
  refine own_pre (T' := T1) (f' := (mkF m 7 #[rv w_BOTH, iv x1, iv x2, .unset] [])) (fun t k => Jvm.RoadKit.acmp (g := (mkF m 4 #[rv w_BOTH, iv x1, iv x2, .unset] [(.ref w_BOTH), (.ref w_BOTH)])) X1 hx rfl rfl rfl (pc0 := 4) (pc' := 7) (same := true) rfl (hb hby d2_4) rfl (decide_eq_true rfl) (by decide) (by decide) k) ?_
  refine own_pre (T' := T1) (f' := (mkF m 8 #[rv w_BOTH, iv x1, iv x2, .unset] [(.int x1)])) (fun t k => XS.iloadN X1.here hx rfl (hb hby d2_7) rfl k) ?_
  refine own_pre (T' := T1) (f' := (mkF m 11 #[rv w_BOTH, iv x1, iv x2, .unset] [])) (fun t k => XS.ifNo X1.here hx rfl (hb hby d2_8) rfl ((if0 _ _).trans (flt hA).1) k) ?_
  refine own_pre (T' := T1) (f' := (mkF m 12 #[rv w_BOTH, iv x1, iv x2, .unset] [(.int x2)])) (fun t k => XS.iloadN X1.here hx rfl (hb hby d2_11) rfl k) ?_
  refine own_pre (T' := T1) (f' := (mkF m 19 #[rv w_BOTH, iv x1, iv x2, .unset] [])) (fun t k => XS.ifYes X1.here hx rfl (pc0 := 12) (pc' := 19) rfl (hb hby d2_12) rfl ((if0 _ _).trans (tlt hB).1) (by decide) (by decide) k) ?_
  refine own_pre (T' := T1) (f' := (mkF m 20 #[rv w_BOTH, iv x1, iv x2, .unset] [(.int (0 : Int32))])) (fun t k => XS.iconst X1.here hx rfl (hb hby d2_19) k) ?_
  refine own_pre (T' := T1) (f' := (mkF m 21 #[rv w_BOTH, iv x1, iv x2, iv (0 : Int32)] [])) (fun t k => XS.istoreN X1.here hx rfl (hb hby d2_20) rfl (l' := #[rv w_BOTH, iv x1, iv x2, iv (0 : Int32)]) rfl k) ?_
  refine own_pre (T' := T1) (f' := (mkF m 58 #[rv w_BOTH, iv x1, iv x2, iv (0 : Int32)] [])) (fun t k => XS.goto X1.here hx rfl (pc0 := 21) (pc' := 58) rfl (hb hby d2_21) (by decide) (by decide) k) ?_
  refine own_pre (T' := T1) (f' := (mkF m 59 #[rv w_BOTH, iv x1, iv x2, iv (0 : Int32)] [(.int (0 : Int32))])) (fun t k => XS.iloadN X1.here hx rfl (hb hby d2_58) rfl k) ?_
  exact own_retZ X1 hx hlk hret (hb hby d2_59) rfl (⟨rfl, e1, rfl⟩) (by decide) (by decide)
set_option maxRecDepth 65536 in
set_option maxHeartbeats 40000000 in
theorem own_b2_BOTH_10 (l : Launch) (Z : State) (a0 : Array Value) (hw : ∀ d ∈ tables_1, d.before a0 Z = true) (ws : List Jvm.Cond) (w_BOTH w_FIRST_ONLY w_EXACTLY_ONE : Addr) (h0 : Heap) (F : own_F Z h0 w_BOTH w_FIRST_ONLY w_EXACTLY_ONE) (x1 x2 : Int32) (hA : x1 < (0 : Int32)) (hB : ¬ (x2 < (0 : Int32))) :
    own_C l (⟨"com/example/witness/witness/pattern/Dfa$Combination", "goesOn", "(II)Z"⟩ : MethodName) prog_16_method_5_code 4 (some .boolean) ws (own_R 0 0) #[(.ref w_BOTH), (.int x1), (.int x2)] Z h0 (own_Q0 (some (.int (0 : Int32))) h0) := by
  have F0 := F
  obtain ⟨S_BOTH, E_BOTH, S_FIRST_ONLY, E_FIRST_ONLY, S_EXACTLY_ONE, E_EXACTLY_ONE, F_ordinal_FIRST_ONLY, F_ordinal_BOTH, F_ordinal_EXACTLY_ONE⟩ := F
  refine own_enter (LS := #[rv w_BOTH, iv x1, iv x2, .unset]) (plainFor_of_name (by first | (simp [plainName, overriddenIn, x]; done) | decide +kernel)) (fun m => by first | (simp [entryFrame, mkF, argsToLocals, Value.category, maxLocals]; done) | rfl) ?_
  intro p e s m below meth c s₁ hx hby hml hown0 hnm hret hlk hZ X0 e0 hsh
  have hown : s.vm.findClass "com/example/witness/witness/pattern/Dfa$Combination" = some m.cls := hown0
  refine own_pre (T' := s₁) (f' := (mkF m 1 #[rv w_BOTH, iv x1, iv x2, .unset] [(.ref w_BOTH)])) (fun t k => XS.aloadN X0.here hx rfl (hb hby d2_0) rfl rfl k) ?_
  obtain ⟨T1, X1, e1, st1⟩ := getS2 X0 hx hZ hown (host := "") (Or.inl (hw _ (List.mem_of_getElem? (i := 13) rfl))) Via.refl e0 S_BOTH (g := (mkF m 1 #[rv w_BOTH, iv x1, iv x2, .unset] [(.ref w_BOTH)])) rfl (hb hby d2_1)
  refine own_pre (T' := T1) (f' := (mkF m 4 #[rv w_BOTH, iv x1, iv x2, .unset] [(.ref w_BOTH), (.ref w_BOTH)])) (fun t k => st1 t k) ?_
  refine own_pre (T' := T1) (f' := (mkF m 7 #[rv w_BOTH, iv x1, iv x2, .unset] [])) (fun t k => Jvm.RoadKit.acmp (g := (mkF m 4 #[rv w_BOTH, iv x1, iv x2, .unset] [(.ref w_BOTH), (.ref w_BOTH)])) X1 hx rfl rfl rfl (pc0 := 4) (pc' := 7) (same := true) rfl (hb hby d2_4) rfl (decide_eq_true rfl) (by decide) (by decide) k) ?_
  refine own_pre (T' := T1) (f' := (mkF m 8 #[rv w_BOTH, iv x1, iv x2, .unset] [(.int x1)])) (fun t k => XS.iloadN X1.here hx rfl (hb hby d2_7) rfl k) ?_
  refine own_pre (T' := T1) (f' := (mkF m 19 #[rv w_BOTH, iv x1, iv x2, .unset] [])) (fun t k => XS.ifYes X1.here hx rfl (pc0 := 8) (pc' := 19) rfl (hb hby d2_8) rfl ((if0 _ _).trans (tlt hA).1) (by decide) (by decide) k) ?_
  refine own_pre (T' := T1) (f' := (mkF m 20 #[rv w_BOTH, iv x1, iv x2, .unset] [(.int (0 : Int32))])) (fun t k => XS.iconst X1.here hx rfl (hb hby d2_19) k) ?_
  refine own_pre (T' := T1) (f' := (mkF m 21 #[rv w_BOTH, iv x1, iv x2, iv (0 : Int32)] [])) (fun t k => XS.istoreN X1.here hx rfl (hb hby d2_20) rfl (l' := #[rv w_BOTH, iv x1, iv x2, iv (0 : Int32)]) rfl k) ?_
  refine own_pre (T' := T1) (f' := (mkF m 58 #[rv w_BOTH, iv x1, iv x2, iv (0 : Int32)] [])) (fun t k => XS.goto X1.here hx rfl (pc0 := 21) (pc' := 58) rfl (hb hby d2_21) (by decide) (by decide) k) ?_
  refine own_pre (T' := T1) (f' := (mkF m 59 #[rv w_BOTH, iv x1, iv x2, iv (0 : Int32)] [(.int (0 : Int32))])) (fun t k => XS.iloadN X1.here hx rfl (hb hby d2_58) rfl k) ?_
  exact own_retZ X1 hx hlk hret (hb hby d2_59) rfl (⟨rfl, e1, rfl⟩) (by decide) (by decide)
set_option maxRecDepth 65536 in
set_option maxHeartbeats 40000000 in
theorem own_b2_BOTH_11 (l : Launch) (Z : State) (a0 : Array Value) (hw : ∀ d ∈ tables_1, d.before a0 Z = true) (ws : List Jvm.Cond) (w_BOTH w_FIRST_ONLY w_EXACTLY_ONE : Addr) (h0 : Heap) (F : own_F Z h0 w_BOTH w_FIRST_ONLY w_EXACTLY_ONE) (x1 x2 : Int32) (hA : x1 < (0 : Int32)) (hB : x2 < (0 : Int32)) :
    own_C l (⟨"com/example/witness/witness/pattern/Dfa$Combination", "goesOn", "(II)Z"⟩ : MethodName) prog_16_method_5_code 4 (some .boolean) ws (own_R 0 0) #[(.ref w_BOTH), (.int x1), (.int x2)] Z h0 (own_Q0 (some (.int (0 : Int32))) h0) := by
  have F0 := F
  obtain ⟨S_BOTH, E_BOTH, S_FIRST_ONLY, E_FIRST_ONLY, S_EXACTLY_ONE, E_EXACTLY_ONE, F_ordinal_FIRST_ONLY, F_ordinal_BOTH, F_ordinal_EXACTLY_ONE⟩ := F
  refine own_enter (LS := #[rv w_BOTH, iv x1, iv x2, .unset]) (plainFor_of_name (by first | (simp [plainName, overriddenIn, x]; done) | decide +kernel)) (fun m => by first | (simp [entryFrame, mkF, argsToLocals, Value.category, maxLocals]; done) | rfl) ?_
  intro p e s m below meth c s₁ hx hby hml hown0 hnm hret hlk hZ X0 e0 hsh
  have hown : s.vm.findClass "com/example/witness/witness/pattern/Dfa$Combination" = some m.cls := hown0
  refine own_pre (T' := s₁) (f' := (mkF m 1 #[rv w_BOTH, iv x1, iv x2, .unset] [(.ref w_BOTH)])) (fun t k => XS.aloadN X0.here hx rfl (hb hby d2_0) rfl rfl k) ?_
  obtain ⟨T1, X1, e1, st1⟩ := getS2 X0 hx hZ hown (host := "") (Or.inl (hw _ (List.mem_of_getElem? (i := 13) rfl))) Via.refl e0 S_BOTH (g := (mkF m 1 #[rv w_BOTH, iv x1, iv x2, .unset] [(.ref w_BOTH)])) rfl (hb hby d2_1)
  refine own_pre (T' := T1) (f' := (mkF m 4 #[rv w_BOTH, iv x1, iv x2, .unset] [(.ref w_BOTH), (.ref w_BOTH)])) (fun t k => st1 t k) ?_
  refine own_pre (T' := T1) (f' := (mkF m 7 #[rv w_BOTH, iv x1, iv x2, .unset] [])) (fun t k => Jvm.RoadKit.acmp (g := (mkF m 4 #[rv w_BOTH, iv x1, iv x2, .unset] [(.ref w_BOTH), (.ref w_BOTH)])) X1 hx rfl rfl rfl (pc0 := 4) (pc' := 7) (same := true) rfl (hb hby d2_4) rfl (decide_eq_true rfl) (by decide) (by decide) k) ?_
  refine own_pre (T' := T1) (f' := (mkF m 8 #[rv w_BOTH, iv x1, iv x2, .unset] [(.int x1)])) (fun t k => XS.iloadN X1.here hx rfl (hb hby d2_7) rfl k) ?_
  refine own_pre (T' := T1) (f' := (mkF m 19 #[rv w_BOTH, iv x1, iv x2, .unset] [])) (fun t k => XS.ifYes X1.here hx rfl (pc0 := 8) (pc' := 19) rfl (hb hby d2_8) rfl ((if0 _ _).trans (tlt hA).1) (by decide) (by decide) k) ?_
  refine own_pre (T' := T1) (f' := (mkF m 20 #[rv w_BOTH, iv x1, iv x2, .unset] [(.int (0 : Int32))])) (fun t k => XS.iconst X1.here hx rfl (hb hby d2_19) k) ?_
  refine own_pre (T' := T1) (f' := (mkF m 21 #[rv w_BOTH, iv x1, iv x2, iv (0 : Int32)] [])) (fun t k => XS.istoreN X1.here hx rfl (hb hby d2_20) rfl (l' := #[rv w_BOTH, iv x1, iv x2, iv (0 : Int32)]) rfl k) ?_
  refine own_pre (T' := T1) (f' := (mkF m 58 #[rv w_BOTH, iv x1, iv x2, iv (0 : Int32)] [])) (fun t k => XS.goto X1.here hx rfl (pc0 := 21) (pc' := 58) rfl (hb hby d2_21) (by decide) (by decide) k) ?_
  refine own_pre (T' := T1) (f' := (mkF m 59 #[rv w_BOTH, iv x1, iv x2, iv (0 : Int32)] [(.int (0 : Int32))])) (fun t k => XS.iloadN X1.here hx rfl (hb hby d2_58) rfl k) ?_
  exact own_retZ X1 hx hlk hret (hb hby d2_59) rfl (⟨rfl, e1, rfl⟩) (by decide) (by decide)
theorem d2_24 : decode prog_16_method_5_code 24 = .ok (.aload_n 0, 1) := by decide +kernel
theorem d2_25 : decode prog_16_method_5_code 25 = .ok (.getstatic 7, 3) := by decide +kernel
theorem d2_28 : decode prog_16_method_5_code 28 = .ok (.if_acmp .ne 16, 3) := by decide +kernel
theorem d2_31 : decode prog_16_method_5_code 31 = .ok (.iload_n 1, 1) := by decide +kernel
theorem d2_32 : decode prog_16_method_5_code 32 = .ok (.ifCond .lt 7, 3) := by decide +kernel
theorem d2_35 : decode prog_16_method_5_code 35 = .ok (.iconst 1, 1) := by decide +kernel
theorem d2_36 : decode prog_16_method_5_code 36 = .ok (.goto 4, 3) := by decide +kernel
theorem d2_40 : decode prog_16_method_5_code 40 = .ok (.istore_n 3, 1) := by decide +kernel
theorem d2_41 : decode prog_16_method_5_code 41 = .ok (.goto 17, 3) := by decide +kernel
set_option maxRecDepth 65536 in
set_option maxHeartbeats 40000000 in
theorem own_b2_FIRST_ONLY_00 (l : Launch) (Z : State) (a0 : Array Value) (hw : ∀ d ∈ tables_1, d.before a0 Z = true) (ws : List Jvm.Cond) (w_BOTH w_FIRST_ONLY w_EXACTLY_ONE : Addr) (h0 : Heap) (F : own_F Z h0 w_BOTH w_FIRST_ONLY w_EXACTLY_ONE) (x1 x2 : Int32) (hA : ¬ (x1 < (0 : Int32))) (hB : ¬ (x2 < (0 : Int32))) :
    own_C l (⟨"com/example/witness/witness/pattern/Dfa$Combination", "goesOn", "(II)Z"⟩ : MethodName) prog_16_method_5_code 4 (some .boolean) ws (own_R 0 0) #[(.ref w_FIRST_ONLY), (.int x1), (.int x2)] Z h0 (own_Q0 (some (.int (1 : Int32))) h0) := by
  have F0 := F
  obtain ⟨S_BOTH, E_BOTH, S_FIRST_ONLY, E_FIRST_ONLY, S_EXACTLY_ONE, E_EXACTLY_ONE, F_ordinal_FIRST_ONLY, F_ordinal_BOTH, F_ordinal_EXACTLY_ONE⟩ := F
  refine own_enter (LS := #[rv w_FIRST_ONLY, iv x1, iv x2, .unset]) (plainFor_of_name (by first | (simp [plainName, overriddenIn, x]; done) | decide +kernel)) (fun m => by first | (simp [entryFrame, mkF, argsToLocals, Value.category, maxLocals]; done) | rfl) ?_
  intro p e s m below meth c s₁ hx hby hml hown0 hnm hret hlk hZ X0 e0 hsh
  have hown : s.vm.findClass "com/example/witness/witness/pattern/Dfa$Combination" = some m.cls := hown0
  refine own_pre (T' := s₁) (f' := (mkF m 1 #[rv w_FIRST_ONLY, iv x1, iv x2, .unset] [(.ref w_FIRST_ONLY)])) (fun t k => XS.aloadN X0.here hx rfl (hb hby d2_0) rfl rfl k) ?_
  obtain ⟨T1, X1, e1, st1⟩ := getS2 X0 hx hZ hown (host := "") (Or.inl (hw _ (List.mem_of_getElem? (i := 13) rfl))) Via.refl e0 S_BOTH (g := (mkF m 1 #[rv w_FIRST_ONLY, iv x1, iv x2, .unset] [(.ref w_FIRST_ONLY)])) rfl (hb hby d2_1)
  refine own_pre (T' := T1) (f' := (mkF m 4 #[rv w_FIRST_ONLY, iv x1, iv x2, .unset] [(.ref w_BOTH), (.ref w_FIRST_ONLY)])) (fun t k => st1 t k) ?_
  refine own_pre (T' := T1) (f' := (mkF m 24 #[rv w_FIRST_ONLY, iv x1, iv x2, .unset] [])) (fun t k => Jvm.RoadKit.acmp (g := (mkF m 4 #[rv w_FIRST_ONLY, iv x1, iv x2, .unset] [(.ref w_BOTH), (.ref w_FIRST_ONLY)])) X1 hx rfl rfl rfl (pc0 := 4) (pc' := 24) (same := false) rfl (hb hby d2_4) rfl (decide_eq_false fun q => (Fld.ne F_ordinal_FIRST_ONLY F_ordinal_BOTH (own_neI (by decide))) (Value.ref.inj q)) (by decide) (by decide) k) ?_
  refine own_pre (T' := T1) (f' := (mkF m 25 #[rv w_FIRST_ONLY, iv x1, iv x2, .unset] [(.ref w_FIRST_ONLY)])) (fun t k => XS.aloadN X1.here hx rfl (hb hby d2_24) rfl rfl k) ?_
  obtain ⟨T2, X2, e2, st2⟩ := getS2 X1 hx hZ hown (host := "") (Or.inl (hw _ (List.mem_of_getElem? (i := 16) rfl))) Via.refl e1 S_FIRST_ONLY (g := (mkF m 25 #[rv w_FIRST_ONLY, iv x1, iv x2, .unset] [(.ref w_FIRST_ONLY)])) rfl (hb hby d2_25)
  refine own_pre (T' := T2) (f' := (mkF m 28 #[rv w_FIRST_ONLY, iv x1, iv x2, .unset] [(.ref w_FIRST_ONLY), (.ref w_FIRST_ONLY)])) (fun t k => st2 t k) ?_
  refine own_pre (T' := T2) (f' := (mkF m 31 #[rv w_FIRST_ONLY, iv x1, iv x2, .unset] [])) (fun t k => Jvm.RoadKit.acmp (g := (mkF m 28 #[rv w_FIRST_ONLY, iv x1, iv x2, .unset] [(.ref w_FIRST_ONLY), (.ref w_FIRST_ONLY)])) X2 hx rfl rfl rfl (pc0 := 28) (pc' := 31) (same := true) rfl (hb hby d2_28) rfl (decide_eq_true rfl) (by decide) (by decide) k) ?_
  refine own_pre (T' := T2) (f' := (mkF m 32 #[rv w_FIRST_ONLY, iv x1, iv x2, .unset] [(.int x1)])) (fun t k => XS.iloadN X2.here hx rfl (hb hby d2_31) rfl k) ?_
  refine own_pre (T' := T2) (f' := (mkF m 35 #[rv w_FIRST_ONLY, iv x1, iv x2, .unset] [])) (fun t k => XS.ifNo X2.here hx rfl (hb hby d2_32) rfl ((if0 _ _).trans (flt hA).1) k) ?_
  refine own_pre (T' := T2) (f' := (mkF m 36 #[rv w_FIRST_ONLY, iv x1, iv x2, .unset] [(.int (1 : Int32))])) (fun t k => XS.iconst X2.here hx rfl (hb hby d2_35) k) ?_
  refine own_pre (T' := T2) (f' := (mkF m 40 #[rv w_FIRST_ONLY, iv x1, iv x2, .unset] [(.int (1 : Int32))])) (fun t k => XS.goto X2.here hx rfl (pc0 := 36) (pc' := 40) rfl (hb hby d2_36) (by decide) (by decide) k) ?_
  refine own_pre (T' := T2) (f' := (mkF m 41 #[rv w_FIRST_ONLY, iv x1, iv x2, iv (1 : Int32)] [])) (fun t k => XS.istoreN X2.here hx rfl (hb hby d2_40) rfl (l' := #[rv w_FIRST_ONLY, iv x1, iv x2, iv (1 : Int32)]) rfl k) ?_
  refine own_pre (T' := T2) (f' := (mkF m 58 #[rv w_FIRST_ONLY, iv x1, iv x2, iv (1 : Int32)] [])) (fun t k => XS.goto X2.here hx rfl (pc0 := 41) (pc' := 58) rfl (hb hby d2_41) (by decide) (by decide) k) ?_
  refine own_pre (T' := T2) (f' := (mkF m 59 #[rv w_FIRST_ONLY, iv x1, iv x2, iv (1 : Int32)] [(.int (1 : Int32))])) (fun t k => XS.iloadN X2.here hx rfl (hb hby d2_58) rfl k) ?_
  exact own_retZ X2 hx hlk hret (hb hby d2_59) rfl (⟨rfl, e2, rfl⟩) (by decide) (by decide)
set_option maxRecDepth 65536 in
set_option maxHeartbeats 40000000 in
theorem own_b2_FIRST_ONLY_01 (l : Launch) (Z : State) (a0 : Array Value) (hw : ∀ d ∈ tables_1, d.before a0 Z = true) (ws : List Jvm.Cond) (w_BOTH w_FIRST_ONLY w_EXACTLY_ONE : Addr) (h0 : Heap) (F : own_F Z h0 w_BOTH w_FIRST_ONLY w_EXACTLY_ONE) (x1 x2 : Int32) (hA : ¬ (x1 < (0 : Int32))) (hB : x2 < (0 : Int32)) :
    own_C l (⟨"com/example/witness/witness/pattern/Dfa$Combination", "goesOn", "(II)Z"⟩ : MethodName) prog_16_method_5_code 4 (some .boolean) ws (own_R 0 0) #[(.ref w_FIRST_ONLY), (.int x1), (.int x2)] Z h0 (own_Q0 (some (.int (1 : Int32))) h0) := by
  have F0 := F
  obtain ⟨S_BOTH, E_BOTH, S_FIRST_ONLY, E_FIRST_ONLY, S_EXACTLY_ONE, E_EXACTLY_ONE, F_ordinal_FIRST_ONLY, F_ordinal_BOTH, F_ordinal_EXACTLY_ONE⟩ := F
  refine own_enter (LS := #[rv w_FIRST_ONLY, iv x1, iv x2, .unset]) (plainFor_of_name (by first | (simp [plainName, overriddenIn, x]; done) | decide +kernel)) (fun m => by first | (simp [entryFrame, mkF, argsToLocals, Value.category, maxLocals]; done) | rfl) ?_
  intro p e s m below meth c s₁ hx hby hml hown0 hnm hret hlk hZ X0 e0 hsh
  have hown : s.vm.findClass "com/example/witness/witness/pattern/Dfa$Combination" = some m.cls := hown0
  refine own_pre (T' := s₁) (f' := (mkF m 1 #[rv w_FIRST_ONLY, iv x1, iv x2, .unset] [(.ref w_FIRST_ONLY)])) (fun t k => XS.aloadN X0.here hx rfl (hb hby d2_0) rfl rfl k) ?_
  obtain ⟨T1, X1, e1, st1⟩ := getS2 X0 hx hZ hown (host := "") (Or.inl (hw _ (List.mem_of_getElem? (i := 13) rfl))) Via.refl e0 S_BOTH (g := (mkF m 1 #[rv w_FIRST_ONLY, iv x1, iv x2, .unset] [(.ref w_FIRST_ONLY)])) rfl (hb hby d2_1)
  refine own_pre (T' := T1) (f' := (mkF m 4 #[rv w_FIRST_ONLY, iv x1, iv x2, .unset] [(.ref w_BOTH), (.ref w_FIRST_ONLY)])) (fun t k => st1 t k) ?_
  refine own_pre (T' := T1) (f' := (mkF m 24 #[rv w_FIRST_ONLY, iv x1, iv x2, .unset] [])) (fun t k => Jvm.RoadKit.acmp (g := (mkF m 4 #[rv w_FIRST_ONLY, iv x1, iv x2, .unset] [(.ref w_BOTH), (.ref w_FIRST_ONLY)])) X1 hx rfl rfl rfl (pc0 := 4) (pc' := 24) (same := false) rfl (hb hby d2_4) rfl (decide_eq_false fun q => (Fld.ne F_ordinal_FIRST_ONLY F_ordinal_BOTH (own_neI (by decide))) (Value.ref.inj q)) (by decide) (by decide) k) ?_
  refine own_pre (T' := T1) (f' := (mkF m 25 #[rv w_FIRST_ONLY, iv x1, iv x2, .unset] [(.ref w_FIRST_ONLY)])) (fun t k => XS.aloadN X1.here hx rfl (hb hby d2_24) rfl rfl k) ?_
  obtain ⟨T2, X2, e2, st2⟩ := getS2 X1 hx hZ hown (host := "") (Or.inl (hw _ (List.mem_of_getElem? (i := 16) rfl))) Via.refl e1 S_FIRST_ONLY (g := (mkF m 25 #[rv w_FIRST_ONLY, iv x1, iv x2, .unset] [(.ref w_FIRST_ONLY)])) rfl (hb hby d2_25)
  refine own_pre (T' := T2) (f' := (mkF m 28 #[rv w_FIRST_ONLY, iv x1, iv x2, .unset] [(.ref w_FIRST_ONLY), (.ref w_FIRST_ONLY)])) (fun t k => st2 t k) ?_
  refine own_pre (T' := T2) (f' := (mkF m 31 #[rv w_FIRST_ONLY, iv x1, iv x2, .unset] [])) (fun t k => Jvm.RoadKit.acmp (g := (mkF m 28 #[rv w_FIRST_ONLY, iv x1, iv x2, .unset] [(.ref w_FIRST_ONLY), (.ref w_FIRST_ONLY)])) X2 hx rfl rfl rfl (pc0 := 28) (pc' := 31) (same := true) rfl (hb hby d2_28) rfl (decide_eq_true rfl) (by decide) (by decide) k) ?_
  refine own_pre (T' := T2) (f' := (mkF m 32 #[rv w_FIRST_ONLY, iv x1, iv x2, .unset] [(.int x1)])) (fun t k => XS.iloadN X2.here hx rfl (hb hby d2_31) rfl k) ?_
  refine own_pre (T' := T2) (f' := (mkF m 35 #[rv w_FIRST_ONLY, iv x1, iv x2, .unset] [])) (fun t k => XS.ifNo X2.here hx rfl (hb hby d2_32) rfl ((if0 _ _).trans (flt hA).1) k) ?_
  refine own_pre (T' := T2) (f' := (mkF m 36 #[rv w_FIRST_ONLY, iv x1, iv x2, .unset] [(.int (1 : Int32))])) (fun t k => XS.iconst X2.here hx rfl (hb hby d2_35) k) ?_
  refine own_pre (T' := T2) (f' := (mkF m 40 #[rv w_FIRST_ONLY, iv x1, iv x2, .unset] [(.int (1 : Int32))])) (fun t k => XS.goto X2.here hx rfl (pc0 := 36) (pc' := 40) rfl (hb hby d2_36) (by decide) (by decide) k) ?_
  refine own_pre (T' := T2) (f' := (mkF m 41 #[rv w_FIRST_ONLY, iv x1, iv x2, iv (1 : Int32)] [])) (fun t k => XS.istoreN X2.here hx rfl (hb hby d2_40) rfl (l' := #[rv w_FIRST_ONLY, iv x1, iv x2, iv (1 : Int32)]) rfl k) ?_
  refine own_pre (T' := T2) (f' := (mkF m 58 #[rv w_FIRST_ONLY, iv x1, iv x2, iv (1 : Int32)] [])) (fun t k => XS.goto X2.here hx rfl (pc0 := 41) (pc' := 58) rfl (hb hby d2_41) (by decide) (by decide) k) ?_
  refine own_pre (T' := T2) (f' := (mkF m 59 #[rv w_FIRST_ONLY, iv x1, iv x2, iv (1 : Int32)] [(.int (1 : Int32))])) (fun t k => XS.iloadN X2.here hx rfl (hb hby d2_58) rfl k) ?_
  exact own_retZ X2 hx hlk hret (hb hby d2_59) rfl (⟨rfl, e2, rfl⟩) (by decide) (by decide)
theorem d2_39 : decode prog_16_method_5_code 39 = .ok (.iconst 0, 1) := by decide +kernel
set_option maxRecDepth 65536 in
set_option maxHeartbeats 40000000 in
theorem own_b2_FIRST_ONLY_10 (l : Launch) (Z : State) (a0 : Array Value) (hw : ∀ d ∈ tables_1, d.before a0 Z = true) (ws : List Jvm.Cond) (w_BOTH w_FIRST_ONLY w_EXACTLY_ONE : Addr) (h0 : Heap) (F : own_F Z h0 w_BOTH w_FIRST_ONLY w_EXACTLY_ONE) (x1 x2 : Int32) (hA : x1 < (0 : Int32)) (hB : ¬ (x2 < (0 : Int32))) :
    own_C l (⟨"com/example/witness/witness/pattern/Dfa$Combination", "goesOn", "(II)Z"⟩ : MethodName) prog_16_method_5_code 4 (some .boolean) ws (own_R 0 0) #[(.ref w_FIRST_ONLY), (.int x1), (.int x2)] Z h0 (own_Q0 (some (.int (0 : Int32))) h0) := by
  have F0 := F
  obtain ⟨S_BOTH, E_BOTH, S_FIRST_ONLY, E_FIRST_ONLY, S_EXACTLY_ONE, E_EXACTLY_ONE, F_ordinal_FIRST_ONLY, F_ordinal_BOTH, F_ordinal_EXACTLY_ONE⟩ := F
  refine own_enter (LS := #[rv w_FIRST_ONLY, iv x1, iv x2, .unset]) (plainFor_of_name (by first | (simp [plainName, overriddenIn, x]; done) | decide +kernel)) (fun m => by first | (simp [entryFrame, mkF, argsToLocals, Value.category, maxLocals]; done) | rfl) ?_
  intro p e s m below meth c s₁ hx hby hml hown0 hnm hret hlk hZ X0 e0 hsh
  have hown : s.vm.findClass "com/example/witness/witness/pattern/Dfa$Combination" = some m.cls := hown0
  refine own_pre (T' := s₁) (f' := (mkF m 1 #[rv w_FIRST_ONLY, iv x1, iv x2, .unset] [(.ref w_FIRST_ONLY)])) (fun t k => XS.aloadN X0.here hx rfl (hb hby d2_0) rfl rfl k) ?_
  obtain ⟨T1, X1, e1, st1⟩ := getS2 X0 hx hZ hown (host := "") (Or.inl (hw _ (List.mem_of_getElem? (i := 13) rfl))) Via.refl e0 S_BOTH (g := (mkF m 1 #[rv w_FIRST_ONLY, iv x1, iv x2, .unset] [(.ref w_FIRST_ONLY)])) rfl (hb hby d2_1)
  refine own_pre (T' := T1) (f' := (mkF m 4 #[rv w_FIRST_ONLY, iv x1, iv x2, .unset] [(.ref w_BOTH), (.ref w_FIRST_ONLY)])) (fun t k => st1 t k) ?_
  refine own_pre (T' := T1) (f' := (mkF m 24 #[rv w_FIRST_ONLY, iv x1, iv x2, .unset] [])) (fun t k => Jvm.RoadKit.acmp (g := (mkF m 4 #[rv w_FIRST_ONLY, iv x1, iv x2, .unset] [(.ref w_BOTH), (.ref w_FIRST_ONLY)])) X1 hx rfl rfl rfl (pc0 := 4) (pc' := 24) (same := false) rfl (hb hby d2_4) rfl (decide_eq_false fun q => (Fld.ne F_ordinal_FIRST_ONLY F_ordinal_BOTH (own_neI (by decide))) (Value.ref.inj q)) (by decide) (by decide) k) ?_
  refine own_pre (T' := T1) (f' := (mkF m 25 #[rv w_FIRST_ONLY, iv x1, iv x2, .unset] [(.ref w_FIRST_ONLY)])) (fun t k => XS.aloadN X1.here hx rfl (hb hby d2_24) rfl rfl k) ?_
  obtain ⟨T2, X2, e2, st2⟩ := getS2 X1 hx hZ hown (host := "") (Or.inl (hw _ (List.mem_of_getElem? (i := 16) rfl))) Via.refl e1 S_FIRST_ONLY (g := (mkF m 25 #[rv w_FIRST_ONLY, iv x1, iv x2, .unset] [(.ref w_FIRST_ONLY)])) rfl (hb hby d2_25)
  refine own_pre (T' := T2) (f' := (mkF m 28 #[rv w_FIRST_ONLY, iv x1, iv x2, .unset] [(.ref w_FIRST_ONLY), (.ref w_FIRST_ONLY)])) (fun t k => st2 t k) ?_
  refine own_pre (T' := T2) (f' := (mkF m 31 #[rv w_FIRST_ONLY, iv x1, iv x2, .unset] [])) (fun t k => Jvm.RoadKit.acmp (g := (mkF m 28 #[rv w_FIRST_ONLY, iv x1, iv x2, .unset] [(.ref w_FIRST_ONLY), (.ref w_FIRST_ONLY)])) X2 hx rfl rfl rfl (pc0 := 28) (pc' := 31) (same := true) rfl (hb hby d2_28) rfl (decide_eq_true rfl) (by decide) (by decide) k) ?_
  refine own_pre (T' := T2) (f' := (mkF m 32 #[rv w_FIRST_ONLY, iv x1, iv x2, .unset] [(.int x1)])) (fun t k => XS.iloadN X2.here hx rfl (hb hby d2_31) rfl k) ?_
  refine own_pre (T' := T2) (f' := (mkF m 39 #[rv w_FIRST_ONLY, iv x1, iv x2, .unset] [])) (fun t k => XS.ifYes X2.here hx rfl (pc0 := 32) (pc' := 39) rfl (hb hby d2_32) rfl ((if0 _ _).trans (tlt hA).1) (by decide) (by decide) k) ?_
  refine own_pre (T' := T2) (f' := (mkF m 40 #[rv w_FIRST_ONLY, iv x1, iv x2, .unset] [(.int (0 : Int32))])) (fun t k => XS.iconst X2.here hx rfl (hb hby d2_39) k) ?_
  refine own_pre (T' := T2) (f' := (mkF m 41 #[rv w_FIRST_ONLY, iv x1, iv x2, iv (0 : Int32)] [])) (fun t k => XS.istoreN X2.here hx rfl (hb hby d2_40) rfl (l' := #[rv w_FIRST_ONLY, iv x1, iv x2, iv (0 : Int32)]) rfl k) ?_
  refine own_pre (T' := T2) (f' := (mkF m 58 #[rv w_FIRST_ONLY, iv x1, iv x2, iv (0 : Int32)] [])) (fun t k => XS.goto X2.here hx rfl (pc0 := 41) (pc' := 58) rfl (hb hby d2_41) (by decide) (by decide) k) ?_
  refine own_pre (T' := T2) (f' := (mkF m 59 #[rv w_FIRST_ONLY, iv x1, iv x2, iv (0 : Int32)] [(.int (0 : Int32))])) (fun t k => XS.iloadN X2.here hx rfl (hb hby d2_58) rfl k) ?_
  exact own_retZ X2 hx hlk hret (hb hby d2_59) rfl (⟨rfl, e2, rfl⟩) (by decide) (by decide)
set_option maxRecDepth 65536 in
set_option maxHeartbeats 40000000 in
theorem own_b2_FIRST_ONLY_11 (l : Launch) (Z : State) (a0 : Array Value) (hw : ∀ d ∈ tables_1, d.before a0 Z = true) (ws : List Jvm.Cond) (w_BOTH w_FIRST_ONLY w_EXACTLY_ONE : Addr) (h0 : Heap) (F : own_F Z h0 w_BOTH w_FIRST_ONLY w_EXACTLY_ONE) (x1 x2 : Int32) (hA : x1 < (0 : Int32)) (hB : x2 < (0 : Int32)) :
    own_C l (⟨"com/example/witness/witness/pattern/Dfa$Combination", "goesOn", "(II)Z"⟩ : MethodName) prog_16_method_5_code 4 (some .boolean) ws (own_R 0 0) #[(.ref w_FIRST_ONLY), (.int x1), (.int x2)] Z h0 (own_Q0 (some (.int (0 : Int32))) h0) := by
  have F0 := F
  obtain ⟨S_BOTH, E_BOTH, S_FIRST_ONLY, E_FIRST_ONLY, S_EXACTLY_ONE, E_EXACTLY_ONE, F_ordinal_FIRST_ONLY, F_ordinal_BOTH, F_ordinal_EXACTLY_ONE⟩ := F
  refine own_enter (LS := #[rv w_FIRST_ONLY, iv x1, iv x2, .unset]) (plainFor_of_name (by first | (simp [plainName, overriddenIn, x]; done) | decide +kernel)) (fun m => by first | (simp [entryFrame, mkF, argsToLocals, Value.category, maxLocals]; done) | rfl) ?_
  intro p e s m below meth c s₁ hx hby hml hown0 hnm hret hlk hZ X0 e0 hsh
  have hown : s.vm.findClass "com/example/witness/witness/pattern/Dfa$Combination" = some m.cls := hown0
  refine own_pre (T' := s₁) (f' := (mkF m 1 #[rv w_FIRST_ONLY, iv x1, iv x2, .unset] [(.ref w_FIRST_ONLY)])) (fun t k => XS.aloadN X0.here hx rfl (hb hby d2_0) rfl rfl k) ?_
  obtain ⟨T1, X1, e1, st1⟩ := getS2 X0 hx hZ hown (host := "") (Or.inl (hw _ (List.mem_of_getElem? (i := 13) rfl))) Via.refl e0 S_BOTH (g := (mkF m 1 #[rv w_FIRST_ONLY, iv x1, iv x2, .unset] [(.ref w_FIRST_ONLY)])) rfl (hb hby d2_1)
  refine own_pre (T' := T1) (f' := (mkF m 4 #[rv w_FIRST_ONLY, iv x1, iv x2, .unset] [(.ref w_BOTH), (.ref w_FIRST_ONLY)])) (fun t k => st1 t k) ?_
  refine own_pre (T' := T1) (f' := (mkF m 24 #[rv w_FIRST_ONLY, iv x1, iv x2, .unset] [])) (fun t k => Jvm.RoadKit.acmp (g := (mkF m 4 #[rv w_FIRST_ONLY, iv x1, iv x2, .unset] [(.ref w_BOTH), (.ref w_FIRST_ONLY)])) X1 hx rfl rfl rfl (pc0 := 4) (pc' := 24) (same := false) rfl (hb hby d2_4) rfl (decide_eq_false fun q => (Fld.ne F_ordinal_FIRST_ONLY F_ordinal_BOTH (own_neI (by decide))) (Value.ref.inj q)) (by decide) (by decide) k) ?_
  refine own_pre (T' := T1) (f' := (mkF m 25 #[rv w_FIRST_ONLY, iv x1, iv x2, .unset] [(.ref w_FIRST_ONLY)])) (fun t k => XS.aloadN X1.here hx rfl (hb hby d2_24) rfl rfl k) ?_
  obtain ⟨T2, X2, e2, st2⟩ := getS2 X1 hx hZ hown (host := "") (Or.inl (hw _ (List.mem_of_getElem? (i := 16) rfl))) Via.refl e1 S_FIRST_ONLY (g := (mkF m 25 #[rv w_FIRST_ONLY, iv x1, iv x2, .unset] [(.ref w_FIRST_ONLY)])) rfl (hb hby d2_25)
  refine own_pre (T' := T2) (f' := (mkF m 28 #[rv w_FIRST_ONLY, iv x1, iv x2, .unset] [(.ref w_FIRST_ONLY), (.ref w_FIRST_ONLY)])) (fun t k => st2 t k) ?_
  refine own_pre (T' := T2) (f' := (mkF m 31 #[rv w_FIRST_ONLY, iv x1, iv x2, .unset] [])) (fun t k => Jvm.RoadKit.acmp (g := (mkF m 28 #[rv w_FIRST_ONLY, iv x1, iv x2, .unset] [(.ref w_FIRST_ONLY), (.ref w_FIRST_ONLY)])) X2 hx rfl rfl rfl (pc0 := 28) (pc' := 31) (same := true) rfl (hb hby d2_28) rfl (decide_eq_true rfl) (by decide) (by decide) k) ?_
  refine own_pre (T' := T2) (f' := (mkF m 32 #[rv w_FIRST_ONLY, iv x1, iv x2, .unset] [(.int x1)])) (fun t k => XS.iloadN X2.here hx rfl (hb hby d2_31) rfl k) ?_
  refine own_pre (T' := T2) (f' := (mkF m 39 #[rv w_FIRST_ONLY, iv x1, iv x2, .unset] [])) (fun t k => XS.ifYes X2.here hx rfl (pc0 := 32) (pc' := 39) rfl (hb hby d2_32) rfl ((if0 _ _).trans (tlt hA).1) (by decide) (by decide) k) ?_
  refine own_pre (T' := T2) (f' := (mkF m 40 #[rv w_FIRST_ONLY, iv x1, iv x2, .unset] [(.int (0 : Int32))])) (fun t k => XS.iconst X2.here hx rfl (hb hby d2_39) k) ?_
  refine own_pre (T' := T2) (f' := (mkF m 41 #[rv w_FIRST_ONLY, iv x1, iv x2, iv (0 : Int32)] [])) (fun t k => XS.istoreN X2.here hx rfl (hb hby d2_40) rfl (l' := #[rv w_FIRST_ONLY, iv x1, iv x2, iv (0 : Int32)]) rfl k) ?_
  refine own_pre (T' := T2) (f' := (mkF m 58 #[rv w_FIRST_ONLY, iv x1, iv x2, iv (0 : Int32)] [])) (fun t k => XS.goto X2.here hx rfl (pc0 := 41) (pc' := 58) rfl (hb hby d2_41) (by decide) (by decide) k) ?_
  refine own_pre (T' := T2) (f' := (mkF m 59 #[rv w_FIRST_ONLY, iv x1, iv x2, iv (0 : Int32)] [(.int (0 : Int32))])) (fun t k => XS.iloadN X2.here hx rfl (hb hby d2_58) rfl k) ?_
  exact own_retZ X2 hx hlk hret (hb hby d2_59) rfl (⟨rfl, e2, rfl⟩) (by decide) (by decide)
theorem d2_44 : decode prog_16_method_5_code 44 = .ok (.iload_n 1, 1) := by decide +kernel
theorem d2_45 : decode prog_16_method_5_code 45 = .ok (.ifCond .ge 7, 3) := by decide +kernel
theorem d2_52 : decode prog_16_method_5_code 52 = .ok (.iconst 1, 1) := by decide +kernel
theorem d2_53 : decode prog_16_method_5_code 53 = .ok (.goto 4, 3) := by decide +kernel
theorem d2_57 : decode prog_16_method_5_code 57 = .ok (.istore_n 3, 1) := by decide +kernel
set_option maxRecDepth 65536 in
set_option maxHeartbeats 40000000 in
theorem own_b2_EXACTLY_ONE_00 (l : Launch) (Z : State) (a0 : Array Value) (hw : ∀ d ∈ tables_1, d.before a0 Z = true) (ws : List Jvm.Cond) (w_BOTH w_FIRST_ONLY w_EXACTLY_ONE : Addr) (h0 : Heap) (F : own_F Z h0 w_BOTH w_FIRST_ONLY w_EXACTLY_ONE) (x1 x2 : Int32) (hA : ¬ (x1 < (0 : Int32))) (hB : ¬ (x2 < (0 : Int32))) :
    own_C l (⟨"com/example/witness/witness/pattern/Dfa$Combination", "goesOn", "(II)Z"⟩ : MethodName) prog_16_method_5_code 4 (some .boolean) ws (own_R 0 0) #[(.ref w_EXACTLY_ONE), (.int x1), (.int x2)] Z h0 (own_Q0 (some (.int (1 : Int32))) h0) := by
  have F0 := F
  obtain ⟨S_BOTH, E_BOTH, S_FIRST_ONLY, E_FIRST_ONLY, S_EXACTLY_ONE, E_EXACTLY_ONE, F_ordinal_FIRST_ONLY, F_ordinal_BOTH, F_ordinal_EXACTLY_ONE⟩ := F
  refine own_enter (LS := #[rv w_EXACTLY_ONE, iv x1, iv x2, .unset]) (plainFor_of_name (by first | (simp [plainName, overriddenIn, x]; done) | decide +kernel)) (fun m => by first | (simp [entryFrame, mkF, argsToLocals, Value.category, maxLocals]; done) | rfl) ?_
  intro p e s m below meth c s₁ hx hby hml hown0 hnm hret hlk hZ X0 e0 hsh
  have hown : s.vm.findClass "com/example/witness/witness/pattern/Dfa$Combination" = some m.cls := hown0
  refine own_pre (T' := s₁) (f' := (mkF m 1 #[rv w_EXACTLY_ONE, iv x1, iv x2, .unset] [(.ref w_EXACTLY_ONE)])) (fun t k => XS.aloadN X0.here hx rfl (hb hby d2_0) rfl rfl k) ?_
  obtain ⟨T1, X1, e1, st1⟩ := getS2 X0 hx hZ hown (host := "") (Or.inl (hw _ (List.mem_of_getElem? (i := 13) rfl))) Via.refl e0 S_BOTH (g := (mkF m 1 #[rv w_EXACTLY_ONE, iv x1, iv x2, .unset] [(.ref w_EXACTLY_ONE)])) rfl (hb hby d2_1)
  refine own_pre (T' := T1) (f' := (mkF m 4 #[rv w_EXACTLY_ONE, iv x1, iv x2, .unset] [(.ref w_BOTH), (.ref w_EXACTLY_ONE)])) (fun t k => st1 t k) ?_
  refine own_pre (T' := T1) (f' := (mkF m 24 #[rv w_EXACTLY_ONE, iv x1, iv x2, .unset] [])) (fun t k => Jvm.RoadKit.acmp (g := (mkF m 4 #[rv w_EXACTLY_ONE, iv x1, iv x2, .unset] [(.ref w_BOTH), (.ref w_EXACTLY_ONE)])) X1 hx rfl rfl rfl (pc0 := 4) (pc' := 24) (same := false) rfl (hb hby d2_4) rfl (decide_eq_false fun q => (Fld.ne F_ordinal_EXACTLY_ONE F_ordinal_BOTH (own_neI (by decide))) (Value.ref.inj q)) (by decide) (by decide) k) ?_
  refine own_pre (T' := T1) (f' := (mkF m 25 #[rv w_EXACTLY_ONE, iv x1, iv x2, .unset] [(.ref w_EXACTLY_ONE)])) (fun t k => XS.aloadN X1.here hx rfl (hb hby d2_24) rfl rfl k) ?_
  obtain ⟨T2, X2, e2, st2⟩ := getS2 X1 hx hZ hown (host := "") (Or.inl (hw _ (List.mem_of_getElem? (i := 16) rfl))) Via.refl e1 S_FIRST_ONLY (g := (mkF m 25 #[rv w_EXACTLY_ONE, iv x1, iv x2, .unset] [(.ref w_EXACTLY_ONE)])) rfl (hb hby d2_25)
  refine own_pre (T' := T2) (f' := (mkF m 28 #[rv w_EXACTLY_ONE, iv x1, iv x2, .unset] [(.ref w_FIRST_ONLY), (.ref w_EXACTLY_ONE)])) (fun t k => st2 t k) ?_
  refine own_pre (T' := T2) (f' := (mkF m 44 #[rv w_EXACTLY_ONE, iv x1, iv x2, .unset] [])) (fun t k => Jvm.RoadKit.acmp (g := (mkF m 28 #[rv w_EXACTLY_ONE, iv x1, iv x2, .unset] [(.ref w_FIRST_ONLY), (.ref w_EXACTLY_ONE)])) X2 hx rfl rfl rfl (pc0 := 28) (pc' := 44) (same := false) rfl (hb hby d2_28) rfl (decide_eq_false fun q => (Fld.ne F_ordinal_EXACTLY_ONE F_ordinal_FIRST_ONLY (own_neI (by decide))) (Value.ref.inj q)) (by decide) (by decide) k) ?_
  refine own_pre (T' := T2) (f' := (mkF m 45 #[rv w_EXACTLY_ONE, iv x1, iv x2, .unset] [(.int x1)])) (fun t k => XS.iloadN X2.here hx rfl (hb hby d2_44) rfl k) ?_
  refine own_pre (T' := T2) (f' := (mkF m 52 #[rv w_EXACTLY_ONE, iv x1, iv x2, .unset] [])) (fun t k => XS.ifYes X2.here hx rfl (pc0 := 45) (pc' := 52) rfl (hb hby d2_45) rfl ((if0 _ _).trans (flt hA).2.1) (by decide) (by decide) k) ?_
  refine own_pre (T' := T2) (f' := (mkF m 53 #[rv w_EXACTLY_ONE, iv x1, iv x2, .unset] [(.int (1 : Int32))])) (fun t k => XS.iconst X2.here hx rfl (hb hby d2_52) k) ?_
  refine own_pre (T' := T2) (f' := (mkF m 57 #[rv w_EXACTLY_ONE, iv x1, iv x2, .unset] [(.int (1 : Int32))])) (fun t k => XS.goto X2.here hx rfl (pc0 := 53) (pc' := 57) rfl (hb hby d2_53) (by decide) (by decide) k) ?_
  refine own_pre (T' := T2) (f' := (mkF m 58 #[rv w_EXACTLY_ONE, iv x1, iv x2, iv (1 : Int32)] [])) (fun t k => XS.istoreN X2.here hx rfl (hb hby d2_57) rfl (l' := #[rv w_EXACTLY_ONE, iv x1, iv x2, iv (1 : Int32)]) rfl k) ?_
  refine own_pre (T' := T2) (f' := (mkF m 59 #[rv w_EXACTLY_ONE, iv x1, iv x2, iv (1 : Int32)] [(.int (1 : Int32))])) (fun t k => XS.iloadN X2.here hx rfl (hb hby d2_58) rfl k) ?_
  exact own_retZ X2 hx hlk hret (hb hby d2_59) rfl (⟨rfl, e2, rfl⟩) (by decide) (by decide)
set_option maxRecDepth 65536 in
set_option maxHeartbeats 40000000 in
theorem own_b2_EXACTLY_ONE_01 (l : Launch) (Z : State) (a0 : Array Value) (hw : ∀ d ∈ tables_1, d.before a0 Z = true) (ws : List Jvm.Cond) (w_BOTH w_FIRST_ONLY w_EXACTLY_ONE : Addr) (h0 : Heap) (F : own_F Z h0 w_BOTH w_FIRST_ONLY w_EXACTLY_ONE) (x1 x2 : Int32) (hA : ¬ (x1 < (0 : Int32))) (hB : x2 < (0 : Int32)) :
    own_C l (⟨"com/example/witness/witness/pattern/Dfa$Combination", "goesOn", "(II)Z"⟩ : MethodName) prog_16_method_5_code 4 (some .boolean) ws (own_R 0 0) #[(.ref w_EXACTLY_ONE), (.int x1), (.int x2)] Z h0 (own_Q0 (some (.int (1 : Int32))) h0) := by
  have F0 := F
  obtain ⟨S_BOTH, E_BOTH, S_FIRST_ONLY, E_FIRST_ONLY, S_EXACTLY_ONE, E_EXACTLY_ONE, F_ordinal_FIRST_ONLY, F_ordinal_BOTH, F_ordinal_EXACTLY_ONE⟩ := F
  refine own_enter (LS := #[rv w_EXACTLY_ONE, iv x1, iv x2, .unset]) (plainFor_of_name (by first | (simp [plainName, overriddenIn, x]; done) | decide +kernel)) (fun m => by first | (simp [entryFrame, mkF, argsToLocals, Value.category, maxLocals]; done) | rfl) ?_
  intro p e s m below meth c s₁ hx hby hml hown0 hnm hret hlk hZ X0 e0 hsh
  have hown : s.vm.findClass "com/example/witness/witness/pattern/Dfa$Combination" = some m.cls := hown0
  refine own_pre (T' := s₁) (f' := (mkF m 1 #[rv w_EXACTLY_ONE, iv x1, iv x2, .unset] [(.ref w_EXACTLY_ONE)])) (fun t k => XS.aloadN X0.here hx rfl (hb hby d2_0) rfl rfl k) ?_
  obtain ⟨T1, X1, e1, st1⟩ := getS2 X0 hx hZ hown (host := "") (Or.inl (hw _ (List.mem_of_getElem? (i := 13) rfl))) Via.refl e0 S_BOTH (g := (mkF m 1 #[rv w_EXACTLY_ONE, iv x1, iv x2, .unset] [(.ref w_EXACTLY_ONE)])) rfl (hb hby d2_1)
  refine own_pre (T' := T1) (f' := (mkF m 4 #[rv w_EXACTLY_ONE, iv x1, iv x2, .unset] [(.ref w_BOTH), (.ref w_EXACTLY_ONE)])) (fun t k => st1 t k) ?_
  refine own_pre (T' := T1) (f' := (mkF m 24 #[rv w_EXACTLY_ONE, iv x1, iv x2, .unset] [])) (fun t k => Jvm.RoadKit.acmp (g := (mkF m 4 #[rv w_EXACTLY_ONE, iv x1, iv x2, .unset] [(.ref w_BOTH), (.ref w_EXACTLY_ONE)])) X1 hx rfl rfl rfl (pc0 := 4) (pc' := 24) (same := false) rfl (hb hby d2_4) rfl (decide_eq_false fun q => (Fld.ne F_ordinal_EXACTLY_ONE F_ordinal_BOTH (own_neI (by decide))) (Value.ref.inj q)) (by decide) (by decide) k) ?_
  refine own_pre (T' := T1) (f' := (mkF m 25 #[rv w_EXACTLY_ONE, iv x1, iv x2, .unset] [(.ref w_EXACTLY_ONE)])) (fun t k => XS.aloadN X1.here hx rfl (hb hby d2_24) rfl rfl k) ?_
  obtain ⟨T2, X2, e2, st2⟩ := getS2 X1 hx hZ hown (host := "") (Or.inl (hw _ (List.mem_of_getElem? (i := 16) rfl))) Via.refl e1 S_FIRST_ONLY (g := (mkF m 25 #[rv w_EXACTLY_ONE, iv x1, iv x2, .unset] [(.ref w_EXACTLY_ONE)])) rfl (hb hby d2_25)
  refine own_pre (T' := T2) (f' := (mkF m 28 #[rv w_EXACTLY_ONE, iv x1, iv x2, .unset] [(.ref w_FIRST_ONLY), (.ref w_EXACTLY_ONE)])) (fun t k => st2 t k) ?_
  refine own_pre (T' := T2) (f' := (mkF m 44 #[rv w_EXACTLY_ONE, iv x1, iv x2, .unset] [])) (fun t k => Jvm.RoadKit.acmp (g := (mkF m 28 #[rv w_EXACTLY_ONE, iv x1, iv x2, .unset] [(.ref w_FIRST_ONLY), (.ref w_EXACTLY_ONE)])) X2 hx rfl rfl rfl (pc0 := 28) (pc' := 44) (same := false) rfl (hb hby d2_28) rfl (decide_eq_false fun q => (Fld.ne F_ordinal_EXACTLY_ONE F_ordinal_FIRST_ONLY (own_neI (by decide))) (Value.ref.inj q)) (by decide) (by decide) k) ?_
  refine own_pre (T' := T2) (f' := (mkF m 45 #[rv w_EXACTLY_ONE, iv x1, iv x2, .unset] [(.int x1)])) (fun t k => XS.iloadN X2.here hx rfl (hb hby d2_44) rfl k) ?_
  refine own_pre (T' := T2) (f' := (mkF m 52 #[rv w_EXACTLY_ONE, iv x1, iv x2, .unset] [])) (fun t k => XS.ifYes X2.here hx rfl (pc0 := 45) (pc' := 52) rfl (hb hby d2_45) rfl ((if0 _ _).trans (flt hA).2.1) (by decide) (by decide) k) ?_
  refine own_pre (T' := T2) (f' := (mkF m 53 #[rv w_EXACTLY_ONE, iv x1, iv x2, .unset] [(.int (1 : Int32))])) (fun t k => XS.iconst X2.here hx rfl (hb hby d2_52) k) ?_
  refine own_pre (T' := T2) (f' := (mkF m 57 #[rv w_EXACTLY_ONE, iv x1, iv x2, .unset] [(.int (1 : Int32))])) (fun t k => XS.goto X2.here hx rfl (pc0 := 53) (pc' := 57) rfl (hb hby d2_53) (by decide) (by decide) k) ?_
  refine own_pre (T' := T2) (f' := (mkF m 58 #[rv w_EXACTLY_ONE, iv x1, iv x2, iv (1 : Int32)] [])) (fun t k => XS.istoreN X2.here hx rfl (hb hby d2_57) rfl (l' := #[rv w_EXACTLY_ONE, iv x1, iv x2, iv (1 : Int32)]) rfl k) ?_
  refine own_pre (T' := T2) (f' := (mkF m 59 #[rv w_EXACTLY_ONE, iv x1, iv x2, iv (1 : Int32)] [(.int (1 : Int32))])) (fun t k => XS.iloadN X2.here hx rfl (hb hby d2_58) rfl k) ?_
  exact own_retZ X2 hx hlk hret (hb hby d2_59) rfl (⟨rfl, e2, rfl⟩) (by decide) (by decide)
theorem d2_48 : decode prog_16_method_5_code 48 = .ok (.iload_n 2, 1) := by decide +kernel
theorem d2_49 : decode prog_16_method_5_code 49 = .ok (.ifCond .lt 7, 3) := by decide +kernel
set_option maxRecDepth 65536 in
set_option maxHeartbeats 40000000 in
theorem own_b2_EXACTLY_ONE_10 (l : Launch) (Z : State) (a0 : Array Value) (hw : ∀ d ∈ tables_1, d.before a0 Z = true) (ws : List Jvm.Cond) (w_BOTH w_FIRST_ONLY w_EXACTLY_ONE : Addr) (h0 : Heap) (F : own_F Z h0 w_BOTH w_FIRST_ONLY w_EXACTLY_ONE) (x1 x2 : Int32) (hA : x1 < (0 : Int32)) (hB : ¬ (x2 < (0 : Int32))) :
    own_C l (⟨"com/example/witness/witness/pattern/Dfa$Combination", "goesOn", "(II)Z"⟩ : MethodName) prog_16_method_5_code 4 (some .boolean) ws (own_R 0 0) #[(.ref w_EXACTLY_ONE), (.int x1), (.int x2)] Z h0 (own_Q0 (some (.int (1 : Int32))) h0) := by
  have F0 := F
  obtain ⟨S_BOTH, E_BOTH, S_FIRST_ONLY, E_FIRST_ONLY, S_EXACTLY_ONE, E_EXACTLY_ONE, F_ordinal_FIRST_ONLY, F_ordinal_BOTH, F_ordinal_EXACTLY_ONE⟩ := F
  refine own_enter (LS := #[rv w_EXACTLY_ONE, iv x1, iv x2, .unset]) (plainFor_of_name (by first | (simp [plainName, overriddenIn, x]; done) | decide +kernel)) (fun m => by first | (simp [entryFrame, mkF, argsToLocals, Value.category, maxLocals]; done) | rfl) ?_
  intro p e s m below meth c s₁ hx hby hml hown0 hnm hret hlk hZ X0 e0 hsh
  have hown : s.vm.findClass "com/example/witness/witness/pattern/Dfa$Combination" = some m.cls := hown0
  refine own_pre (T' := s₁) (f' := (mkF m 1 #[rv w_EXACTLY_ONE, iv x1, iv x2, .unset] [(.ref w_EXACTLY_ONE)])) (fun t k => XS.aloadN X0.here hx rfl (hb hby d2_0) rfl rfl k) ?_
  obtain ⟨T1, X1, e1, st1⟩ := getS2 X0 hx hZ hown (host := "") (Or.inl (hw _ (List.mem_of_getElem? (i := 13) rfl))) Via.refl e0 S_BOTH (g := (mkF m 1 #[rv w_EXACTLY_ONE, iv x1, iv x2, .unset] [(.ref w_EXACTLY_ONE)])) rfl (hb hby d2_1)
  refine own_pre (T' := T1) (f' := (mkF m 4 #[rv w_EXACTLY_ONE, iv x1, iv x2, .unset] [(.ref w_BOTH), (.ref w_EXACTLY_ONE)])) (fun t k => st1 t k) ?_
  refine own_pre (T' := T1) (f' := (mkF m 24 #[rv w_EXACTLY_ONE, iv x1, iv x2, .unset] [])) (fun t k => Jvm.RoadKit.acmp (g := (mkF m 4 #[rv w_EXACTLY_ONE, iv x1, iv x2, .unset] [(.ref w_BOTH), (.ref w_EXACTLY_ONE)])) X1 hx rfl rfl rfl (pc0 := 4) (pc' := 24) (same := false) rfl (hb hby d2_4) rfl (decide_eq_false fun q => (Fld.ne F_ordinal_EXACTLY_ONE F_ordinal_BOTH (own_neI (by decide))) (Value.ref.inj q)) (by decide) (by decide) k) ?_
  refine own_pre (T' := T1) (f' := (mkF m 25 #[rv w_EXACTLY_ONE, iv x1, iv x2, .unset] [(.ref w_EXACTLY_ONE)])) (fun t k => XS.aloadN X1.here hx rfl (hb hby d2_24) rfl rfl k) ?_
  obtain ⟨T2, X2, e2, st2⟩ := getS2 X1 hx hZ hown (host := "") (Or.inl (hw _ (List.mem_of_getElem? (i := 16) rfl))) Via.refl e1 S_FIRST_ONLY (g := (mkF m 25 #[rv w_EXACTLY_ONE, iv x1, iv x2, .unset] [(.ref w_EXACTLY_ONE)])) rfl (hb hby d2_25)
  refine own_pre (T' := T2) (f' := (mkF m 28 #[rv w_EXACTLY_ONE, iv x1, iv x2, .unset] [(.ref w_FIRST_ONLY), (.ref w_EXACTLY_ONE)])) (fun t k => st2 t k) ?_
  refine own_pre (T' := T2) (f' := (mkF m 44 #[rv w_EXACTLY_ONE, iv x1, iv x2, .unset] [])) (fun t k => Jvm.RoadKit.acmp (g := (mkF m 28 #[rv w_EXACTLY_ONE, iv x1, iv x2, .unset] [(.ref w_FIRST_ONLY), (.ref w_EXACTLY_ONE)])) X2 hx rfl rfl rfl (pc0 := 28) (pc' := 44) (same := false) rfl (hb hby d2_28) rfl (decide_eq_false fun q => (Fld.ne F_ordinal_EXACTLY_ONE F_ordinal_FIRST_ONLY (own_neI (by decide))) (Value.ref.inj q)) (by decide) (by decide) k) ?_
  refine own_pre (T' := T2) (f' := (mkF m 45 #[rv w_EXACTLY_ONE, iv x1, iv x2, .unset] [(.int x1)])) (fun t k => XS.iloadN X2.here hx rfl (hb hby d2_44) rfl k) ?_
  refine own_pre (T' := T2) (f' := (mkF m 48 #[rv w_EXACTLY_ONE, iv x1, iv x2, .unset] [])) (fun t k => XS.ifNo X2.here hx rfl (hb hby d2_45) rfl ((if0 _ _).trans (tlt hA).2.1) k) ?_
  refine own_pre (T' := T2) (f' := (mkF m 49 #[rv w_EXACTLY_ONE, iv x1, iv x2, .unset] [(.int x2)])) (fun t k => XS.iloadN X2.here hx rfl (hb hby d2_48) rfl k) ?_
  refine own_pre (T' := T2) (f' := (mkF m 52 #[rv w_EXACTLY_ONE, iv x1, iv x2, .unset] [])) (fun t k => XS.ifNo X2.here hx rfl (hb hby d2_49) rfl ((if0 _ _).trans (flt hB).1) k) ?_
  refine own_pre (T' := T2) (f' := (mkF m 53 #[rv w_EXACTLY_ONE, iv x1, iv x2, .unset] [(.int (1 : Int32))])) (fun t k => XS.iconst X2.here hx rfl (hb hby d2_52) k) ?_
  refine own_pre (T' := T2) (f' := (mkF m 57 #[rv w_EXACTLY_ONE, iv x1, iv x2, .unset] [(.int (1 : Int32))])) (fun t k => XS.goto X2.here hx rfl (pc0 := 53) (pc' := 57) rfl (hb hby d2_53) (by decide) (by decide) k) ?_
  refine own_pre (T' := T2) (f' := (mkF m 58 #[rv w_EXACTLY_ONE, iv x1, iv x2, iv (1 : Int32)] [])) (fun t k => XS.istoreN X2.here hx rfl (hb hby d2_57) rfl (l' := #[rv w_EXACTLY_ONE, iv x1, iv x2, iv (1 : Int32)]) rfl k) ?_
  refine own_pre (T' := T2) (f' := (mkF m 59 #[rv w_EXACTLY_ONE, iv x1, iv x2, iv (1 : Int32)] [(.int (1 : Int32))])) (fun t k => XS.iloadN X2.here hx rfl (hb hby d2_58) rfl k) ?_
  exact own_retZ X2 hx hlk hret (hb hby d2_59) rfl (⟨rfl, e2, rfl⟩) (by decide) (by decide)
theorem d2_56 : decode prog_16_method_5_code 56 = .ok (.iconst 0, 1) := by decide +kernel
set_option maxRecDepth 65536 in
set_option maxHeartbeats 40000000 in
theorem own_b2_EXACTLY_ONE_11 (l : Launch) (Z : State) (a0 : Array Value) (hw : ∀ d ∈ tables_1, d.before a0 Z = true) (ws : List Jvm.Cond) (w_BOTH w_FIRST_ONLY w_EXACTLY_ONE : Addr) (h0 : Heap) (F : own_F Z h0 w_BOTH w_FIRST_ONLY w_EXACTLY_ONE) (x1 x2 : Int32) (hA : x1 < (0 : Int32)) (hB : x2 < (0 : Int32)) :
    own_C l (⟨"com/example/witness/witness/pattern/Dfa$Combination", "goesOn", "(II)Z"⟩ : MethodName) prog_16_method_5_code 4 (some .boolean) ws (own_R 0 0) #[(.ref w_EXACTLY_ONE), (.int x1), (.int x2)] Z h0 (own_Q0 (some (.int (0 : Int32))) h0) := by
  have F0 := F
  obtain ⟨S_BOTH, E_BOTH, S_FIRST_ONLY, E_FIRST_ONLY, S_EXACTLY_ONE, E_EXACTLY_ONE, F_ordinal_FIRST_ONLY, F_ordinal_BOTH, F_ordinal_EXACTLY_ONE⟩ := F
  refine own_enter (LS := #[rv w_EXACTLY_ONE, iv x1, iv x2, .unset]) (plainFor_of_name (by first | (simp [plainName, overriddenIn, x]; done) | decide +kernel)) (fun m => by first | (simp [entryFrame, mkF, argsToLocals, Value.category, maxLocals]; done) | rfl) ?_
  intro p e s m below meth c s₁ hx hby hml hown0 hnm hret hlk hZ X0 e0 hsh
  have hown : s.vm.findClass "com/example/witness/witness/pattern/Dfa$Combination" = some m.cls := hown0
  refine own_pre (T' := s₁) (f' := (mkF m 1 #[rv w_EXACTLY_ONE, iv x1, iv x2, .unset] [(.ref w_EXACTLY_ONE)])) (fun t k => XS.aloadN X0.here hx rfl (hb hby d2_0) rfl rfl k) ?_
  obtain ⟨T1, X1, e1, st1⟩ := getS2 X0 hx hZ hown (host := "") (Or.inl (hw _ (List.mem_of_getElem? (i := 13) rfl))) Via.refl e0 S_BOTH (g := (mkF m 1 #[rv w_EXACTLY_ONE, iv x1, iv x2, .unset] [(.ref w_EXACTLY_ONE)])) rfl (hb hby d2_1)
  refine own_pre (T' := T1) (f' := (mkF m 4 #[rv w_EXACTLY_ONE, iv x1, iv x2, .unset] [(.ref w_BOTH), (.ref w_EXACTLY_ONE)])) (fun t k => st1 t k) ?_
  refine own_pre (T' := T1) (f' := (mkF m 24 #[rv w_EXACTLY_ONE, iv x1, iv x2, .unset] [])) (fun t k => Jvm.RoadKit.acmp (g := (mkF m 4 #[rv w_EXACTLY_ONE, iv x1, iv x2, .unset] [(.ref w_BOTH), (.ref w_EXACTLY_ONE)])) X1 hx rfl rfl rfl (pc0 := 4) (pc' := 24) (same := false) rfl (hb hby d2_4) rfl (decide_eq_false fun q => (Fld.ne F_ordinal_EXACTLY_ONE F_ordinal_BOTH (own_neI (by decide))) (Value.ref.inj q)) (by decide) (by decide) k) ?_
  refine own_pre (T' := T1) (f' := (mkF m 25 #[rv w_EXACTLY_ONE, iv x1, iv x2, .unset] [(.ref w_EXACTLY_ONE)])) (fun t k => XS.aloadN X1.here hx rfl (hb hby d2_24) rfl rfl k) ?_
  obtain ⟨T2, X2, e2, st2⟩ := getS2 X1 hx hZ hown (host := "") (Or.inl (hw _ (List.mem_of_getElem? (i := 16) rfl))) Via.refl e1 S_FIRST_ONLY (g := (mkF m 25 #[rv w_EXACTLY_ONE, iv x1, iv x2, .unset] [(.ref w_EXACTLY_ONE)])) rfl (hb hby d2_25)
  refine own_pre (T' := T2) (f' := (mkF m 28 #[rv w_EXACTLY_ONE, iv x1, iv x2, .unset] [(.ref w_FIRST_ONLY), (.ref w_EXACTLY_ONE)])) (fun t k => st2 t k) ?_
  refine own_pre (T' := T2) (f' := (mkF m 44 #[rv w_EXACTLY_ONE, iv x1, iv x2, .unset] [])) (fun t k => Jvm.RoadKit.acmp (g := (mkF m 28 #[rv w_EXACTLY_ONE, iv x1, iv x2, .unset] [(.ref w_FIRST_ONLY), (.ref w_EXACTLY_ONE)])) X2 hx rfl rfl rfl (pc0 := 28) (pc' := 44) (same := false) rfl (hb hby d2_28) rfl (decide_eq_false fun q => (Fld.ne F_ordinal_EXACTLY_ONE F_ordinal_FIRST_ONLY (own_neI (by decide))) (Value.ref.inj q)) (by decide) (by decide) k) ?_
  refine own_pre (T' := T2) (f' := (mkF m 45 #[rv w_EXACTLY_ONE, iv x1, iv x2, .unset] [(.int x1)])) (fun t k => XS.iloadN X2.here hx rfl (hb hby d2_44) rfl k) ?_
  refine own_pre (T' := T2) (f' := (mkF m 48 #[rv w_EXACTLY_ONE, iv x1, iv x2, .unset] [])) (fun t k => XS.ifNo X2.here hx rfl (hb hby d2_45) rfl ((if0 _ _).trans (tlt hA).2.1) k) ?_
  refine own_pre (T' := T2) (f' := (mkF m 49 #[rv w_EXACTLY_ONE, iv x1, iv x2, .unset] [(.int x2)])) (fun t k => XS.iloadN X2.here hx rfl (hb hby d2_48) rfl k) ?_
  refine own_pre (T' := T2) (f' := (mkF m 56 #[rv w_EXACTLY_ONE, iv x1, iv x2, .unset] [])) (fun t k => XS.ifYes X2.here hx rfl (pc0 := 49) (pc' := 56) rfl (hb hby d2_49) rfl ((if0 _ _).trans (tlt hB).1) (by decide) (by decide) k) ?_
  refine own_pre (T' := T2) (f' := (mkF m 57 #[rv w_EXACTLY_ONE, iv x1, iv x2, .unset] [(.int (0 : Int32))])) (fun t k => XS.iconst X2.here hx rfl (hb hby d2_56) k) ?_
  refine own_pre (T' := T2) (f' := (mkF m 58 #[rv w_EXACTLY_ONE, iv x1, iv x2, iv (0 : Int32)] [])) (fun t k => XS.istoreN X2.here hx rfl (hb hby d2_57) rfl (l' := #[rv w_EXACTLY_ONE, iv x1, iv x2, iv (0 : Int32)]) rfl k) ?_
  refine own_pre (T' := T2) (f' := (mkF m 59 #[rv w_EXACTLY_ONE, iv x1, iv x2, iv (0 : Int32)] [(.int (0 : Int32))])) (fun t k => XS.iloadN X2.here hx rfl (hb hby d2_58) rfl k) ?_
  exact own_retZ X2 hx hlk hret (hb hby d2_59) rfl (⟨rfl, e2, rfl⟩) (by decide) (by decide)
set_option maxRecDepth 65536 in
set_option maxHeartbeats 40000000 in
theorem own_law (l : Launch) (Z : State) (a0 : Array Value) (hw : ∀ d ∈ tables_1, d.before a0 Z = true) (ws : List Jvm.Cond) (w_BOTH w_FIRST_ONLY w_EXACTLY_ONE : Addr) (h0 : Heap) (F : own_F Z h0 w_BOTH w_FIRST_ONLY w_EXACTLY_ONE) (p1 : Int32) (p2 : Int32) (p3 : Int32) :
    own_C l x code maxLocals ret ws room_1 #[(.int p1), (.int p2), (.int p3)] Z h0 (fun v _ L => v = some (.int (1 : Int32)) ∧ Fr h0.size L) := by
  have F0 := F
  obtain ⟨S_BOTH, E_BOTH, S_FIRST_ONLY, E_FIRST_ONLY, S_EXACTLY_ONE, E_EXACTLY_ONE, F_ordinal_FIRST_ONLY, F_ordinal_BOTH, F_ordinal_EXACTLY_ONE⟩ := F
  refine own_enter (LS := #[iv p1, iv p2, iv p3, .unset, .unset, .unset, .unset, .unset]) (plainFor_of_name (by first | (simp [plainName, overriddenIn, x]; done) | decide +kernel)) (fun m => by first | (simp [entryFrame, mkF, argsToLocals, Value.category, maxLocals]; done) | rfl) ?_
  intro p e s m below meth c s₁ hx hby hml hown0 hnm hret hlk hZ X0 e0 hsh
  have hown : s.vm.findClass "com/example/witness/witness/pattern/CombinationGoesOnPinLaw" = some m.cls := hown0
  refine own_pre (T' := s₁) (f' := (mkF m 1 #[iv p1, iv p2, iv p3, .unset, .unset, .unset, .unset, .unset] [(.int p1)])) (fun t k => XS.iloadN X0.here hx rfl (hb hby at_0) rfl k) ?_
  refine own_pre (T' := s₁) (f' := (mkF m 3 #[iv p1, iv p2, iv p3, .unset, .unset, .unset, .unset, .unset] [(.int (2147483647 : Int32)), (.int p1)])) (fun t k => X0.ldcInt hx hown (mvT hZ (hw _ (List.mem_of_getElem? (i := 0) rfl))) (g := (mkF m 1 #[iv p1, iv p2, iv p3, .unset, .unset, .unset, .unset, .unset] [(.int p1)])) rfl (hb hby at_1) t k) ?_
  refine own_pre (T' := s₁) (f' := (mkF m 4 #[iv p1, iv p2, iv p3, .unset, .unset, .unset, .unset, .unset] [(.int (p1 &&& (2147483647 : Int32)))])) (fun t k => XS.iand X0.here hx rfl (hb hby at_3) rfl k) ?_
  refine own_pre (T' := s₁) (f' := (mkF m 5 #[iv p1, iv p2, iv p3, .unset, .unset, .unset, .unset, .unset] [(.int (3 : Int32)), (.int (p1 &&& (2147483647 : Int32)))])) (fun t k => XS.iconst X0.here hx rfl (hb hby at_4) k) ?_
  refine own_pre (T' := s₁) (f' := (mkF m 6 #[iv p1, iv p2, iv p3, .unset, .unset, .unset, .unset, .unset] [(.int ((p1 &&& (2147483647 : Int32)) % (3 : Int32)))])) (fun t k => iremM X0 hx rfl (hb hby at_5) rfl (by decide) k) ?_
  rcases own_r3 p1 with hj | hj | hj
  · rw [hj]
    refine own_pre (T' := s₁) (f' := (mkF m 7 #[iv p1, iv p2, iv p3, iv (0 : Int32), .unset, .unset, .unset, .unset] [])) (fun t k => XS.istoreN X0.here hx rfl (hb hby at_6) rfl (l' := #[iv p1, iv p2, iv p3, iv (0 : Int32), .unset, .unset, .unset, .unset]) rfl k) ?_
    refine own_pre (T' := s₁) (f' := (mkF m 8 #[iv p1, iv p2, iv p3, iv (0 : Int32), .unset, .unset, .unset, .unset] [(.int (0 : Int32))])) (fun t k => XS.iloadN X0.here hx rfl (hb hby at_7) rfl k) ?_
    refine own_pre (T' := s₁) (f' := (mkF m 11 #[iv p1, iv p2, iv p3, iv (0 : Int32), .unset, .unset, .unset, .unset] [])) (fun t k => XS.ifNo X0.here hx rfl (hb hby at_8) rfl ((if0 _ _).trans (teq (by decide : (0 : Int32) = (0 : Int32))).2) k) ?_
    obtain ⟨T1, X1, e1, st1⟩ := getS2 X0 hx hZ hown (host := "") (Or.inl (hw _ (List.mem_of_getElem? (i := 1) rfl))) Via.refl e0 S_BOTH (g := (mkF m 11 #[iv p1, iv p2, iv p3, iv (0 : Int32), .unset, .unset, .unset, .unset] [])) rfl (hb hby at_11)
    refine own_pre (T' := T1) (f' := (mkF m 14 #[iv p1, iv p2, iv p3, iv (0 : Int32), .unset, .unset, .unset, .unset] [(.ref w_BOTH)])) (fun t k => st1 t k) ?_
    refine own_pre (T' := T1) (f' := (mkF m 16 #[iv p1, iv p2, iv p3, iv (0 : Int32), rv w_BOTH, .unset, .unset, .unset] [])) (fun t k => XS.astore X1.here hx rfl (hb hby at_14) rfl rfl (l' := #[iv p1, iv p2, iv p3, iv (0 : Int32), rv w_BOTH, .unset, .unset, .unset]) rfl k) ?_
    refine own_pre (T' := T1) (f' := (mkF m 37 #[iv p1, iv p2, iv p3, iv (0 : Int32), rv w_BOTH, .unset, .unset, .unset] [])) (fun t k => XS.goto X1.here hx rfl (pc0 := 16) (pc' := 37) rfl (hb hby at_16) (by decide) (by decide) k) ?_
    refine own_pre (T' := T1) (f' := (mkF m 38 #[iv p1, iv p2, iv p3, iv (0 : Int32), rv w_BOTH, .unset, .unset, .unset] [(.int p2)])) (fun t k => XS.iloadN X1.here hx rfl (hb hby at_37) rfl k) ?_
    by_cases hc2 : p2 < (0 : Int32)
    · refine own_pre (T' := T1) (f' := (mkF m 45 #[iv p1, iv p2, iv p3, iv (0 : Int32), rv w_BOTH, .unset, .unset, .unset] [])) (fun t k => XS.ifYes X1.here hx rfl (pc0 := 38) (pc' := 45) rfl (hb hby at_38) rfl ((if0 _ _).trans (tlt hc2).1) (by decide) (by decide) k) ?_
      refine own_pre (T' := T1) (f' := (mkF m 46 #[iv p1, iv p2, iv p3, iv (0 : Int32), rv w_BOTH, .unset, .unset, .unset] [(.int (0 : Int32))])) (fun t k => XS.iconst X1.here hx rfl (hb hby at_45) k) ?_
      refine own_pre (T' := T1) (f' := (mkF m 48 #[iv p1, iv p2, iv p3, iv (0 : Int32), rv w_BOTH, iv (0 : Int32), .unset, .unset] [])) (fun t k => XS.istore X1.here hx rfl (hb hby at_46) rfl (l' := #[iv p1, iv p2, iv p3, iv (0 : Int32), rv w_BOTH, iv (0 : Int32), .unset, .unset]) rfl k) ?_
      refine own_pre (T' := T1) (f' := (mkF m 49 #[iv p1, iv p2, iv p3, iv (0 : Int32), rv w_BOTH, iv (0 : Int32), .unset, .unset] [(.int p3)])) (fun t k => XS.iloadN X1.here hx rfl (hb hby at_48) rfl k) ?_
      by_cases hc3 : p3 < (0 : Int32)
      · refine own_pre (T' := T1) (f' := (mkF m 56 #[iv p1, iv p2, iv p3, iv (0 : Int32), rv w_BOTH, iv (0 : Int32), .unset, .unset] [])) (fun t k => XS.ifYes X1.here hx rfl (pc0 := 49) (pc' := 56) rfl (hb hby at_49) rfl ((if0 _ _).trans (tlt hc3).1) (by decide) (by decide) k) ?_
        refine own_pre (T' := T1) (f' := (mkF m 57 #[iv p1, iv p2, iv p3, iv (0 : Int32), rv w_BOTH, iv (0 : Int32), .unset, .unset] [(.int (0 : Int32))])) (fun t k => XS.iconst X1.here hx rfl (hb hby at_56) k) ?_
        refine own_pre (T' := T1) (f' := (mkF m 59 #[iv p1, iv p2, iv p3, iv (0 : Int32), rv w_BOTH, iv (0 : Int32), iv (0 : Int32), .unset] [])) (fun t k => XS.istore X1.here hx rfl (hb hby at_57) rfl (l' := #[iv p1, iv p2, iv p3, iv (0 : Int32), rv w_BOTH, iv (0 : Int32), iv (0 : Int32), .unset]) rfl k) ?_
        refine own_pre (T' := T1) (f' := (mkF m 60 #[iv p1, iv p2, iv p3, iv (0 : Int32), rv w_BOTH, iv (0 : Int32), iv (0 : Int32), .unset] [(.int (0 : Int32))])) (fun t k => XS.iloadN X1.here hx rfl (hb hby at_59) rfl k) ?_
        refine own_pre (T' := T1) (f' := (mkF m 61 #[iv p1, iv p2, iv p3, iv (0 : Int32), rv w_BOTH, iv (0 : Int32), iv (0 : Int32), .unset] [(.int (0 : Int32)), (.int (0 : Int32))])) (fun t k => XS.iconst X1.here hx rfl (hb hby at_60) k) ?_
        refine own_pre (T' := T1) (f' := (mkF m 62 #[iv p1, iv p2, iv p3, iv (0 : Int32), rv w_BOTH, iv (0 : Int32), iv (0 : Int32), .unset] [(.int (0 : Int32)), (.int (0 : Int32)), (.int (0 : Int32))])) (fun t k => XS.iconst X1.here hx rfl (hb hby at_61) k) ?_
        obtain ⟨T4, X4, e4, st4⟩ := own_pure (f := 0) (n := 0) (v := (some (.int (0 : Int32)))) (own_callS X1 hx hZ e1 (y := (⟨"com/example/witness/witness/pattern/CombinationGoesOnPinLaw", "rule", "(IZZ)Z"⟩ : MethodName)) hown (hw _ (List.mem_of_getElem? (i := 4) rfl)) (hw _ (List.mem_of_getElem? (i := 5) rfl)) (hw _ (List.mem_of_getElem? (i := 7) rfl)) (hw _ (List.mem_of_getElem? (i := 6) rfl)) (by decide) 0 [(.int (0 : Int32)), (.int (0 : Int32)), (.int (0 : Int32))] [] (own_b1_000 l Z a0 hw [] w_BOTH w_FIRST_ONLY w_EXACTLY_ONE h0 F0) (by decide) (by decide) (by decide) (by decide) (g := (mkF m 62 #[iv p1, iv p2, iv p3, iv (0 : Int32), rv w_BOTH, iv (0 : Int32), iv (0 : Int32), .unset] [(.int (0 : Int32)), (.int (0 : Int32)), (.int (0 : Int32))])) rfl (by rw [hml]; rfl) (lenOf pd_0 rfl) rfl (by show 2 * 0 + _ ≤ _; exact Nat.le_of_eq rfl) (hb hby at_62))
        refine own_pre (T' := T4) (f' := (mkF m 65 #[iv p1, iv p2, iv p3, iv (0 : Int32), rv w_BOTH, iv (0 : Int32), iv (0 : Int32), .unset] [(.int (0 : Int32))])) (fun t k => st4 t k) ?_
        refine own_pre (T' := T4) (f' := (mkF m 68 #[iv p1, iv p2, iv p3, iv (0 : Int32), rv w_BOTH, iv (0 : Int32), iv (0 : Int32), .unset] [])) (fun t k => XS.ifNo X4.here hx rfl (hb hby at_65) rfl ((if0 _ _).trans (teq (by decide : (0 : Int32) = (0 : Int32))).2) k) ?_
        refine own_pre (T' := T4) (f' := (mkF m 70 #[iv p1, iv p2, iv p3, iv (0 : Int32), rv w_BOTH, iv (0 : Int32), iv (0 : Int32), .unset] [(.int (0 : Int32))])) (fun t k => XS.iload X4.here hx rfl (hb hby at_68) rfl k) ?_
        refine own_pre (T' := T4) (f' := (mkF m 82 #[iv p1, iv p2, iv p3, iv (0 : Int32), rv w_BOTH, iv (0 : Int32), iv (0 : Int32), .unset] [])) (fun t k => XS.ifYes X4.here hx rfl (pc0 := 70) (pc' := 82) rfl (hb hby at_70) rfl ((if0 _ _).trans (teq (by decide : (0 : Int32) = (0 : Int32))).1) (by decide) (by decide) k) ?_
        refine own_pre (T' := T4) (f' := (mkF m 84 #[iv p1, iv p2, iv p3, iv (0 : Int32), rv w_BOTH, iv (0 : Int32), iv (0 : Int32), .unset] [(.int (0 : Int32))])) (fun t k => XS.iload X4.here hx rfl (hb hby at_82) rfl k) ?_
        refine own_pre (T' := T4) (f' := (mkF m 96 #[iv p1, iv p2, iv p3, iv (0 : Int32), rv w_BOTH, iv (0 : Int32), iv (0 : Int32), .unset] [])) (fun t k => XS.ifYes X4.here hx rfl (pc0 := 84) (pc' := 96) rfl (hb hby at_84) rfl ((if0 _ _).trans (teq (by decide : (0 : Int32) = (0 : Int32))).1) (by decide) (by decide) k) ?_
        refine own_pre (T' := T4) (f' := (mkF m 98 #[iv p1, iv p2, iv p3, iv (0 : Int32), rv w_BOTH, iv (0 : Int32), iv (0 : Int32), .unset] [(.int (0 : Int32))])) (fun t k => XS.iload X4.here hx rfl (hb hby at_96) rfl k) ?_
        refine own_pre (T' := T4) (f' := (mkF m 119 #[iv p1, iv p2, iv p3, iv (0 : Int32), rv w_BOTH, iv (0 : Int32), iv (0 : Int32), .unset] [])) (fun t k => XS.ifYes X4.here hx rfl (pc0 := 98) (pc' := 119) rfl (hb hby at_98) rfl ((if0 _ _).trans (teq (by decide : (0 : Int32) = (0 : Int32))).1) (by decide) (by decide) k) ?_
        refine own_pre (T' := T4) (f' := (mkF m 120 #[iv p1, iv p2, iv p3, iv (0 : Int32), rv w_BOTH, iv (0 : Int32), iv (0 : Int32), .unset] [(.int (0 : Int32))])) (fun t k => XS.iconst X4.here hx rfl (hb hby at_119) k) ?_
        refine own_pre (T' := T4) (f' := (mkF m 122 #[iv p1, iv p2, iv p3, iv (0 : Int32), rv w_BOTH, iv (0 : Int32), iv (0 : Int32), iv (0 : Int32)] [])) (fun t k => XS.istore X4.here hx rfl (hb hby at_120) rfl (l' := #[iv p1, iv p2, iv p3, iv (0 : Int32), rv w_BOTH, iv (0 : Int32), iv (0 : Int32), iv (0 : Int32)]) rfl k) ?_
        refine own_pre (T' := T4) (f' := (mkF m 124 #[iv p1, iv p2, iv p3, iv (0 : Int32), rv w_BOTH, iv (0 : Int32), iv (0 : Int32), iv (0 : Int32)] [(.ref w_BOTH)])) (fun t k => XS.aload X4.here hx rfl (hb hby at_122) rfl rfl k) ?_
        refine own_pre (T' := T4) (f' := (mkF m 125 #[iv p1, iv p2, iv p3, iv (0 : Int32), rv w_BOTH, iv (0 : Int32), iv (0 : Int32), iv (0 : Int32)] [(.int p2), (.ref w_BOTH)])) (fun t k => XS.iloadN X4.here hx rfl (hb hby at_124) rfl k) ?_
        refine own_pre (T' := T4) (f' := (mkF m 126 #[iv p1, iv p2, iv p3, iv (0 : Int32), rv w_BOTH, iv (0 : Int32), iv (0 : Int32), iv (0 : Int32)] [(.int p3), (.int p2), (.ref w_BOTH)])) (fun t k => XS.iloadN X4.here hx rfl (hb hby at_125) rfl k) ?_
        obtain ⟨T5, X5, e5, st5⟩ := own_pure (f := 0) (n := 0) (v := (some (.int (0 : Int32)))) (own_callV X4 hx hZ e4 (y := (⟨"com/example/witness/witness/pattern/Dfa$Combination", "goesOn", "(II)Z"⟩ : MethodName)) hown (hw _ (List.mem_of_getElem? (i := 8) rfl)) (hw _ (List.mem_of_getElem? (i := 9) rfl)) (hw _ (List.mem_of_getElem? (i := 11) rfl)) (hw _ (List.mem_of_getElem? (i := 10) rfl)) (hw _ (List.mem_of_getElem? (i := 12) rfl)) (hw _ (List.mem_of_getElem? (i := 2) rfl)) (by decide) 0 [(.int p2), (.int p3)] [] (own_b2_BOTH_11 l Z a0 hw [] w_BOTH w_FIRST_ONLY w_EXACTLY_ONE h0 F0 p2 p3 hc2 hc3) (by decide) (by decide) (by decide) (by decide) E_BOTH (g := (mkF m 126 #[iv p1, iv p2, iv p3, iv (0 : Int32), rv w_BOTH, iv (0 : Int32), iv (0 : Int32), iv (0 : Int32)] [(.int p3), (.int p2), (.ref w_BOTH)])) rfl (by rw [hml]; rfl) (lenOf pd_1 rfl) rfl (by show 2 * 0 + _ ≤ _; exact Nat.le_of_eq rfl) (hb hby at_126))
        refine own_pre (T' := T5) (f' := (mkF m 129 #[iv p1, iv p2, iv p3, iv (0 : Int32), rv w_BOTH, iv (0 : Int32), iv (0 : Int32), iv (0 : Int32)] [(.int (0 : Int32))])) (fun t k => st5 t k) ?_
        refine own_pre (T' := T5) (f' := (mkF m 131 #[iv p1, iv p2, iv p3, iv (0 : Int32), rv w_BOTH, iv (0 : Int32), iv (0 : Int32), iv (0 : Int32)] [(.int (0 : Int32)), (.int (0 : Int32))])) (fun t k => XS.iload X5.here hx rfl (hb hby at_129) rfl k) ?_
        refine own_pre (T' := T5) (f' := (mkF m 134 #[iv p1, iv p2, iv p3, iv (0 : Int32), rv w_BOTH, iv (0 : Int32), iv (0 : Int32), iv (0 : Int32)] [])) (fun t k => XS.icmpNo X5.here hx rfl (hb hby at_131) rfl (teq (by decide : (0 : Int32) = (0 : Int32))).2 k) ?_
        refine own_pre (T' := T5) (f' := (mkF m 135 #[iv p1, iv p2, iv p3, iv (0 : Int32), rv w_BOTH, iv (0 : Int32), iv (0 : Int32), iv (0 : Int32)] [(.int (1 : Int32))])) (fun t k => XS.iconst X5.here hx rfl (hb hby at_134) k) ?_
        refine own_pre (T' := T5) (f' := (mkF m 139 #[iv p1, iv p2, iv p3, iv (0 : Int32), rv w_BOTH, iv (0 : Int32), iv (0 : Int32), iv (0 : Int32)] [(.int (1 : Int32))])) (fun t k => XS.goto X5.here hx rfl (pc0 := 135) (pc' := 139) rfl (hb hby at_135) (by decide) (by decide) k) ?_
        exact own_retZ X5 hx hlk hret (hb hby at_139) rfl (⟨rfl, Fr.nil _⟩) (by decide) (by decide)
      · refine own_pre (T' := T1) (f' := (mkF m 52 #[iv p1, iv p2, iv p3, iv (0 : Int32), rv w_BOTH, iv (0 : Int32), .unset, .unset] [])) (fun t k => XS.ifNo X1.here hx rfl (hb hby at_49) rfl ((if0 _ _).trans (flt hc3).1) k) ?_
        refine own_pre (T' := T1) (f' := (mkF m 53 #[iv p1, iv p2, iv p3, iv (0 : Int32), rv w_BOTH, iv (0 : Int32), .unset, .unset] [(.int (1 : Int32))])) (fun t k => XS.iconst X1.here hx rfl (hb hby at_52) k) ?_
        refine own_pre (T' := T1) (f' := (mkF m 57 #[iv p1, iv p2, iv p3, iv (0 : Int32), rv w_BOTH, iv (0 : Int32), .unset, .unset] [(.int (1 : Int32))])) (fun t k => XS.goto X1.here hx rfl (pc0 := 53) (pc' := 57) rfl (hb hby at_53) (by decide) (by decide) k) ?_
        refine own_pre (T' := T1) (f' := (mkF m 59 #[iv p1, iv p2, iv p3, iv (0 : Int32), rv w_BOTH, iv (0 : Int32), iv (1 : Int32), .unset] [])) (fun t k => XS.istore X1.here hx rfl (hb hby at_57) rfl (l' := #[iv p1, iv p2, iv p3, iv (0 : Int32), rv w_BOTH, iv (0 : Int32), iv (1 : Int32), .unset]) rfl k) ?_
        refine own_pre (T' := T1) (f' := (mkF m 60 #[iv p1, iv p2, iv p3, iv (0 : Int32), rv w_BOTH, iv (0 : Int32), iv (1 : Int32), .unset] [(.int (0 : Int32))])) (fun t k => XS.iloadN X1.here hx rfl (hb hby at_59) rfl k) ?_
        refine own_pre (T' := T1) (f' := (mkF m 61 #[iv p1, iv p2, iv p3, iv (0 : Int32), rv w_BOTH, iv (0 : Int32), iv (1 : Int32), .unset] [(.int (0 : Int32)), (.int (0 : Int32))])) (fun t k => XS.iconst X1.here hx rfl (hb hby at_60) k) ?_
        refine own_pre (T' := T1) (f' := (mkF m 62 #[iv p1, iv p2, iv p3, iv (0 : Int32), rv w_BOTH, iv (0 : Int32), iv (1 : Int32), .unset] [(.int (0 : Int32)), (.int (0 : Int32)), (.int (0 : Int32))])) (fun t k => XS.iconst X1.here hx rfl (hb hby at_61) k) ?_
        obtain ⟨T6, X6, e6, st6⟩ := own_pure (f := 0) (n := 0) (v := (some (.int (0 : Int32)))) (own_callS X1 hx hZ e1 (y := (⟨"com/example/witness/witness/pattern/CombinationGoesOnPinLaw", "rule", "(IZZ)Z"⟩ : MethodName)) hown (hw _ (List.mem_of_getElem? (i := 4) rfl)) (hw _ (List.mem_of_getElem? (i := 5) rfl)) (hw _ (List.mem_of_getElem? (i := 7) rfl)) (hw _ (List.mem_of_getElem? (i := 6) rfl)) (by decide) 0 [(.int (0 : Int32)), (.int (0 : Int32)), (.int (0 : Int32))] [] (own_b1_000 l Z a0 hw [] w_BOTH w_FIRST_ONLY w_EXACTLY_ONE h0 F0) (by decide) (by decide) (by decide) (by decide) (g := (mkF m 62 #[iv p1, iv p2, iv p3, iv (0 : Int32), rv w_BOTH, iv (0 : Int32), iv (1 : Int32), .unset] [(.int (0 : Int32)), (.int (0 : Int32)), (.int (0 : Int32))])) rfl (by rw [hml]; rfl) (lenOf pd_0 rfl) rfl (by show 2 * 0 + _ ≤ _; exact Nat.le_of_eq rfl) (hb hby at_62))
        refine own_pre (T' := T6) (f' := (mkF m 65 #[iv p1, iv p2, iv p3, iv (0 : Int32), rv w_BOTH, iv (0 : Int32), iv (1 : Int32), .unset] [(.int (0 : Int32))])) (fun t k => st6 t k) ?_
        refine own_pre (T' := T6) (f' := (mkF m 68 #[iv p1, iv p2, iv p3, iv (0 : Int32), rv w_BOTH, iv (0 : Int32), iv (1 : Int32), .unset] [])) (fun t k => XS.ifNo X6.here hx rfl (hb hby at_65) rfl ((if0 _ _).trans (teq (by decide : (0 : Int32) = (0 : Int32))).2) k) ?_
        refine own_pre (T' := T6) (f' := (mkF m 70 #[iv p1, iv p2, iv p3, iv (0 : Int32), rv w_BOTH, iv (0 : Int32), iv (1 : Int32), .unset] [(.int (0 : Int32))])) (fun t k => XS.iload X6.here hx rfl (hb hby at_68) rfl k) ?_
        refine own_pre (T' := T6) (f' := (mkF m 82 #[iv p1, iv p2, iv p3, iv (0 : Int32), rv w_BOTH, iv (0 : Int32), iv (1 : Int32), .unset] [])) (fun t k => XS.ifYes X6.here hx rfl (pc0 := 70) (pc' := 82) rfl (hb hby at_70) rfl ((if0 _ _).trans (teq (by decide : (0 : Int32) = (0 : Int32))).1) (by decide) (by decide) k) ?_
        refine own_pre (T' := T6) (f' := (mkF m 84 #[iv p1, iv p2, iv p3, iv (0 : Int32), rv w_BOTH, iv (0 : Int32), iv (1 : Int32), .unset] [(.int (1 : Int32))])) (fun t k => XS.iload X6.here hx rfl (hb hby at_82) rfl k) ?_
        refine own_pre (T' := T6) (f' := (mkF m 87 #[iv p1, iv p2, iv p3, iv (0 : Int32), rv w_BOTH, iv (0 : Int32), iv (1 : Int32), .unset] [])) (fun t k => XS.ifNo X6.here hx rfl (hb hby at_84) rfl ((if0 _ _).trans (feq (by decide : ¬ ((1 : Int32) = (0 : Int32)))).1) k) ?_
        refine own_pre (T' := T6) (f' := (mkF m 88 #[iv p1, iv p2, iv p3, iv (0 : Int32), rv w_BOTH, iv (0 : Int32), iv (1 : Int32), .unset] [(.int (0 : Int32))])) (fun t k => XS.iloadN X6.here hx rfl (hb hby at_87) rfl k) ?_
        refine own_pre (T' := T6) (f' := (mkF m 89 #[iv p1, iv p2, iv p3, iv (0 : Int32), rv w_BOTH, iv (0 : Int32), iv (1 : Int32), .unset] [(.int (0 : Int32)), (.int (0 : Int32))])) (fun t k => XS.iconst X6.here hx rfl (hb hby at_88) k) ?_
        refine own_pre (T' := T6) (f' := (mkF m 90 #[iv p1, iv p2, iv p3, iv (0 : Int32), rv w_BOTH, iv (0 : Int32), iv (1 : Int32), .unset] [(.int (1 : Int32)), (.int (0 : Int32)), (.int (0 : Int32))])) (fun t k => XS.iconst X6.here hx rfl (hb hby at_89) k) ?_
        obtain ⟨T7, X7, e7, st7⟩ := own_pure (f := 0) (n := 0) (v := (some (.int (0 : Int32)))) (own_callS X6 hx hZ e6 (y := (⟨"com/example/witness/witness/pattern/CombinationGoesOnPinLaw", "rule", "(IZZ)Z"⟩ : MethodName)) hown (hw _ (List.mem_of_getElem? (i := 4) rfl)) (hw _ (List.mem_of_getElem? (i := 5) rfl)) (hw _ (List.mem_of_getElem? (i := 7) rfl)) (hw _ (List.mem_of_getElem? (i := 6) rfl)) (by decide) 0 [(.int (0 : Int32)), (.int (0 : Int32)), (.int (1 : Int32))] [] (own_b1_001 l Z a0 hw [] w_BOTH w_FIRST_ONLY w_EXACTLY_ONE h0 F0) (by decide) (by decide) (by decide) (by decide) (g := (mkF m 90 #[iv p1, iv p2, iv p3, iv (0 : Int32), rv w_BOTH, iv (0 : Int32), iv (1 : Int32), .unset] [(.int (1 : Int32)), (.int (0 : Int32)), (.int (0 : Int32))])) rfl (by rw [hml]; rfl) (lenOf pd_0 rfl) rfl (by show 2 * 0 + _ ≤ _; exact Nat.le_of_eq rfl) (hb hby at_90))
        refine own_pre (T' := T7) (f' := (mkF m 93 #[iv p1, iv p2, iv p3, iv (0 : Int32), rv w_BOTH, iv (0 : Int32), iv (1 : Int32), .unset] [(.int (0 : Int32))])) (fun t k => st7 t k) ?_
        refine own_pre (T' := T7) (f' := (mkF m 96 #[iv p1, iv p2, iv p3, iv (0 : Int32), rv w_BOTH, iv (0 : Int32), iv (1 : Int32), .unset] [])) (fun t k => XS.ifNo X7.here hx rfl (hb hby at_93) rfl ((if0 _ _).trans (teq (by decide : (0 : Int32) = (0 : Int32))).2) k) ?_
        refine own_pre (T' := T7) (f' := (mkF m 98 #[iv p1, iv p2, iv p3, iv (0 : Int32), rv w_BOTH, iv (0 : Int32), iv (1 : Int32), .unset] [(.int (0 : Int32))])) (fun t k => XS.iload X7.here hx rfl (hb hby at_96) rfl k) ?_
        refine own_pre (T' := T7) (f' := (mkF m 119 #[iv p1, iv p2, iv p3, iv (0 : Int32), rv w_BOTH, iv (0 : Int32), iv (1 : Int32), .unset] [])) (fun t k => XS.ifYes X7.here hx rfl (pc0 := 98) (pc' := 119) rfl (hb hby at_98) rfl ((if0 _ _).trans (teq (by decide : (0 : Int32) = (0 : Int32))).1) (by decide) (by decide) k) ?_
        refine own_pre (T' := T7) (f' := (mkF m 120 #[iv p1, iv p2, iv p3, iv (0 : Int32), rv w_BOTH, iv (0 : Int32), iv (1 : Int32), .unset] [(.int (0 : Int32))])) (fun t k => XS.iconst X7.here hx rfl (hb hby at_119) k) ?_
        refine own_pre (T' := T7) (f' := (mkF m 122 #[iv p1, iv p2, iv p3, iv (0 : Int32), rv w_BOTH, iv (0 : Int32), iv (1 : Int32), iv (0 : Int32)] [])) (fun t k => XS.istore X7.here hx rfl (hb hby at_120) rfl (l' := #[iv p1, iv p2, iv p3, iv (0 : Int32), rv w_BOTH, iv (0 : Int32), iv (1 : Int32), iv (0 : Int32)]) rfl k) ?_
        refine own_pre (T' := T7) (f' := (mkF m 124 #[iv p1, iv p2, iv p3, iv (0 : Int32), rv w_BOTH, iv (0 : Int32), iv (1 : Int32), iv (0 : Int32)] [(.ref w_BOTH)])) (fun t k => XS.aload X7.here hx rfl (hb hby at_122) rfl rfl k) ?_
        refine own_pre (T' := T7) (f' := (mkF m 125 #[iv p1, iv p2, iv p3, iv (0 : Int32), rv w_BOTH, iv (0 : Int32), iv (1 : Int32), iv (0 : Int32)] [(.int p2), (.ref w_BOTH)])) (fun t k => XS.iloadN X7.here hx rfl (hb hby at_124) rfl k) ?_
        refine own_pre (T' := T7) (f' := (mkF m 126 #[iv p1, iv p2, iv p3, iv (0 : Int32), rv w_BOTH, iv (0 : Int32), iv (1 : Int32), iv (0 : Int32)] [(.int p3), (.int p2), (.ref w_BOTH)])) (fun t k => XS.iloadN X7.here hx rfl (hb hby at_125) rfl k) ?_
        obtain ⟨T8, X8, e8, st8⟩ := own_pure (f := 0) (n := 0) (v := (some (.int (0 : Int32)))) (own_callV X7 hx hZ e7 (y := (⟨"com/example/witness/witness/pattern/Dfa$Combination", "goesOn", "(II)Z"⟩ : MethodName)) hown (hw _ (List.mem_of_getElem? (i := 8) rfl)) (hw _ (List.mem_of_getElem? (i := 9) rfl)) (hw _ (List.mem_of_getElem? (i := 11) rfl)) (hw _ (List.mem_of_getElem? (i := 10) rfl)) (hw _ (List.mem_of_getElem? (i := 12) rfl)) (hw _ (List.mem_of_getElem? (i := 2) rfl)) (by decide) 0 [(.int p2), (.int p3)] [] (own_b2_BOTH_10 l Z a0 hw [] w_BOTH w_FIRST_ONLY w_EXACTLY_ONE h0 F0 p2 p3 hc2 hc3) (by decide) (by decide) (by decide) (by decide) E_BOTH (g := (mkF m 126 #[iv p1, iv p2, iv p3, iv (0 : Int32), rv w_BOTH, iv (0 : Int32), iv (1 : Int32), iv (0 : Int32)] [(.int p3), (.int p2), (.ref w_BOTH)])) rfl (by rw [hml]; rfl) (lenOf pd_1 rfl) rfl (by show 2 * 0 + _ ≤ _; exact Nat.le_of_eq rfl) (hb hby at_126))
        refine own_pre (T' := T8) (f' := (mkF m 129 #[iv p1, iv p2, iv p3, iv (0 : Int32), rv w_BOTH, iv (0 : Int32), iv (1 : Int32), iv (0 : Int32)] [(.int (0 : Int32))])) (fun t k => st8 t k) ?_
        refine own_pre (T' := T8) (f' := (mkF m 131 #[iv p1, iv p2, iv p3, iv (0 : Int32), rv w_BOTH, iv (0 : Int32), iv (1 : Int32), iv (0 : Int32)] [(.int (0 : Int32)), (.int (0 : Int32))])) (fun t k => XS.iload X8.here hx rfl (hb hby at_129) rfl k) ?_
        refine own_pre (T' := T8) (f' := (mkF m 134 #[iv p1, iv p2, iv p3, iv (0 : Int32), rv w_BOTH, iv (0 : Int32), iv (1 : Int32), iv (0 : Int32)] [])) (fun t k => XS.icmpNo X8.here hx rfl (hb hby at_131) rfl (teq (by decide : (0 : Int32) = (0 : Int32))).2 k) ?_
        refine own_pre (T' := T8) (f' := (mkF m 135 #[iv p1, iv p2, iv p3, iv (0 : Int32), rv w_BOTH, iv (0 : Int32), iv (1 : Int32), iv (0 : Int32)] [(.int (1 : Int32))])) (fun t k => XS.iconst X8.here hx rfl (hb hby at_134) k) ?_
        refine own_pre (T' := T8) (f' := (mkF m 139 #[iv p1, iv p2, iv p3, iv (0 : Int32), rv w_BOTH, iv (0 : Int32), iv (1 : Int32), iv (0 : Int32)] [(.int (1 : Int32))])) (fun t k => XS.goto X8.here hx rfl (pc0 := 135) (pc' := 139) rfl (hb hby at_135) (by decide) (by decide) k) ?_
        exact own_retZ X8 hx hlk hret (hb hby at_139) rfl (⟨rfl, Fr.nil _⟩) (by decide) (by decide)
    · refine own_pre (T' := T1) (f' := (mkF m 41 #[iv p1, iv p2, iv p3, iv (0 : Int32), rv w_BOTH, .unset, .unset, .unset] [])) (fun t k => XS.ifNo X1.here hx rfl (hb hby at_38) rfl ((if0 _ _).trans (flt hc2).1) k) ?_
      refine own_pre (T' := T1) (f' := (mkF m 42 #[iv p1, iv p2, iv p3, iv (0 : Int32), rv w_BOTH, .unset, .unset, .unset] [(.int (1 : Int32))])) (fun t k => XS.iconst X1.here hx rfl (hb hby at_41) k) ?_
      refine own_pre (T' := T1) (f' := (mkF m 46 #[iv p1, iv p2, iv p3, iv (0 : Int32), rv w_BOTH, .unset, .unset, .unset] [(.int (1 : Int32))])) (fun t k => XS.goto X1.here hx rfl (pc0 := 42) (pc' := 46) rfl (hb hby at_42) (by decide) (by decide) k) ?_
      refine own_pre (T' := T1) (f' := (mkF m 48 #[iv p1, iv p2, iv p3, iv (0 : Int32), rv w_BOTH, iv (1 : Int32), .unset, .unset] [])) (fun t k => XS.istore X1.here hx rfl (hb hby at_46) rfl (l' := #[iv p1, iv p2, iv p3, iv (0 : Int32), rv w_BOTH, iv (1 : Int32), .unset, .unset]) rfl k) ?_
      refine own_pre (T' := T1) (f' := (mkF m 49 #[iv p1, iv p2, iv p3, iv (0 : Int32), rv w_BOTH, iv (1 : Int32), .unset, .unset] [(.int p3)])) (fun t k => XS.iloadN X1.here hx rfl (hb hby at_48) rfl k) ?_
      by_cases hc9 : p3 < (0 : Int32)
      · refine own_pre (T' := T1) (f' := (mkF m 56 #[iv p1, iv p2, iv p3, iv (0 : Int32), rv w_BOTH, iv (1 : Int32), .unset, .unset] [])) (fun t k => XS.ifYes X1.here hx rfl (pc0 := 49) (pc' := 56) rfl (hb hby at_49) rfl ((if0 _ _).trans (tlt hc9).1) (by decide) (by decide) k) ?_
        refine own_pre (T' := T1) (f' := (mkF m 57 #[iv p1, iv p2, iv p3, iv (0 : Int32), rv w_BOTH, iv (1 : Int32), .unset, .unset] [(.int (0 : Int32))])) (fun t k => XS.iconst X1.here hx rfl (hb hby at_56) k) ?_
        refine own_pre (T' := T1) (f' := (mkF m 59 #[iv p1, iv p2, iv p3, iv (0 : Int32), rv w_BOTH, iv (1 : Int32), iv (0 : Int32), .unset] [])) (fun t k => XS.istore X1.here hx rfl (hb hby at_57) rfl (l' := #[iv p1, iv p2, iv p3, iv (0 : Int32), rv w_BOTH, iv (1 : Int32), iv (0 : Int32), .unset]) rfl k) ?_
        refine own_pre (T' := T1) (f' := (mkF m 60 #[iv p1, iv p2, iv p3, iv (0 : Int32), rv w_BOTH, iv (1 : Int32), iv (0 : Int32), .unset] [(.int (0 : Int32))])) (fun t k => XS.iloadN X1.here hx rfl (hb hby at_59) rfl k) ?_
        refine own_pre (T' := T1) (f' := (mkF m 61 #[iv p1, iv p2, iv p3, iv (0 : Int32), rv w_BOTH, iv (1 : Int32), iv (0 : Int32), .unset] [(.int (0 : Int32)), (.int (0 : Int32))])) (fun t k => XS.iconst X1.here hx rfl (hb hby at_60) k) ?_
        refine own_pre (T' := T1) (f' := (mkF m 62 #[iv p1, iv p2, iv p3, iv (0 : Int32), rv w_BOTH, iv (1 : Int32), iv (0 : Int32), .unset] [(.int (0 : Int32)), (.int (0 : Int32)), (.int (0 : Int32))])) (fun t k => XS.iconst X1.here hx rfl (hb hby at_61) k) ?_
        obtain ⟨T10, X10, e10, st10⟩ := own_pure (f := 0) (n := 0) (v := (some (.int (0 : Int32)))) (own_callS X1 hx hZ e1 (y := (⟨"com/example/witness/witness/pattern/CombinationGoesOnPinLaw", "rule", "(IZZ)Z"⟩ : MethodName)) hown (hw _ (List.mem_of_getElem? (i := 4) rfl)) (hw _ (List.mem_of_getElem? (i := 5) rfl)) (hw _ (List.mem_of_getElem? (i := 7) rfl)) (hw _ (List.mem_of_getElem? (i := 6) rfl)) (by decide) 0 [(.int (0 : Int32)), (.int (0 : Int32)), (.int (0 : Int32))] [] (own_b1_000 l Z a0 hw [] w_BOTH w_FIRST_ONLY w_EXACTLY_ONE h0 F0) (by decide) (by decide) (by decide) (by decide) (g := (mkF m 62 #[iv p1, iv p2, iv p3, iv (0 : Int32), rv w_BOTH, iv (1 : Int32), iv (0 : Int32), .unset] [(.int (0 : Int32)), (.int (0 : Int32)), (.int (0 : Int32))])) rfl (by rw [hml]; rfl) (lenOf pd_0 rfl) rfl (by show 2 * 0 + _ ≤ _; exact Nat.le_of_eq rfl) (hb hby at_62))
        refine own_pre (T' := T10) (f' := (mkF m 65 #[iv p1, iv p2, iv p3, iv (0 : Int32), rv w_BOTH, iv (1 : Int32), iv (0 : Int32), .unset] [(.int (0 : Int32))])) (fun t k => st10 t k) ?_
        refine own_pre (T' := T10) (f' := (mkF m 68 #[iv p1, iv p2, iv p3, iv (0 : Int32), rv w_BOTH, iv (1 : Int32), iv (0 : Int32), .unset] [])) (fun t k => XS.ifNo X10.here hx rfl (hb hby at_65) rfl ((if0 _ _).trans (teq (by decide : (0 : Int32) = (0 : Int32))).2) k) ?_
        refine own_pre (T' := T10) (f' := (mkF m 70 #[iv p1, iv p2, iv p3, iv (0 : Int32), rv w_BOTH, iv (1 : Int32), iv (0 : Int32), .unset] [(.int (1 : Int32))])) (fun t k => XS.iload X10.here hx rfl (hb hby at_68) rfl k) ?_
        refine own_pre (T' := T10) (f' := (mkF m 73 #[iv p1, iv p2, iv p3, iv (0 : Int32), rv w_BOTH, iv (1 : Int32), iv (0 : Int32), .unset] [])) (fun t k => XS.ifNo X10.here hx rfl (hb hby at_70) rfl ((if0 _ _).trans (feq (by decide : ¬ ((1 : Int32) = (0 : Int32)))).1) k) ?_
        refine own_pre (T' := T10) (f' := (mkF m 74 #[iv p1, iv p2, iv p3, iv (0 : Int32), rv w_BOTH, iv (1 : Int32), iv (0 : Int32), .unset] [(.int (0 : Int32))])) (fun t k => XS.iloadN X10.here hx rfl (hb hby at_73) rfl k) ?_
        refine own_pre (T' := T10) (f' := (mkF m 75 #[iv p1, iv p2, iv p3, iv (0 : Int32), rv w_BOTH, iv (1 : Int32), iv (0 : Int32), .unset] [(.int (1 : Int32)), (.int (0 : Int32))])) (fun t k => XS.iconst X10.here hx rfl (hb hby at_74) k) ?_
        refine own_pre (T' := T10) (f' := (mkF m 76 #[iv p1, iv p2, iv p3, iv (0 : Int32), rv w_BOTH, iv (1 : Int32), iv (0 : Int32), .unset] [(.int (0 : Int32)), (.int (1 : Int32)), (.int (0 : Int32))])) (fun t k => XS.iconst X10.here hx rfl (hb hby at_75) k) ?_
        obtain ⟨T11, X11, e11, st11⟩ := own_pure (f := 0) (n := 0) (v := (some (.int (0 : Int32)))) (own_callS X10 hx hZ e10 (y := (⟨"com/example/witness/witness/pattern/CombinationGoesOnPinLaw", "rule", "(IZZ)Z"⟩ : MethodName)) hown (hw _ (List.mem_of_getElem? (i := 4) rfl)) (hw _ (List.mem_of_getElem? (i := 5) rfl)) (hw _ (List.mem_of_getElem? (i := 7) rfl)) (hw _ (List.mem_of_getElem? (i := 6) rfl)) (by decide) 0 [(.int (0 : Int32)), (.int (1 : Int32)), (.int (0 : Int32))] [] (own_b1_010 l Z a0 hw [] w_BOTH w_FIRST_ONLY w_EXACTLY_ONE h0 F0) (by decide) (by decide) (by decide) (by decide) (g := (mkF m 76 #[iv p1, iv p2, iv p3, iv (0 : Int32), rv w_BOTH, iv (1 : Int32), iv (0 : Int32), .unset] [(.int (0 : Int32)), (.int (1 : Int32)), (.int (0 : Int32))])) rfl (by rw [hml]; rfl) (lenOf pd_0 rfl) rfl (by show 2 * 0 + _ ≤ _; exact Nat.le_of_eq rfl) (hb hby at_76))
        refine own_pre (T' := T11) (f' := (mkF m 79 #[iv p1, iv p2, iv p3, iv (0 : Int32), rv w_BOTH, iv (1 : Int32), iv (0 : Int32), .unset] [(.int (0 : Int32))])) (fun t k => st11 t k) ?_
        refine own_pre (T' := T11) (f' := (mkF m 82 #[iv p1, iv p2, iv p3, iv (0 : Int32), rv w_BOTH, iv (1 : Int32), iv (0 : Int32), .unset] [])) (fun t k => XS.ifNo X11.here hx rfl (hb hby at_79) rfl ((if0 _ _).trans (teq (by decide : (0 : Int32) = (0 : Int32))).2) k) ?_
        refine own_pre (T' := T11) (f' := (mkF m 84 #[iv p1, iv p2, iv p3, iv (0 : Int32), rv w_BOTH, iv (1 : Int32), iv (0 : Int32), .unset] [(.int (0 : Int32))])) (fun t k => XS.iload X11.here hx rfl (hb hby at_82) rfl k) ?_
        refine own_pre (T' := T11) (f' := (mkF m 96 #[iv p1, iv p2, iv p3, iv (0 : Int32), rv w_BOTH, iv (1 : Int32), iv (0 : Int32), .unset] [])) (fun t k => XS.ifYes X11.here hx rfl (pc0 := 84) (pc' := 96) rfl (hb hby at_84) rfl ((if0 _ _).trans (teq (by decide : (0 : Int32) = (0 : Int32))).1) (by decide) (by decide) k) ?_
        refine own_pre (T' := T11) (f' := (mkF m 98 #[iv p1, iv p2, iv p3, iv (0 : Int32), rv w_BOTH, iv (1 : Int32), iv (0 : Int32), .unset] [(.int (1 : Int32))])) (fun t k => XS.iload X11.here hx rfl (hb hby at_96) rfl k) ?_
        refine own_pre (T' := T11) (f' := (mkF m 101 #[iv p1, iv p2, iv p3, iv (0 : Int32), rv w_BOTH, iv (1 : Int32), iv (0 : Int32), .unset] [])) (fun t k => XS.ifNo X11.here hx rfl (hb hby at_98) rfl ((if0 _ _).trans (feq (by decide : ¬ ((1 : Int32) = (0 : Int32)))).1) k) ?_
        refine own_pre (T' := T11) (f' := (mkF m 103 #[iv p1, iv p2, iv p3, iv (0 : Int32), rv w_BOTH, iv (1 : Int32), iv (0 : Int32), .unset] [(.int (0 : Int32))])) (fun t k => XS.iload X11.here hx rfl (hb hby at_101) rfl k) ?_
        refine own_pre (T' := T11) (f' := (mkF m 119 #[iv p1, iv p2, iv p3, iv (0 : Int32), rv w_BOTH, iv (1 : Int32), iv (0 : Int32), .unset] [])) (fun t k => XS.ifYes X11.here hx rfl (pc0 := 103) (pc' := 119) rfl (hb hby at_103) rfl ((if0 _ _).trans (teq (by decide : (0 : Int32) = (0 : Int32))).1) (by decide) (by decide) k) ?_
        refine own_pre (T' := T11) (f' := (mkF m 120 #[iv p1, iv p2, iv p3, iv (0 : Int32), rv w_BOTH, iv (1 : Int32), iv (0 : Int32), .unset] [(.int (0 : Int32))])) (fun t k => XS.iconst X11.here hx rfl (hb hby at_119) k) ?_
        refine own_pre (T' := T11) (f' := (mkF m 122 #[iv p1, iv p2, iv p3, iv (0 : Int32), rv w_BOTH, iv (1 : Int32), iv (0 : Int32), iv (0 : Int32)] [])) (fun t k => XS.istore X11.here hx rfl (hb hby at_120) rfl (l' := #[iv p1, iv p2, iv p3, iv (0 : Int32), rv w_BOTH, iv (1 : Int32), iv (0 : Int32), iv (0 : Int32)]) rfl k) ?_
        refine own_pre (T' := T11) (f' := (mkF m 124 #[iv p1, iv p2, iv p3, iv (0 : Int32), rv w_BOTH, iv (1 : Int32), iv (0 : Int32), iv (0 : Int32)] [(.ref w_BOTH)])) (fun t k => XS.aload X11.here hx rfl (hb hby at_122) rfl rfl k) ?_
        refine own_pre (T' := T11) (f' := (mkF m 125 #[iv p1, iv p2, iv p3, iv (0 : Int32), rv w_BOTH, iv (1 : Int32), iv (0 : Int32), iv (0 : Int32)] [(.int p2), (.ref w_BOTH)])) (fun t k => XS.iloadN X11.here hx rfl (hb hby at_124) rfl k) ?_
        refine own_pre (T' := T11) (f' := (mkF m 126 #[iv p1, iv p2, iv p3, iv (0 : Int32), rv w_BOTH, iv (1 : Int32), iv (0 : Int32), iv (0 : Int32)] [(.int p3), (.int p2), (.ref w_BOTH)])) (fun t k => XS.iloadN X11.here hx rfl (hb hby at_125) rfl k) ?_
        obtain ⟨T12, X12, e12, st12⟩ := own_pure (f := 0) (n := 0) (v := (some (.int (0 : Int32)))) (own_callV X11 hx hZ e11 (y := (⟨"com/example/witness/witness/pattern/Dfa$Combination", "goesOn", "(II)Z"⟩ : MethodName)) hown (hw _ (List.mem_of_getElem? (i := 8) rfl)) (hw _ (List.mem_of_getElem? (i := 9) rfl)) (hw _ (List.mem_of_getElem? (i := 11) rfl)) (hw _ (List.mem_of_getElem? (i := 10) rfl)) (hw _ (List.mem_of_getElem? (i := 12) rfl)) (hw _ (List.mem_of_getElem? (i := 2) rfl)) (by decide) 0 [(.int p2), (.int p3)] [] (own_b2_BOTH_01 l Z a0 hw [] w_BOTH w_FIRST_ONLY w_EXACTLY_ONE h0 F0 p2 p3 hc2 hc9) (by decide) (by decide) (by decide) (by decide) E_BOTH (g := (mkF m 126 #[iv p1, iv p2, iv p3, iv (0 : Int32), rv w_BOTH, iv (1 : Int32), iv (0 : Int32), iv (0 : Int32)] [(.int p3), (.int p2), (.ref w_BOTH)])) rfl (by rw [hml]; rfl) (lenOf pd_1 rfl) rfl (by show 2 * 0 + _ ≤ _; exact Nat.le_of_eq rfl) (hb hby at_126))
        refine own_pre (T' := T12) (f' := (mkF m 129 #[iv p1, iv p2, iv p3, iv (0 : Int32), rv w_BOTH, iv (1 : Int32), iv (0 : Int32), iv (0 : Int32)] [(.int (0 : Int32))])) (fun t k => st12 t k) ?_
        refine own_pre (T' := T12) (f' := (mkF m 131 #[iv p1, iv p2, iv p3, iv (0 : Int32), rv w_BOTH, iv (1 : Int32), iv (0 : Int32), iv (0 : Int32)] [(.int (0 : Int32)), (.int (0 : Int32))])) (fun t k => XS.iload X12.here hx rfl (hb hby at_129) rfl k) ?_
        refine own_pre (T' := T12) (f' := (mkF m 134 #[iv p1, iv p2, iv p3, iv (0 : Int32), rv w_BOTH, iv (1 : Int32), iv (0 : Int32), iv (0 : Int32)] [])) (fun t k => XS.icmpNo X12.here hx rfl (hb hby at_131) rfl (teq (by decide : (0 : Int32) = (0 : Int32))).2 k) ?_
        refine own_pre (T' := T12) (f' := (mkF m 135 #[iv p1, iv p2, iv p3, iv (0 : Int32), rv w_BOTH, iv (1 : Int32), iv (0 : Int32), iv (0 : Int32)] [(.int (1 : Int32))])) (fun t k => XS.iconst X12.here hx rfl (hb hby at_134) k) ?_
        refine own_pre (T' := T12) (f' := (mkF m 139 #[iv p1, iv p2, iv p3, iv (0 : Int32), rv w_BOTH, iv (1 : Int32), iv (0 : Int32), iv (0 : Int32)] [(.int (1 : Int32))])) (fun t k => XS.goto X12.here hx rfl (pc0 := 135) (pc' := 139) rfl (hb hby at_135) (by decide) (by decide) k) ?_
        exact own_retZ X12 hx hlk hret (hb hby at_139) rfl (⟨rfl, Fr.nil _⟩) (by decide) (by decide)
      · refine own_pre (T' := T1) (f' := (mkF m 52 #[iv p1, iv p2, iv p3, iv (0 : Int32), rv w_BOTH, iv (1 : Int32), .unset, .unset] [])) (fun t k => XS.ifNo X1.here hx rfl (hb hby at_49) rfl ((if0 _ _).trans (flt hc9).1) k) ?_
        refine own_pre (T' := T1) (f' := (mkF m 53 #[iv p1, iv p2, iv p3, iv (0 : Int32), rv w_BOTH, iv (1 : Int32), .unset, .unset] [(.int (1 : Int32))])) (fun t k => XS.iconst X1.here hx rfl (hb hby at_52) k) ?_
        refine own_pre (T' := T1) (f' := (mkF m 57 #[iv p1, iv p2, iv p3, iv (0 : Int32), rv w_BOTH, iv (1 : Int32), .unset, .unset] [(.int (1 : Int32))])) (fun t k => XS.goto X1.here hx rfl (pc0 := 53) (pc' := 57) rfl (hb hby at_53) (by decide) (by decide) k) ?_
        refine own_pre (T' := T1) (f' := (mkF m 59 #[iv p1, iv p2, iv p3, iv (0 : Int32), rv w_BOTH, iv (1 : Int32), iv (1 : Int32), .unset] [])) (fun t k => XS.istore X1.here hx rfl (hb hby at_57) rfl (l' := #[iv p1, iv p2, iv p3, iv (0 : Int32), rv w_BOTH, iv (1 : Int32), iv (1 : Int32), .unset]) rfl k) ?_
        refine own_pre (T' := T1) (f' := (mkF m 60 #[iv p1, iv p2, iv p3, iv (0 : Int32), rv w_BOTH, iv (1 : Int32), iv (1 : Int32), .unset] [(.int (0 : Int32))])) (fun t k => XS.iloadN X1.here hx rfl (hb hby at_59) rfl k) ?_
        refine own_pre (T' := T1) (f' := (mkF m 61 #[iv p1, iv p2, iv p3, iv (0 : Int32), rv w_BOTH, iv (1 : Int32), iv (1 : Int32), .unset] [(.int (0 : Int32)), (.int (0 : Int32))])) (fun t k => XS.iconst X1.here hx rfl (hb hby at_60) k) ?_
        refine own_pre (T' := T1) (f' := (mkF m 62 #[iv p1, iv p2, iv p3, iv (0 : Int32), rv w_BOTH, iv (1 : Int32), iv (1 : Int32), .unset] [(.int (0 : Int32)), (.int (0 : Int32)), (.int (0 : Int32))])) (fun t k => XS.iconst X1.here hx rfl (hb hby at_61) k) ?_
        obtain ⟨T13, X13, e13, st13⟩ := own_pure (f := 0) (n := 0) (v := (some (.int (0 : Int32)))) (own_callS X1 hx hZ e1 (y := (⟨"com/example/witness/witness/pattern/CombinationGoesOnPinLaw", "rule", "(IZZ)Z"⟩ : MethodName)) hown (hw _ (List.mem_of_getElem? (i := 4) rfl)) (hw _ (List.mem_of_getElem? (i := 5) rfl)) (hw _ (List.mem_of_getElem? (i := 7) rfl)) (hw _ (List.mem_of_getElem? (i := 6) rfl)) (by decide) 0 [(.int (0 : Int32)), (.int (0 : Int32)), (.int (0 : Int32))] [] (own_b1_000 l Z a0 hw [] w_BOTH w_FIRST_ONLY w_EXACTLY_ONE h0 F0) (by decide) (by decide) (by decide) (by decide) (g := (mkF m 62 #[iv p1, iv p2, iv p3, iv (0 : Int32), rv w_BOTH, iv (1 : Int32), iv (1 : Int32), .unset] [(.int (0 : Int32)), (.int (0 : Int32)), (.int (0 : Int32))])) rfl (by rw [hml]; rfl) (lenOf pd_0 rfl) rfl (by show 2 * 0 + _ ≤ _; exact Nat.le_of_eq rfl) (hb hby at_62))
        refine own_pre (T' := T13) (f' := (mkF m 65 #[iv p1, iv p2, iv p3, iv (0 : Int32), rv w_BOTH, iv (1 : Int32), iv (1 : Int32), .unset] [(.int (0 : Int32))])) (fun t k => st13 t k) ?_
        refine own_pre (T' := T13) (f' := (mkF m 68 #[iv p1, iv p2, iv p3, iv (0 : Int32), rv w_BOTH, iv (1 : Int32), iv (1 : Int32), .unset] [])) (fun t k => XS.ifNo X13.here hx rfl (hb hby at_65) rfl ((if0 _ _).trans (teq (by decide : (0 : Int32) = (0 : Int32))).2) k) ?_
        refine own_pre (T' := T13) (f' := (mkF m 70 #[iv p1, iv p2, iv p3, iv (0 : Int32), rv w_BOTH, iv (1 : Int32), iv (1 : Int32), .unset] [(.int (1 : Int32))])) (fun t k => XS.iload X13.here hx rfl (hb hby at_68) rfl k) ?_
        refine own_pre (T' := T13) (f' := (mkF m 73 #[iv p1, iv p2, iv p3, iv (0 : Int32), rv w_BOTH, iv (1 : Int32), iv (1 : Int32), .unset] [])) (fun t k => XS.ifNo X13.here hx rfl (hb hby at_70) rfl ((if0 _ _).trans (feq (by decide : ¬ ((1 : Int32) = (0 : Int32)))).1) k) ?_
        refine own_pre (T' := T13) (f' := (mkF m 74 #[iv p1, iv p2, iv p3, iv (0 : Int32), rv w_BOTH, iv (1 : Int32), iv (1 : Int32), .unset] [(.int (0 : Int32))])) (fun t k => XS.iloadN X13.here hx rfl (hb hby at_73) rfl k) ?_
        refine own_pre (T' := T13) (f' := (mkF m 75 #[iv p1, iv p2, iv p3, iv (0 : Int32), rv w_BOTH, iv (1 : Int32), iv (1 : Int32), .unset] [(.int (1 : Int32)), (.int (0 : Int32))])) (fun t k => XS.iconst X13.here hx rfl (hb hby at_74) k) ?_
        refine own_pre (T' := T13) (f' := (mkF m 76 #[iv p1, iv p2, iv p3, iv (0 : Int32), rv w_BOTH, iv (1 : Int32), iv (1 : Int32), .unset] [(.int (0 : Int32)), (.int (1 : Int32)), (.int (0 : Int32))])) (fun t k => XS.iconst X13.here hx rfl (hb hby at_75) k) ?_
        obtain ⟨T14, X14, e14, st14⟩ := own_pure (f := 0) (n := 0) (v := (some (.int (0 : Int32)))) (own_callS X13 hx hZ e13 (y := (⟨"com/example/witness/witness/pattern/CombinationGoesOnPinLaw", "rule", "(IZZ)Z"⟩ : MethodName)) hown (hw _ (List.mem_of_getElem? (i := 4) rfl)) (hw _ (List.mem_of_getElem? (i := 5) rfl)) (hw _ (List.mem_of_getElem? (i := 7) rfl)) (hw _ (List.mem_of_getElem? (i := 6) rfl)) (by decide) 0 [(.int (0 : Int32)), (.int (1 : Int32)), (.int (0 : Int32))] [] (own_b1_010 l Z a0 hw [] w_BOTH w_FIRST_ONLY w_EXACTLY_ONE h0 F0) (by decide) (by decide) (by decide) (by decide) (g := (mkF m 76 #[iv p1, iv p2, iv p3, iv (0 : Int32), rv w_BOTH, iv (1 : Int32), iv (1 : Int32), .unset] [(.int (0 : Int32)), (.int (1 : Int32)), (.int (0 : Int32))])) rfl (by rw [hml]; rfl) (lenOf pd_0 rfl) rfl (by show 2 * 0 + _ ≤ _; exact Nat.le_of_eq rfl) (hb hby at_76))
        refine own_pre (T' := T14) (f' := (mkF m 79 #[iv p1, iv p2, iv p3, iv (0 : Int32), rv w_BOTH, iv (1 : Int32), iv (1 : Int32), .unset] [(.int (0 : Int32))])) (fun t k => st14 t k) ?_
        refine own_pre (T' := T14) (f' := (mkF m 82 #[iv p1, iv p2, iv p3, iv (0 : Int32), rv w_BOTH, iv (1 : Int32), iv (1 : Int32), .unset] [])) (fun t k => XS.ifNo X14.here hx rfl (hb hby at_79) rfl ((if0 _ _).trans (teq (by decide : (0 : Int32) = (0 : Int32))).2) k) ?_
        refine own_pre (T' := T14) (f' := (mkF m 84 #[iv p1, iv p2, iv p3, iv (0 : Int32), rv w_BOTH, iv (1 : Int32), iv (1 : Int32), .unset] [(.int (1 : Int32))])) (fun t k => XS.iload X14.here hx rfl (hb hby at_82) rfl k) ?_
        refine own_pre (T' := T14) (f' := (mkF m 87 #[iv p1, iv p2, iv p3, iv (0 : Int32), rv w_BOTH, iv (1 : Int32), iv (1 : Int32), .unset] [])) (fun t k => XS.ifNo X14.here hx rfl (hb hby at_84) rfl ((if0 _ _).trans (feq (by decide : ¬ ((1 : Int32) = (0 : Int32)))).1) k) ?_
        refine own_pre (T' := T14) (f' := (mkF m 88 #[iv p1, iv p2, iv p3, iv (0 : Int32), rv w_BOTH, iv (1 : Int32), iv (1 : Int32), .unset] [(.int (0 : Int32))])) (fun t k => XS.iloadN X14.here hx rfl (hb hby at_87) rfl k) ?_
        refine own_pre (T' := T14) (f' := (mkF m 89 #[iv p1, iv p2, iv p3, iv (0 : Int32), rv w_BOTH, iv (1 : Int32), iv (1 : Int32), .unset] [(.int (0 : Int32)), (.int (0 : Int32))])) (fun t k => XS.iconst X14.here hx rfl (hb hby at_88) k) ?_
        refine own_pre (T' := T14) (f' := (mkF m 90 #[iv p1, iv p2, iv p3, iv (0 : Int32), rv w_BOTH, iv (1 : Int32), iv (1 : Int32), .unset] [(.int (1 : Int32)), (.int (0 : Int32)), (.int (0 : Int32))])) (fun t k => XS.iconst X14.here hx rfl (hb hby at_89) k) ?_
        obtain ⟨T15, X15, e15, st15⟩ := own_pure (f := 0) (n := 0) (v := (some (.int (0 : Int32)))) (own_callS X14 hx hZ e14 (y := (⟨"com/example/witness/witness/pattern/CombinationGoesOnPinLaw", "rule", "(IZZ)Z"⟩ : MethodName)) hown (hw _ (List.mem_of_getElem? (i := 4) rfl)) (hw _ (List.mem_of_getElem? (i := 5) rfl)) (hw _ (List.mem_of_getElem? (i := 7) rfl)) (hw _ (List.mem_of_getElem? (i := 6) rfl)) (by decide) 0 [(.int (0 : Int32)), (.int (0 : Int32)), (.int (1 : Int32))] [] (own_b1_001 l Z a0 hw [] w_BOTH w_FIRST_ONLY w_EXACTLY_ONE h0 F0) (by decide) (by decide) (by decide) (by decide) (g := (mkF m 90 #[iv p1, iv p2, iv p3, iv (0 : Int32), rv w_BOTH, iv (1 : Int32), iv (1 : Int32), .unset] [(.int (1 : Int32)), (.int (0 : Int32)), (.int (0 : Int32))])) rfl (by rw [hml]; rfl) (lenOf pd_0 rfl) rfl (by show 2 * 0 + _ ≤ _; exact Nat.le_of_eq rfl) (hb hby at_90))
        refine own_pre (T' := T15) (f' := (mkF m 93 #[iv p1, iv p2, iv p3, iv (0 : Int32), rv w_BOTH, iv (1 : Int32), iv (1 : Int32), .unset] [(.int (0 : Int32))])) (fun t k => st15 t k) ?_
        refine own_pre (T' := T15) (f' := (mkF m 96 #[iv p1, iv p2, iv p3, iv (0 : Int32), rv w_BOTH, iv (1 : Int32), iv (1 : Int32), .unset] [])) (fun t k => XS.ifNo X15.here hx rfl (hb hby at_93) rfl ((if0 _ _).trans (teq (by decide : (0 : Int32) = (0 : Int32))).2) k) ?_
        refine own_pre (T' := T15) (f' := (mkF m 98 #[iv p1, iv p2, iv p3, iv (0 : Int32), rv w_BOTH, iv (1 : Int32), iv (1 : Int32), .unset] [(.int (1 : Int32))])) (fun t k => XS.iload X15.here hx rfl (hb hby at_96) rfl k) ?_
        refine own_pre (T' := T15) (f' := (mkF m 101 #[iv p1, iv p2, iv p3, iv (0 : Int32), rv w_BOTH, iv (1 : Int32), iv (1 : Int32), .unset] [])) (fun t k => XS.ifNo X15.here hx rfl (hb hby at_98) rfl ((if0 _ _).trans (feq (by decide : ¬ ((1 : Int32) = (0 : Int32)))).1) k) ?_
        refine own_pre (T' := T15) (f' := (mkF m 103 #[iv p1, iv p2, iv p3, iv (0 : Int32), rv w_BOTH, iv (1 : Int32), iv (1 : Int32), .unset] [(.int (1 : Int32))])) (fun t k => XS.iload X15.here hx rfl (hb hby at_101) rfl k) ?_
        refine own_pre (T' := T15) (f' := (mkF m 106 #[iv p1, iv p2, iv p3, iv (0 : Int32), rv w_BOTH, iv (1 : Int32), iv (1 : Int32), .unset] [])) (fun t k => XS.ifNo X15.here hx rfl (hb hby at_103) rfl ((if0 _ _).trans (feq (by decide : ¬ ((1 : Int32) = (0 : Int32)))).1) k) ?_
        refine own_pre (T' := T15) (f' := (mkF m 107 #[iv p1, iv p2, iv p3, iv (0 : Int32), rv w_BOTH, iv (1 : Int32), iv (1 : Int32), .unset] [(.int (0 : Int32))])) (fun t k => XS.iloadN X15.here hx rfl (hb hby at_106) rfl k) ?_
        refine own_pre (T' := T15) (f' := (mkF m 108 #[iv p1, iv p2, iv p3, iv (0 : Int32), rv w_BOTH, iv (1 : Int32), iv (1 : Int32), .unset] [(.int (1 : Int32)), (.int (0 : Int32))])) (fun t k => XS.iconst X15.here hx rfl (hb hby at_107) k) ?_
        refine own_pre (T' := T15) (f' := (mkF m 109 #[iv p1, iv p2, iv p3, iv (0 : Int32), rv w_BOTH, iv (1 : Int32), iv (1 : Int32), .unset] [(.int (1 : Int32)), (.int (1 : Int32)), (.int (0 : Int32))])) (fun t k => XS.iconst X15.here hx rfl (hb hby at_108) k) ?_
        obtain ⟨T16, X16, e16, st16⟩ := own_pure (f := 0) (n := 0) (v := (some (.int (1 : Int32)))) (own_callS X15 hx hZ e15 (y := (⟨"com/example/witness/witness/pattern/CombinationGoesOnPinLaw", "rule", "(IZZ)Z"⟩ : MethodName)) hown (hw _ (List.mem_of_getElem? (i := 4) rfl)) (hw _ (List.mem_of_getElem? (i := 5) rfl)) (hw _ (List.mem_of_getElem? (i := 7) rfl)) (hw _ (List.mem_of_getElem? (i := 6) rfl)) (by decide) 0 [(.int (0 : Int32)), (.int (1 : Int32)), (.int (1 : Int32))] [] (own_b1_011 l Z a0 hw [] w_BOTH w_FIRST_ONLY w_EXACTLY_ONE h0 F0) (by decide) (by decide) (by decide) (by decide) (g := (mkF m 109 #[iv p1, iv p2, iv p3, iv (0 : Int32), rv w_BOTH, iv (1 : Int32), iv (1 : Int32), .unset] [(.int (1 : Int32)), (.int (1 : Int32)), (.int (0 : Int32))])) rfl (by rw [hml]; rfl) (lenOf pd_0 rfl) rfl (by show 2 * 0 + _ ≤ _; exact Nat.le_of_eq rfl) (hb hby at_109))
        refine own_pre (T' := T16) (f' := (mkF m 112 #[iv p1, iv p2, iv p3, iv (0 : Int32), rv w_BOTH, iv (1 : Int32), iv (1 : Int32), .unset] [(.int (1 : Int32))])) (fun t k => st16 t k) ?_
        refine own_pre (T' := T16) (f' := (mkF m 115 #[iv p1, iv p2, iv p3, iv (0 : Int32), rv w_BOTH, iv (1 : Int32), iv (1 : Int32), .unset] [])) (fun t k => XS.ifNo X16.here hx rfl (hb hby at_112) rfl ((if0 _ _).trans (feq (by decide : ¬ ((1 : Int32) = (0 : Int32)))).1) k) ?_
        refine own_pre (T' := T16) (f' := (mkF m 116 #[iv p1, iv p2, iv p3, iv (0 : Int32), rv w_BOTH, iv (1 : Int32), iv (1 : Int32), .unset] [(.int (1 : Int32))])) (fun t k => XS.iconst X16.here hx rfl (hb hby at_115) k) ?_
        refine own_pre (T' := T16) (f' := (mkF m 120 #[iv p1, iv p2, iv p3, iv (0 : Int32), rv w_BOTH, iv (1 : Int32), iv (1 : Int32), .unset] [(.int (1 : Int32))])) (fun t k => XS.goto X16.here hx rfl (pc0 := 116) (pc' := 120) rfl (hb hby at_116) (by decide) (by decide) k) ?_
        refine own_pre (T' := T16) (f' := (mkF m 122 #[iv p1, iv p2, iv p3, iv (0 : Int32), rv w_BOTH, iv (1 : Int32), iv (1 : Int32), iv (1 : Int32)] [])) (fun t k => XS.istore X16.here hx rfl (hb hby at_120) rfl (l' := #[iv p1, iv p2, iv p3, iv (0 : Int32), rv w_BOTH, iv (1 : Int32), iv (1 : Int32), iv (1 : Int32)]) rfl k) ?_
        refine own_pre (T' := T16) (f' := (mkF m 124 #[iv p1, iv p2, iv p3, iv (0 : Int32), rv w_BOTH, iv (1 : Int32), iv (1 : Int32), iv (1 : Int32)] [(.ref w_BOTH)])) (fun t k => XS.aload X16.here hx rfl (hb hby at_122) rfl rfl k) ?_
        refine own_pre (T' := T16) (f' := (mkF m 125 #[iv p1, iv p2, iv p3, iv (0 : Int32), rv w_BOTH, iv (1 : Int32), iv (1 : Int32), iv (1 : Int32)] [(.int p2), (.ref w_BOTH)])) (fun t k => XS.iloadN X16.here hx rfl (hb hby at_124) rfl k) ?_
        refine own_pre (T' := T16) (f' := (mkF m 126 #[iv p1, iv p2, iv p3, iv (0 : Int32), rv w_BOTH, iv (1 : Int32), iv (1 : Int32), iv (1 : Int32)] [(.int p3), (.int p2), (.ref w_BOTH)])) (fun t k => XS.iloadN X16.here hx rfl (hb hby at_125) rfl k) ?_
        obtain ⟨T17, X17, e17, st17⟩ := own_pure (f := 0) (n := 0) (v := (some (.int (1 : Int32)))) (own_callV X16 hx hZ e16 (y := (⟨"com/example/witness/witness/pattern/Dfa$Combination", "goesOn", "(II)Z"⟩ : MethodName)) hown (hw _ (List.mem_of_getElem? (i := 8) rfl)) (hw _ (List.mem_of_getElem? (i := 9) rfl)) (hw _ (List.mem_of_getElem? (i := 11) rfl)) (hw _ (List.mem_of_getElem? (i := 10) rfl)) (hw _ (List.mem_of_getElem? (i := 12) rfl)) (hw _ (List.mem_of_getElem? (i := 2) rfl)) (by decide) 0 [(.int p2), (.int p3)] [] (own_b2_BOTH_00 l Z a0 hw [] w_BOTH w_FIRST_ONLY w_EXACTLY_ONE h0 F0 p2 p3 hc2 hc9) (by decide) (by decide) (by decide) (by decide) E_BOTH (g := (mkF m 126 #[iv p1, iv p2, iv p3, iv (0 : Int32), rv w_BOTH, iv (1 : Int32), iv (1 : Int32), iv (1 : Int32)] [(.int p3), (.int p2), (.ref w_BOTH)])) rfl (by rw [hml]; rfl) (lenOf pd_1 rfl) rfl (by show 2 * 0 + _ ≤ _; exact Nat.le_of_eq rfl) (hb hby at_126))
        refine own_pre (T' := T17) (f' := (mkF m 129 #[iv p1, iv p2, iv p3, iv (0 : Int32), rv w_BOTH, iv (1 : Int32), iv (1 : Int32), iv (1 : Int32)] [(.int (1 : Int32))])) (fun t k => st17 t k) ?_
        refine own_pre (T' := T17) (f' := (mkF m 131 #[iv p1, iv p2, iv p3, iv (0 : Int32), rv w_BOTH, iv (1 : Int32), iv (1 : Int32), iv (1 : Int32)] [(.int (1 : Int32)), (.int (1 : Int32))])) (fun t k => XS.iload X17.here hx rfl (hb hby at_129) rfl k) ?_
        refine own_pre (T' := T17) (f' := (mkF m 134 #[iv p1, iv p2, iv p3, iv (0 : Int32), rv w_BOTH, iv (1 : Int32), iv (1 : Int32), iv (1 : Int32)] [])) (fun t k => XS.icmpNo X17.here hx rfl (hb hby at_131) rfl (teq (by decide : (1 : Int32) = (1 : Int32))).2 k) ?_
        refine own_pre (T' := T17) (f' := (mkF m 135 #[iv p1, iv p2, iv p3, iv (0 : Int32), rv w_BOTH, iv (1 : Int32), iv (1 : Int32), iv (1 : Int32)] [(.int (1 : Int32))])) (fun t k => XS.iconst X17.here hx rfl (hb hby at_134) k) ?_
        refine own_pre (T' := T17) (f' := (mkF m 139 #[iv p1, iv p2, iv p3, iv (0 : Int32), rv w_BOTH, iv (1 : Int32), iv (1 : Int32), iv (1 : Int32)] [(.int (1 : Int32))])) (fun t k => XS.goto X17.here hx rfl (pc0 := 135) (pc' := 139) rfl (hb hby at_135) (by decide) (by decide) k) ?_
        exact own_retZ X17 hx hlk hret (hb hby at_139) rfl (⟨rfl, Fr.nil _⟩) (by decide) (by decide)
  · rw [hj]
    refine own_pre (T' := s₁) (f' := (mkF m 7 #[iv p1, iv p2, iv p3, iv (1 : Int32), .unset, .unset, .unset, .unset] [])) (fun t k => XS.istoreN X0.here hx rfl (hb hby at_6) rfl (l' := #[iv p1, iv p2, iv p3, iv (1 : Int32), .unset, .unset, .unset, .unset]) rfl k) ?_
    refine own_pre (T' := s₁) (f' := (mkF m 8 #[iv p1, iv p2, iv p3, iv (1 : Int32), .unset, .unset, .unset, .unset] [(.int (1 : Int32))])) (fun t k => XS.iloadN X0.here hx rfl (hb hby at_7) rfl k) ?_
    refine own_pre (T' := s₁) (f' := (mkF m 19 #[iv p1, iv p2, iv p3, iv (1 : Int32), .unset, .unset, .unset, .unset] [])) (fun t k => XS.ifYes X0.here hx rfl (pc0 := 8) (pc' := 19) rfl (hb hby at_8) rfl ((if0 _ _).trans (feq (by decide : ¬ ((1 : Int32) = (0 : Int32)))).2) (by decide) (by decide) k) ?_
    refine own_pre (T' := s₁) (f' := (mkF m 20 #[iv p1, iv p2, iv p3, iv (1 : Int32), .unset, .unset, .unset, .unset] [(.int (1 : Int32))])) (fun t k => XS.iloadN X0.here hx rfl (hb hby at_19) rfl k) ?_
    refine own_pre (T' := s₁) (f' := (mkF m 21 #[iv p1, iv p2, iv p3, iv (1 : Int32), .unset, .unset, .unset, .unset] [(.int (1 : Int32)), (.int (1 : Int32))])) (fun t k => XS.iconst X0.here hx rfl (hb hby at_20) k) ?_
    refine own_pre (T' := s₁) (f' := (mkF m 24 #[iv p1, iv p2, iv p3, iv (1 : Int32), .unset, .unset, .unset, .unset] [])) (fun t k => XS.icmpNo X0.here hx rfl (hb hby at_21) rfl (teq (by decide : (1 : Int32) = (1 : Int32))).2 k) ?_
    obtain ⟨T18, X18, e18, st18⟩ := getS2 X0 hx hZ hown (host := "") (Or.inl (hw _ (List.mem_of_getElem? (i := 14) rfl))) Via.refl e0 S_FIRST_ONLY (g := (mkF m 24 #[iv p1, iv p2, iv p3, iv (1 : Int32), .unset, .unset, .unset, .unset] [])) rfl (hb hby at_24)
    refine own_pre (T' := T18) (f' := (mkF m 27 #[iv p1, iv p2, iv p3, iv (1 : Int32), .unset, .unset, .unset, .unset] [(.ref w_FIRST_ONLY)])) (fun t k => st18 t k) ?_
    refine own_pre (T' := T18) (f' := (mkF m 29 #[iv p1, iv p2, iv p3, iv (1 : Int32), rv w_FIRST_ONLY, .unset, .unset, .unset] [])) (fun t k => XS.astore X18.here hx rfl (hb hby at_27) rfl rfl (l' := #[iv p1, iv p2, iv p3, iv (1 : Int32), rv w_FIRST_ONLY, .unset, .unset, .unset]) rfl k) ?_
    refine own_pre (T' := T18) (f' := (mkF m 37 #[iv p1, iv p2, iv p3, iv (1 : Int32), rv w_FIRST_ONLY, .unset, .unset, .unset] [])) (fun t k => XS.goto X18.here hx rfl (pc0 := 29) (pc' := 37) rfl (hb hby at_29) (by decide) (by decide) k) ?_
    refine own_pre (T' := T18) (f' := (mkF m 38 #[iv p1, iv p2, iv p3, iv (1 : Int32), rv w_FIRST_ONLY, .unset, .unset, .unset] [(.int p2)])) (fun t k => XS.iloadN X18.here hx rfl (hb hby at_37) rfl k) ?_
    by_cases hc19 : p2 < (0 : Int32)
    · refine own_pre (T' := T18) (f' := (mkF m 45 #[iv p1, iv p2, iv p3, iv (1 : Int32), rv w_FIRST_ONLY, .unset, .unset, .unset] [])) (fun t k => XS.ifYes X18.here hx rfl (pc0 := 38) (pc' := 45) rfl (hb hby at_38) rfl ((if0 _ _).trans (tlt hc19).1) (by decide) (by decide) k) ?_
      refine own_pre (T' := T18) (f' := (mkF m 46 #[iv p1, iv p2, iv p3, iv (1 : Int32), rv w_FIRST_ONLY, .unset, .unset, .unset] [(.int (0 : Int32))])) (fun t k => XS.iconst X18.here hx rfl (hb hby at_45) k) ?_
      refine own_pre (T' := T18) (f' := (mkF m 48 #[iv p1, iv p2, iv p3, iv (1 : Int32), rv w_FIRST_ONLY, iv (0 : Int32), .unset, .unset] [])) (fun t k => XS.istore X18.here hx rfl (hb hby at_46) rfl (l' := #[iv p1, iv p2, iv p3, iv (1 : Int32), rv w_FIRST_ONLY, iv (0 : Int32), .unset, .unset]) rfl k) ?_
      refine own_pre (T' := T18) (f' := (mkF m 49 #[iv p1, iv p2, iv p3, iv (1 : Int32), rv w_FIRST_ONLY, iv (0 : Int32), .unset, .unset] [(.int p3)])) (fun t k => XS.iloadN X18.here hx rfl (hb hby at_48) rfl k) ?_
      by_cases hc20 : p3 < (0 : Int32)
      · refine own_pre (T' := T18) (f' := (mkF m 56 #[iv p1, iv p2, iv p3, iv (1 : Int32), rv w_FIRST_ONLY, iv (0 : Int32), .unset, .unset] [])) (fun t k => XS.ifYes X18.here hx rfl (pc0 := 49) (pc' := 56) rfl (hb hby at_49) rfl ((if0 _ _).trans (tlt hc20).1) (by decide) (by decide) k) ?_
        refine own_pre (T' := T18) (f' := (mkF m 57 #[iv p1, iv p2, iv p3, iv (1 : Int32), rv w_FIRST_ONLY, iv (0 : Int32), .unset, .unset] [(.int (0 : Int32))])) (fun t k => XS.iconst X18.here hx rfl (hb hby at_56) k) ?_
        refine own_pre (T' := T18) (f' := (mkF m 59 #[iv p1, iv p2, iv p3, iv (1 : Int32), rv w_FIRST_ONLY, iv (0 : Int32), iv (0 : Int32), .unset] [])) (fun t k => XS.istore X18.here hx rfl (hb hby at_57) rfl (l' := #[iv p1, iv p2, iv p3, iv (1 : Int32), rv w_FIRST_ONLY, iv (0 : Int32), iv (0 : Int32), .unset]) rfl k) ?_
        refine own_pre (T' := T18) (f' := (mkF m 60 #[iv p1, iv p2, iv p3, iv (1 : Int32), rv w_FIRST_ONLY, iv (0 : Int32), iv (0 : Int32), .unset] [(.int (1 : Int32))])) (fun t k => XS.iloadN X18.here hx rfl (hb hby at_59) rfl k) ?_
        refine own_pre (T' := T18) (f' := (mkF m 61 #[iv p1, iv p2, iv p3, iv (1 : Int32), rv w_FIRST_ONLY, iv (0 : Int32), iv (0 : Int32), .unset] [(.int (0 : Int32)), (.int (1 : Int32))])) (fun t k => XS.iconst X18.here hx rfl (hb hby at_60) k) ?_
        refine own_pre (T' := T18) (f' := (mkF m 62 #[iv p1, iv p2, iv p3, iv (1 : Int32), rv w_FIRST_ONLY, iv (0 : Int32), iv (0 : Int32), .unset] [(.int (0 : Int32)), (.int (0 : Int32)), (.int (1 : Int32))])) (fun t k => XS.iconst X18.here hx rfl (hb hby at_61) k) ?_
        obtain ⟨T21, X21, e21, st21⟩ := own_pure (f := 0) (n := 0) (v := (some (.int (0 : Int32)))) (own_callS X18 hx hZ e18 (y := (⟨"com/example/witness/witness/pattern/CombinationGoesOnPinLaw", "rule", "(IZZ)Z"⟩ : MethodName)) hown (hw _ (List.mem_of_getElem? (i := 4) rfl)) (hw _ (List.mem_of_getElem? (i := 5) rfl)) (hw _ (List.mem_of_getElem? (i := 7) rfl)) (hw _ (List.mem_of_getElem? (i := 6) rfl)) (by decide) 0 [(.int (1 : Int32)), (.int (0 : Int32)), (.int (0 : Int32))] [] (own_b1_100 l Z a0 hw [] w_BOTH w_FIRST_ONLY w_EXACTLY_ONE h0 F0) (by decide) (by decide) (by decide) (by decide) (g := (mkF m 62 #[iv p1, iv p2, iv p3, iv (1 : Int32), rv w_FIRST_ONLY, iv (0 : Int32), iv (0 : Int32), .unset] [(.int (0 : Int32)), (.int (0 : Int32)), (.int (1 : Int32))])) rfl (by rw [hml]; rfl) (lenOf pd_0 rfl) rfl (by show 2 * 0 + _ ≤ _; exact Nat.le_of_eq rfl) (hb hby at_62))
        refine own_pre (T' := T21) (f' := (mkF m 65 #[iv p1, iv p2, iv p3, iv (1 : Int32), rv w_FIRST_ONLY, iv (0 : Int32), iv (0 : Int32), .unset] [(.int (0 : Int32))])) (fun t k => st21 t k) ?_
        refine own_pre (T' := T21) (f' := (mkF m 68 #[iv p1, iv p2, iv p3, iv (1 : Int32), rv w_FIRST_ONLY, iv (0 : Int32), iv (0 : Int32), .unset] [])) (fun t k => XS.ifNo X21.here hx rfl (hb hby at_65) rfl ((if0 _ _).trans (teq (by decide : (0 : Int32) = (0 : Int32))).2) k) ?_
        refine own_pre (T' := T21) (f' := (mkF m 70 #[iv p1, iv p2, iv p3, iv (1 : Int32), rv w_FIRST_ONLY, iv (0 : Int32), iv (0 : Int32), .unset] [(.int (0 : Int32))])) (fun t k => XS.iload X21.here hx rfl (hb hby at_68) rfl k) ?_
        refine own_pre (T' := T21) (f' := (mkF m 82 #[iv p1, iv p2, iv p3, iv (1 : Int32), rv w_FIRST_ONLY, iv (0 : Int32), iv (0 : Int32), .unset] [])) (fun t k => XS.ifYes X21.here hx rfl (pc0 := 70) (pc' := 82) rfl (hb hby at_70) rfl ((if0 _ _).trans (teq (by decide : (0 : Int32) = (0 : Int32))).1) (by decide) (by decide) k) ?_
        refine own_pre (T' := T21) (f' := (mkF m 84 #[iv p1, iv p2, iv p3, iv (1 : Int32), rv w_FIRST_ONLY, iv (0 : Int32), iv (0 : Int32), .unset] [(.int (0 : Int32))])) (fun t k => XS.iload X21.here hx rfl (hb hby at_82) rfl k) ?_
        refine own_pre (T' := T21) (f' := (mkF m 96 #[iv p1, iv p2, iv p3, iv (1 : Int32), rv w_FIRST_ONLY, iv (0 : Int32), iv (0 : Int32), .unset] [])) (fun t k => XS.ifYes X21.here hx rfl (pc0 := 84) (pc' := 96) rfl (hb hby at_84) rfl ((if0 _ _).trans (teq (by decide : (0 : Int32) = (0 : Int32))).1) (by decide) (by decide) k) ?_
        refine own_pre (T' := T21) (f' := (mkF m 98 #[iv p1, iv p2, iv p3, iv (1 : Int32), rv w_FIRST_ONLY, iv (0 : Int32), iv (0 : Int32), .unset] [(.int (0 : Int32))])) (fun t k => XS.iload X21.here hx rfl (hb hby at_96) rfl k) ?_
        refine own_pre (T' := T21) (f' := (mkF m 119 #[iv p1, iv p2, iv p3, iv (1 : Int32), rv w_FIRST_ONLY, iv (0 : Int32), iv (0 : Int32), .unset] [])) (fun t k => XS.ifYes X21.here hx rfl (pc0 := 98) (pc' := 119) rfl (hb hby at_98) rfl ((if0 _ _).trans (teq (by decide : (0 : Int32) = (0 : Int32))).1) (by decide) (by decide) k) ?_
        refine own_pre (T' := T21) (f' := (mkF m 120 #[iv p1, iv p2, iv p3, iv (1 : Int32), rv w_FIRST_ONLY, iv (0 : Int32), iv (0 : Int32), .unset] [(.int (0 : Int32))])) (fun t k => XS.iconst X21.here hx rfl (hb hby at_119) k) ?_
        refine own_pre (T' := T21) (f' := (mkF m 122 #[iv p1, iv p2, iv p3, iv (1 : Int32), rv w_FIRST_ONLY, iv (0 : Int32), iv (0 : Int32), iv (0 : Int32)] [])) (fun t k => XS.istore X21.here hx rfl (hb hby at_120) rfl (l' := #[iv p1, iv p2, iv p3, iv (1 : Int32), rv w_FIRST_ONLY, iv (0 : Int32), iv (0 : Int32), iv (0 : Int32)]) rfl k) ?_
        refine own_pre (T' := T21) (f' := (mkF m 124 #[iv p1, iv p2, iv p3, iv (1 : Int32), rv w_FIRST_ONLY, iv (0 : Int32), iv (0 : Int32), iv (0 : Int32)] [(.ref w_FIRST_ONLY)])) (fun t k => XS.aload X21.here hx rfl (hb hby at_122) rfl rfl k) ?_
        refine own_pre (T' := T21) (f' := (mkF m 125 #[iv p1, iv p2, iv p3, iv (1 : Int32), rv w_FIRST_ONLY, iv (0 : Int32), iv (0 : Int32), iv (0 : Int32)] [(.int p2), (.ref w_FIRST_ONLY)])) (fun t k => XS.iloadN X21.here hx rfl (hb hby at_124) rfl k) ?_
        refine own_pre (T' := T21) (f' := (mkF m 126 #[iv p1, iv p2, iv p3, iv (1 : Int32), rv w_FIRST_ONLY, iv (0 : Int32), iv (0 : Int32), iv (0 : Int32)] [(.int p3), (.int p2), (.ref w_FIRST_ONLY)])) (fun t k => XS.iloadN X21.here hx rfl (hb hby at_125) rfl k) ?_
        obtain ⟨T22, X22, e22, st22⟩ := own_pure (f := 0) (n := 0) (v := (some (.int (0 : Int32)))) (own_callV X21 hx hZ e21 (y := (⟨"com/example/witness/witness/pattern/Dfa$Combination", "goesOn", "(II)Z"⟩ : MethodName)) hown (hw _ (List.mem_of_getElem? (i := 8) rfl)) (hw _ (List.mem_of_getElem? (i := 9) rfl)) (hw _ (List.mem_of_getElem? (i := 11) rfl)) (hw _ (List.mem_of_getElem? (i := 10) rfl)) (hw _ (List.mem_of_getElem? (i := 12) rfl)) (hw _ (List.mem_of_getElem? (i := 2) rfl)) (by decide) 0 [(.int p2), (.int p3)] [] (own_b2_FIRST_ONLY_11 l Z a0 hw [] w_BOTH w_FIRST_ONLY w_EXACTLY_ONE h0 F0 p2 p3 hc19 hc20) (by decide) (by decide) (by decide) (by decide) E_FIRST_ONLY (g := (mkF m 126 #[iv p1, iv p2, iv p3, iv (1 : Int32), rv w_FIRST_ONLY, iv (0 : Int32), iv (0 : Int32), iv (0 : Int32)] [(.int p3), (.int p2), (.ref w_FIRST_ONLY)])) rfl (by rw [hml]; rfl) (lenOf pd_1 rfl) rfl (by show 2 * 0 + _ ≤ _; exact Nat.le_of_eq rfl) (hb hby at_126))
        refine own_pre (T' := T22) (f' := (mkF m 129 #[iv p1, iv p2, iv p3, iv (1 : Int32), rv w_FIRST_ONLY, iv (0 : Int32), iv (0 : Int32), iv (0 : Int32)] [(.int (0 : Int32))])) (fun t k => st22 t k) ?_
        refine own_pre (T' := T22) (f' := (mkF m 131 #[iv p1, iv p2, iv p3, iv (1 : Int32), rv w_FIRST_ONLY, iv (0 : Int32), iv (0 : Int32), iv (0 : Int32)] [(.int (0 : Int32)), (.int (0 : Int32))])) (fun t k => XS.iload X22.here hx rfl (hb hby at_129) rfl k) ?_
        refine own_pre (T' := T22) (f' := (mkF m 134 #[iv p1, iv p2, iv p3, iv (1 : Int32), rv w_FIRST_ONLY, iv (0 : Int32), iv (0 : Int32), iv (0 : Int32)] [])) (fun t k => XS.icmpNo X22.here hx rfl (hb hby at_131) rfl (teq (by decide : (0 : Int32) = (0 : Int32))).2 k) ?_
        refine own_pre (T' := T22) (f' := (mkF m 135 #[iv p1, iv p2, iv p3, iv (1 : Int32), rv w_FIRST_ONLY, iv (0 : Int32), iv (0 : Int32), iv (0 : Int32)] [(.int (1 : Int32))])) (fun t k => XS.iconst X22.here hx rfl (hb hby at_134) k) ?_
        refine own_pre (T' := T22) (f' := (mkF m 139 #[iv p1, iv p2, iv p3, iv (1 : Int32), rv w_FIRST_ONLY, iv (0 : Int32), iv (0 : Int32), iv (0 : Int32)] [(.int (1 : Int32))])) (fun t k => XS.goto X22.here hx rfl (pc0 := 135) (pc' := 139) rfl (hb hby at_135) (by decide) (by decide) k) ?_
        exact own_retZ X22 hx hlk hret (hb hby at_139) rfl (⟨rfl, Fr.nil _⟩) (by decide) (by decide)
      · refine own_pre (T' := T18) (f' := (mkF m 52 #[iv p1, iv p2, iv p3, iv (1 : Int32), rv w_FIRST_ONLY, iv (0 : Int32), .unset, .unset] [])) (fun t k => XS.ifNo X18.here hx rfl (hb hby at_49) rfl ((if0 _ _).trans (flt hc20).1) k) ?_
        refine own_pre (T' := T18) (f' := (mkF m 53 #[iv p1, iv p2, iv p3, iv (1 : Int32), rv w_FIRST_ONLY, iv (0 : Int32), .unset, .unset] [(.int (1 : Int32))])) (fun t k => XS.iconst X18.here hx rfl (hb hby at_52) k) ?_
        refine own_pre (T' := T18) (f' := (mkF m 57 #[iv p1, iv p2, iv p3, iv (1 : Int32), rv w_FIRST_ONLY, iv (0 : Int32), .unset, .unset] [(.int (1 : Int32))])) (fun t k => XS.goto X18.here hx rfl (pc0 := 53) (pc' := 57) rfl (hb hby at_53) (by decide) (by decide) k) ?_
        refine own_pre (T' := T18) (f' := (mkF m 59 #[iv p1, iv p2, iv p3, iv (1 : Int32), rv w_FIRST_ONLY, iv (0 : Int32), iv (1 : Int32), .unset] [])) (fun t k => XS.istore X18.here hx rfl (hb hby at_57) rfl (l' := #[iv p1, iv p2, iv p3, iv (1 : Int32), rv w_FIRST_ONLY, iv (0 : Int32), iv (1 : Int32), .unset]) rfl k) ?_
        refine own_pre (T' := T18) (f' := (mkF m 60 #[iv p1, iv p2, iv p3, iv (1 : Int32), rv w_FIRST_ONLY, iv (0 : Int32), iv (1 : Int32), .unset] [(.int (1 : Int32))])) (fun t k => XS.iloadN X18.here hx rfl (hb hby at_59) rfl k) ?_
        refine own_pre (T' := T18) (f' := (mkF m 61 #[iv p1, iv p2, iv p3, iv (1 : Int32), rv w_FIRST_ONLY, iv (0 : Int32), iv (1 : Int32), .unset] [(.int (0 : Int32)), (.int (1 : Int32))])) (fun t k => XS.iconst X18.here hx rfl (hb hby at_60) k) ?_
        refine own_pre (T' := T18) (f' := (mkF m 62 #[iv p1, iv p2, iv p3, iv (1 : Int32), rv w_FIRST_ONLY, iv (0 : Int32), iv (1 : Int32), .unset] [(.int (0 : Int32)), (.int (0 : Int32)), (.int (1 : Int32))])) (fun t k => XS.iconst X18.here hx rfl (hb hby at_61) k) ?_
        obtain ⟨T23, X23, e23, st23⟩ := own_pure (f := 0) (n := 0) (v := (some (.int (0 : Int32)))) (own_callS X18 hx hZ e18 (y := (⟨"com/example/witness/witness/pattern/CombinationGoesOnPinLaw", "rule", "(IZZ)Z"⟩ : MethodName)) hown (hw _ (List.mem_of_getElem? (i := 4) rfl)) (hw _ (List.mem_of_getElem? (i := 5) rfl)) (hw _ (List.mem_of_getElem? (i := 7) rfl)) (hw _ (List.mem_of_getElem? (i := 6) rfl)) (by decide) 0 [(.int (1 : Int32)), (.int (0 : Int32)), (.int (0 : Int32))] [] (own_b1_100 l Z a0 hw [] w_BOTH w_FIRST_ONLY w_EXACTLY_ONE h0 F0) (by decide) (by decide) (by decide) (by decide) (g := (mkF m 62 #[iv p1, iv p2, iv p3, iv (1 : Int32), rv w_FIRST_ONLY, iv (0 : Int32), iv (1 : Int32), .unset] [(.int (0 : Int32)), (.int (0 : Int32)), (.int (1 : Int32))])) rfl (by rw [hml]; rfl) (lenOf pd_0 rfl) rfl (by show 2 * 0 + _ ≤ _; exact Nat.le_of_eq rfl) (hb hby at_62))
        refine own_pre (T' := T23) (f' := (mkF m 65 #[iv p1, iv p2, iv p3, iv (1 : Int32), rv w_FIRST_ONLY, iv (0 : Int32), iv (1 : Int32), .unset] [(.int (0 : Int32))])) (fun t k => st23 t k) ?_
        refine own_pre (T' := T23) (f' := (mkF m 68 #[iv p1, iv p2, iv p3, iv (1 : Int32), rv w_FIRST_ONLY, iv (0 : Int32), iv (1 : Int32), .unset] [])) (fun t k => XS.ifNo X23.here hx rfl (hb hby at_65) rfl ((if0 _ _).trans (teq (by decide : (0 : Int32) = (0 : Int32))).2) k) ?_
        refine own_pre (T' := T23) (f' := (mkF m 70 #[iv p1, iv p2, iv p3, iv (1 : Int32), rv w_FIRST_ONLY, iv (0 : Int32), iv (1 : Int32), .unset] [(.int (0 : Int32))])) (fun t k => XS.iload X23.here hx rfl (hb hby at_68) rfl k) ?_
        refine own_pre (T' := T23) (f' := (mkF m 82 #[iv p1, iv p2, iv p3, iv (1 : Int32), rv w_FIRST_ONLY, iv (0 : Int32), iv (1 : Int32), .unset] [])) (fun t k => XS.ifYes X23.here hx rfl (pc0 := 70) (pc' := 82) rfl (hb hby at_70) rfl ((if0 _ _).trans (teq (by decide : (0 : Int32) = (0 : Int32))).1) (by decide) (by decide) k) ?_
        refine own_pre (T' := T23) (f' := (mkF m 84 #[iv p1, iv p2, iv p3, iv (1 : Int32), rv w_FIRST_ONLY, iv (0 : Int32), iv (1 : Int32), .unset] [(.int (1 : Int32))])) (fun t k => XS.iload X23.here hx rfl (hb hby at_82) rfl k) ?_
        refine own_pre (T' := T23) (f' := (mkF m 87 #[iv p1, iv p2, iv p3, iv (1 : Int32), rv w_FIRST_ONLY, iv (0 : Int32), iv (1 : Int32), .unset] [])) (fun t k => XS.ifNo X23.here hx rfl (hb hby at_84) rfl ((if0 _ _).trans (feq (by decide : ¬ ((1 : Int32) = (0 : Int32)))).1) k) ?_
        refine own_pre (T' := T23) (f' := (mkF m 88 #[iv p1, iv p2, iv p3, iv (1 : Int32), rv w_FIRST_ONLY, iv (0 : Int32), iv (1 : Int32), .unset] [(.int (1 : Int32))])) (fun t k => XS.iloadN X23.here hx rfl (hb hby at_87) rfl k) ?_
        refine own_pre (T' := T23) (f' := (mkF m 89 #[iv p1, iv p2, iv p3, iv (1 : Int32), rv w_FIRST_ONLY, iv (0 : Int32), iv (1 : Int32), .unset] [(.int (0 : Int32)), (.int (1 : Int32))])) (fun t k => XS.iconst X23.here hx rfl (hb hby at_88) k) ?_
        refine own_pre (T' := T23) (f' := (mkF m 90 #[iv p1, iv p2, iv p3, iv (1 : Int32), rv w_FIRST_ONLY, iv (0 : Int32), iv (1 : Int32), .unset] [(.int (1 : Int32)), (.int (0 : Int32)), (.int (1 : Int32))])) (fun t k => XS.iconst X23.here hx rfl (hb hby at_89) k) ?_
        obtain ⟨T24, X24, e24, st24⟩ := own_pure (f := 0) (n := 0) (v := (some (.int (0 : Int32)))) (own_callS X23 hx hZ e23 (y := (⟨"com/example/witness/witness/pattern/CombinationGoesOnPinLaw", "rule", "(IZZ)Z"⟩ : MethodName)) hown (hw _ (List.mem_of_getElem? (i := 4) rfl)) (hw _ (List.mem_of_getElem? (i := 5) rfl)) (hw _ (List.mem_of_getElem? (i := 7) rfl)) (hw _ (List.mem_of_getElem? (i := 6) rfl)) (by decide) 0 [(.int (1 : Int32)), (.int (0 : Int32)), (.int (1 : Int32))] [] (own_b1_101 l Z a0 hw [] w_BOTH w_FIRST_ONLY w_EXACTLY_ONE h0 F0) (by decide) (by decide) (by decide) (by decide) (g := (mkF m 90 #[iv p1, iv p2, iv p3, iv (1 : Int32), rv w_FIRST_ONLY, iv (0 : Int32), iv (1 : Int32), .unset] [(.int (1 : Int32)), (.int (0 : Int32)), (.int (1 : Int32))])) rfl (by rw [hml]; rfl) (lenOf pd_0 rfl) rfl (by show 2 * 0 + _ ≤ _; exact Nat.le_of_eq rfl) (hb hby at_90))
        refine own_pre (T' := T24) (f' := (mkF m 93 #[iv p1, iv p2, iv p3, iv (1 : Int32), rv w_FIRST_ONLY, iv (0 : Int32), iv (1 : Int32), .unset] [(.int (0 : Int32))])) (fun t k => st24 t k) ?_
        refine own_pre (T' := T24) (f' := (mkF m 96 #[iv p1, iv p2, iv p3, iv (1 : Int32), rv w_FIRST_ONLY, iv (0 : Int32), iv (1 : Int32), .unset] [])) (fun t k => XS.ifNo X24.here hx rfl (hb hby at_93) rfl ((if0 _ _).trans (teq (by decide : (0 : Int32) = (0 : Int32))).2) k) ?_
        refine own_pre (T' := T24) (f' := (mkF m 98 #[iv p1, iv p2, iv p3, iv (1 : Int32), rv w_FIRST_ONLY, iv (0 : Int32), iv (1 : Int32), .unset] [(.int (0 : Int32))])) (fun t k => XS.iload X24.here hx rfl (hb hby at_96) rfl k) ?_
        refine own_pre (T' := T24) (f' := (mkF m 119 #[iv p1, iv p2, iv p3, iv (1 : Int32), rv w_FIRST_ONLY, iv (0 : Int32), iv (1 : Int32), .unset] [])) (fun t k => XS.ifYes X24.here hx rfl (pc0 := 98) (pc' := 119) rfl (hb hby at_98) rfl ((if0 _ _).trans (teq (by decide : (0 : Int32) = (0 : Int32))).1) (by decide) (by decide) k) ?_
        refine own_pre (T' := T24) (f' := (mkF m 120 #[iv p1, iv p2, iv p3, iv (1 : Int32), rv w_FIRST_ONLY, iv (0 : Int32), iv (1 : Int32), .unset] [(.int (0 : Int32))])) (fun t k => XS.iconst X24.here hx rfl (hb hby at_119) k) ?_
        refine own_pre (T' := T24) (f' := (mkF m 122 #[iv p1, iv p2, iv p3, iv (1 : Int32), rv w_FIRST_ONLY, iv (0 : Int32), iv (1 : Int32), iv (0 : Int32)] [])) (fun t k => XS.istore X24.here hx rfl (hb hby at_120) rfl (l' := #[iv p1, iv p2, iv p3, iv (1 : Int32), rv w_FIRST_ONLY, iv (0 : Int32), iv (1 : Int32), iv (0 : Int32)]) rfl k) ?_
        refine own_pre (T' := T24) (f' := (mkF m 124 #[iv p1, iv p2, iv p3, iv (1 : Int32), rv w_FIRST_ONLY, iv (0 : Int32), iv (1 : Int32), iv (0 : Int32)] [(.ref w_FIRST_ONLY)])) (fun t k => XS.aload X24.here hx rfl (hb hby at_122) rfl rfl k) ?_
        refine own_pre (T' := T24) (f' := (mkF m 125 #[iv p1, iv p2, iv p3, iv (1 : Int32), rv w_FIRST_ONLY, iv (0 : Int32), iv (1 : Int32), iv (0 : Int32)] [(.int p2), (.ref w_FIRST_ONLY)])) (fun t k => XS.iloadN X24.here hx rfl (hb hby at_124) rfl k) ?_
        refine own_pre (T' := T24) (f' := (mkF m 126 #[iv p1, iv p2, iv p3, iv (1 : Int32), rv w_FIRST_ONLY, iv (0 : Int32), iv (1 : Int32), iv (0 : Int32)] [(.int p3), (.int p2), (.ref w_FIRST_ONLY)])) (fun t k => XS.iloadN X24.here hx rfl (hb hby at_125) rfl k) ?_
        obtain ⟨T25, X25, e25, st25⟩ := own_pure (f := 0) (n := 0) (v := (some (.int (0 : Int32)))) (own_callV X24 hx hZ e24 (y := (⟨"com/example/witness/witness/pattern/Dfa$Combination", "goesOn", "(II)Z"⟩ : MethodName)) hown (hw _ (List.mem_of_getElem? (i := 8) rfl)) (hw _ (List.mem_of_getElem? (i := 9) rfl)) (hw _ (List.mem_of_getElem? (i := 11) rfl)) (hw _ (List.mem_of_getElem? (i := 10) rfl)) (hw _ (List.mem_of_getElem? (i := 12) rfl)) (hw _ (List.mem_of_getElem? (i := 2) rfl)) (by decide) 0 [(.int p2), (.int p3)] [] (own_b2_FIRST_ONLY_10 l Z a0 hw [] w_BOTH w_FIRST_ONLY w_EXACTLY_ONE h0 F0 p2 p3 hc19 hc20) (by decide) (by decide) (by decide) (by decide) E_FIRST_ONLY (g := (mkF m 126 #[iv p1, iv p2, iv p3, iv (1 : Int32), rv w_FIRST_ONLY, iv (0 : Int32), iv (1 : Int32), iv (0 : Int32)] [(.int p3), (.int p2), (.ref w_FIRST_ONLY)])) rfl (by rw [hml]; rfl) (lenOf pd_1 rfl) rfl (by show 2 * 0 + _ ≤ _; exact Nat.le_of_eq rfl) (hb hby at_126))
        refine own_pre (T' := T25) (f' := (mkF m 129 #[iv p1, iv p2, iv p3, iv (1 : Int32), rv w_FIRST_ONLY, iv (0 : Int32), iv (1 : Int32), iv (0 : Int32)] [(.int (0 : Int32))])) (fun t k => st25 t k) ?_
        refine own_pre (T' := T25) (f' := (mkF m 131 #[iv p1, iv p2, iv p3, iv (1 : Int32), rv w_FIRST_ONLY, iv (0 : Int32), iv (1 : Int32), iv (0 : Int32)] [(.int (0 : Int32)), (.int (0 : Int32))])) (fun t k => XS.iload X25.here hx rfl (hb hby at_129) rfl k) ?_
        refine own_pre (T' := T25) (f' := (mkF m 134 #[iv p1, iv p2, iv p3, iv (1 : Int32), rv w_FIRST_ONLY, iv (0 : Int32), iv (1 : Int32), iv (0 : Int32)] [])) (fun t k => XS.icmpNo X25.here hx rfl (hb hby at_131) rfl (teq (by decide : (0 : Int32) = (0 : Int32))).2 k) ?_
        refine own_pre (T' := T25) (f' := (mkF m 135 #[iv p1, iv p2, iv p3, iv (1 : Int32), rv w_FIRST_ONLY, iv (0 : Int32), iv (1 : Int32), iv (0 : Int32)] [(.int (1 : Int32))])) (fun t k => XS.iconst X25.here hx rfl (hb hby at_134) k) ?_
        refine own_pre (T' := T25) (f' := (mkF m 139 #[iv p1, iv p2, iv p3, iv (1 : Int32), rv w_FIRST_ONLY, iv (0 : Int32), iv (1 : Int32), iv (0 : Int32)] [(.int (1 : Int32))])) (fun t k => XS.goto X25.here hx rfl (pc0 := 135) (pc' := 139) rfl (hb hby at_135) (by decide) (by decide) k) ?_
        exact own_retZ X25 hx hlk hret (hb hby at_139) rfl (⟨rfl, Fr.nil _⟩) (by decide) (by decide)
    · refine own_pre (T' := T18) (f' := (mkF m 41 #[iv p1, iv p2, iv p3, iv (1 : Int32), rv w_FIRST_ONLY, .unset, .unset, .unset] [])) (fun t k => XS.ifNo X18.here hx rfl (hb hby at_38) rfl ((if0 _ _).trans (flt hc19).1) k) ?_
      refine own_pre (T' := T18) (f' := (mkF m 42 #[iv p1, iv p2, iv p3, iv (1 : Int32), rv w_FIRST_ONLY, .unset, .unset, .unset] [(.int (1 : Int32))])) (fun t k => XS.iconst X18.here hx rfl (hb hby at_41) k) ?_
      refine own_pre (T' := T18) (f' := (mkF m 46 #[iv p1, iv p2, iv p3, iv (1 : Int32), rv w_FIRST_ONLY, .unset, .unset, .unset] [(.int (1 : Int32))])) (fun t k => XS.goto X18.here hx rfl (pc0 := 42) (pc' := 46) rfl (hb hby at_42) (by decide) (by decide) k) ?_
      refine own_pre (T' := T18) (f' := (mkF m 48 #[iv p1, iv p2, iv p3, iv (1 : Int32), rv w_FIRST_ONLY, iv (1 : Int32), .unset, .unset] [])) (fun t k => XS.istore X18.here hx rfl (hb hby at_46) rfl (l' := #[iv p1, iv p2, iv p3, iv (1 : Int32), rv w_FIRST_ONLY, iv (1 : Int32), .unset, .unset]) rfl k) ?_
      refine own_pre (T' := T18) (f' := (mkF m 49 #[iv p1, iv p2, iv p3, iv (1 : Int32), rv w_FIRST_ONLY, iv (1 : Int32), .unset, .unset] [(.int p3)])) (fun t k => XS.iloadN X18.here hx rfl (hb hby at_48) rfl k) ?_
      by_cases hc26 : p3 < (0 : Int32)
      · refine own_pre (T' := T18) (f' := (mkF m 56 #[iv p1, iv p2, iv p3, iv (1 : Int32), rv w_FIRST_ONLY, iv (1 : Int32), .unset, .unset] [])) (fun t k => XS.ifYes X18.here hx rfl (pc0 := 49) (pc' := 56) rfl (hb hby at_49) rfl ((if0 _ _).trans (tlt hc26).1) (by decide) (by decide) k) ?_
        refine own_pre (T' := T18) (f' := (mkF m 57 #[iv p1, iv p2, iv p3, iv (1 : Int32), rv w_FIRST_ONLY, iv (1 : Int32), .unset, .unset] [(.int (0 : Int32))])) (fun t k => XS.iconst X18.here hx rfl (hb hby at_56) k) ?_
        refine own_pre (T' := T18) (f' := (mkF m 59 #[iv p1, iv p2, iv p3, iv (1 : Int32), rv w_FIRST_ONLY, iv (1 : Int32), iv (0 : Int32), .unset] [])) (fun t k => XS.istore X18.here hx rfl (hb hby at_57) rfl (l' := #[iv p1, iv p2, iv p3, iv (1 : Int32), rv w_FIRST_ONLY, iv (1 : Int32), iv (0 : Int32), .unset]) rfl k) ?_
        refine own_pre (T' := T18) (f' := (mkF m 60 #[iv p1, iv p2, iv p3, iv (1 : Int32), rv w_FIRST_ONLY, iv (1 : Int32), iv (0 : Int32), .unset] [(.int (1 : Int32))])) (fun t k => XS.iloadN X18.here hx rfl (hb hby at_59) rfl k) ?_
        refine own_pre (T' := T18) (f' := (mkF m 61 #[iv p1, iv p2, iv p3, iv (1 : Int32), rv w_FIRST_ONLY, iv (1 : Int32), iv (0 : Int32), .unset] [(.int (0 : Int32)), (.int (1 : Int32))])) (fun t k => XS.iconst X18.here hx rfl (hb hby at_60) k) ?_
        refine own_pre (T' := T18) (f' := (mkF m 62 #[iv p1, iv p2, iv p3, iv (1 : Int32), rv w_FIRST_ONLY, iv (1 : Int32), iv (0 : Int32), .unset] [(.int (0 : Int32)), (.int (0 : Int32)), (.int (1 : Int32))])) (fun t k => XS.iconst X18.here hx rfl (hb hby at_61) k) ?_
        obtain ⟨T27, X27, e27, st27⟩ := own_pure (f := 0) (n := 0) (v := (some (.int (0 : Int32)))) (own_callS X18 hx hZ e18 (y := (⟨"com/example/witness/witness/pattern/CombinationGoesOnPinLaw", "rule", "(IZZ)Z"⟩ : MethodName)) hown (hw _ (List.mem_of_getElem? (i := 4) rfl)) (hw _ (List.mem_of_getElem? (i := 5) rfl)) (hw _ (List.mem_of_getElem? (i := 7) rfl)) (hw _ (List.mem_of_getElem? (i := 6) rfl)) (by decide) 0 [(.int (1 : Int32)), (.int (0 : Int32)), (.int (0 : Int32))] [] (own_b1_100 l Z a0 hw [] w_BOTH w_FIRST_ONLY w_EXACTLY_ONE h0 F0) (by decide) (by decide) (by decide) (by decide) (g := (mkF m 62 #[iv p1, iv p2, iv p3, iv (1 : Int32), rv w_FIRST_ONLY, iv (1 : Int32), iv (0 : Int32), .unset] [(.int (0 : Int32)), (.int (0 : Int32)), (.int (1 : Int32))])) rfl (by rw [hml]; rfl) (lenOf pd_0 rfl) rfl (by show 2 * 0 + _ ≤ _; exact Nat.le_of_eq rfl) (hb hby at_62))
        refine own_pre (T' := T27) (f' := (mkF m 65 #[iv p1, iv p2, iv p3, iv (1 : Int32), rv w_FIRST_ONLY, iv (1 : Int32), iv (0 : Int32), .unset] [(.int (0 : Int32))])) (fun t k => st27 t k) ?_
        refine own_pre (T' := T27) (f' := (mkF m 68 #[iv p1, iv p2, iv p3, iv (1 : Int32), rv w_FIRST_ONLY, iv (1 : Int32), iv (0 : Int32), .unset] [])) (fun t k => XS.ifNo X27.here hx rfl (hb hby at_65) rfl ((if0 _ _).trans (teq (by decide : (0 : Int32) = (0 : Int32))).2) k) ?_
        refine own_pre (T' := T27) (f' := (mkF m 70 #[iv p1, iv p2, iv p3, iv (1 : Int32), rv w_FIRST_ONLY, iv (1 : Int32), iv (0 : Int32), .unset] [(.int (1 : Int32))])) (fun t k => XS.iload X27.here hx rfl (hb hby at_68) rfl k) ?_
        refine own_pre (T' := T27) (f' := (mkF m 73 #[iv p1, iv p2, iv p3, iv (1 : Int32), rv w_FIRST_ONLY, iv (1 : Int32), iv (0 : Int32), .unset] [])) (fun t k => XS.ifNo X27.here hx rfl (hb hby at_70) rfl ((if0 _ _).trans (feq (by decide : ¬ ((1 : Int32) = (0 : Int32)))).1) k) ?_
        refine own_pre (T' := T27) (f' := (mkF m 74 #[iv p1, iv p2, iv p3, iv (1 : Int32), rv w_FIRST_ONLY, iv (1 : Int32), iv (0 : Int32), .unset] [(.int (1 : Int32))])) (fun t k => XS.iloadN X27.here hx rfl (hb hby at_73) rfl k) ?_
        refine own_pre (T' := T27) (f' := (mkF m 75 #[iv p1, iv p2, iv p3, iv (1 : Int32), rv w_FIRST_ONLY, iv (1 : Int32), iv (0 : Int32), .unset] [(.int (1 : Int32)), (.int (1 : Int32))])) (fun t k => XS.iconst X27.here hx rfl (hb hby at_74) k) ?_
        refine own_pre (T' := T27) (f' := (mkF m 76 #[iv p1, iv p2, iv p3, iv (1 : Int32), rv w_FIRST_ONLY, iv (1 : Int32), iv (0 : Int32), .unset] [(.int (0 : Int32)), (.int (1 : Int32)), (.int (1 : Int32))])) (fun t k => XS.iconst X27.here hx rfl (hb hby at_75) k) ?_
        obtain ⟨T28, X28, e28, st28⟩ := own_pure (f := 0) (n := 0) (v := (some (.int (1 : Int32)))) (own_callS X27 hx hZ e27 (y := (⟨"com/example/witness/witness/pattern/CombinationGoesOnPinLaw", "rule", "(IZZ)Z"⟩ : MethodName)) hown (hw _ (List.mem_of_getElem? (i := 4) rfl)) (hw _ (List.mem_of_getElem? (i := 5) rfl)) (hw _ (List.mem_of_getElem? (i := 7) rfl)) (hw _ (List.mem_of_getElem? (i := 6) rfl)) (by decide) 0 [(.int (1 : Int32)), (.int (1 : Int32)), (.int (0 : Int32))] [] (own_b1_110 l Z a0 hw [] w_BOTH w_FIRST_ONLY w_EXACTLY_ONE h0 F0) (by decide) (by decide) (by decide) (by decide) (g := (mkF m 76 #[iv p1, iv p2, iv p3, iv (1 : Int32), rv w_FIRST_ONLY, iv (1 : Int32), iv (0 : Int32), .unset] [(.int (0 : Int32)), (.int (1 : Int32)), (.int (1 : Int32))])) rfl (by rw [hml]; rfl) (lenOf pd_0 rfl) rfl (by show 2 * 0 + _ ≤ _; exact Nat.le_of_eq rfl) (hb hby at_76))
        refine own_pre (T' := T28) (f' := (mkF m 79 #[iv p1, iv p2, iv p3, iv (1 : Int32), rv w_FIRST_ONLY, iv (1 : Int32), iv (0 : Int32), .unset] [(.int (1 : Int32))])) (fun t k => st28 t k) ?_
        refine own_pre (T' := T28) (f' := (mkF m 115 #[iv p1, iv p2, iv p3, iv (1 : Int32), rv w_FIRST_ONLY, iv (1 : Int32), iv (0 : Int32), .unset] [])) (fun t k => XS.ifYes X28.here hx rfl (pc0 := 79) (pc' := 115) rfl (hb hby at_79) rfl ((if0 _ _).trans (feq (by decide : ¬ ((1 : Int32) = (0 : Int32)))).2) (by decide) (by decide) k) ?_
        refine own_pre (T' := T28) (f' := (mkF m 116 #[iv p1, iv p2, iv p3, iv (1 : Int32), rv w_FIRST_ONLY, iv (1 : Int32), iv (0 : Int32), .unset] [(.int (1 : Int32))])) (fun t k => XS.iconst X28.here hx rfl (hb hby at_115) k) ?_
        refine own_pre (T' := T28) (f' := (mkF m 120 #[iv p1, iv p2, iv p3, iv (1 : Int32), rv w_FIRST_ONLY, iv (1 : Int32), iv (0 : Int32), .unset] [(.int (1 : Int32))])) (fun t k => XS.goto X28.here hx rfl (pc0 := 116) (pc' := 120) rfl (hb hby at_116) (by decide) (by decide) k) ?_
        refine own_pre (T' := T28) (f' := (mkF m 122 #[iv p1, iv p2, iv p3, iv (1 : Int32), rv w_FIRST_ONLY, iv (1 : Int32), iv (0 : Int32), iv (1 : Int32)] [])) (fun t k => XS.istore X28.here hx rfl (hb hby at_120) rfl (l' := #[iv p1, iv p2, iv p3, iv (1 : Int32), rv w_FIRST_ONLY, iv (1 : Int32), iv (0 : Int32), iv (1 : Int32)]) rfl k) ?_
        refine own_pre (T' := T28) (f' := (mkF m 124 #[iv p1, iv p2, iv p3, iv (1 : Int32), rv w_FIRST_ONLY, iv (1 : Int32), iv (0 : Int32), iv (1 : Int32)] [(.ref w_FIRST_ONLY)])) (fun t k => XS.aload X28.here hx rfl (hb hby at_122) rfl rfl k) ?_
        refine own_pre (T' := T28) (f' := (mkF m 125 #[iv p1, iv p2, iv p3, iv (1 : Int32), rv w_FIRST_ONLY, iv (1 : Int32), iv (0 : Int32), iv (1 : Int32)] [(.int p2), (.ref w_FIRST_ONLY)])) (fun t k => XS.iloadN X28.here hx rfl (hb hby at_124) rfl k) ?_
        refine own_pre (T' := T28) (f' := (mkF m 126 #[iv p1, iv p2, iv p3, iv (1 : Int32), rv w_FIRST_ONLY, iv (1 : Int32), iv (0 : Int32), iv (1 : Int32)] [(.int p3), (.int p2), (.ref w_FIRST_ONLY)])) (fun t k => XS.iloadN X28.here hx rfl (hb hby at_125) rfl k) ?_
        obtain ⟨T29, X29, e29, st29⟩ := own_pure (f := 0) (n := 0) (v := (some (.int (1 : Int32)))) (own_callV X28 hx hZ e28 (y := (⟨"com/example/witness/witness/pattern/Dfa$Combination", "goesOn", "(II)Z"⟩ : MethodName)) hown (hw _ (List.mem_of_getElem? (i := 8) rfl)) (hw _ (List.mem_of_getElem? (i := 9) rfl)) (hw _ (List.mem_of_getElem? (i := 11) rfl)) (hw _ (List.mem_of_getElem? (i := 10) rfl)) (hw _ (List.mem_of_getElem? (i := 12) rfl)) (hw _ (List.mem_of_getElem? (i := 2) rfl)) (by decide) 0 [(.int p2), (.int p3)] [] (own_b2_FIRST_ONLY_01 l Z a0 hw [] w_BOTH w_FIRST_ONLY w_EXACTLY_ONE h0 F0 p2 p3 hc19 hc26) (by decide) (by decide) (by decide) (by decide) E_FIRST_ONLY (g := (mkF m 126 #[iv p1, iv p2, iv p3, iv (1 : Int32), rv w_FIRST_ONLY, iv (1 : Int32), iv (0 : Int32), iv (1 : Int32)] [(.int p3), (.int p2), (.ref w_FIRST_ONLY)])) rfl (by rw [hml]; rfl) (lenOf pd_1 rfl) rfl (by show 2 * 0 + _ ≤ _; exact Nat.le_of_eq rfl) (hb hby at_126))
        refine own_pre (T' := T29) (f' := (mkF m 129 #[iv p1, iv p2, iv p3, iv (1 : Int32), rv w_FIRST_ONLY, iv (1 : Int32), iv (0 : Int32), iv (1 : Int32)] [(.int (1 : Int32))])) (fun t k => st29 t k) ?_
        refine own_pre (T' := T29) (f' := (mkF m 131 #[iv p1, iv p2, iv p3, iv (1 : Int32), rv w_FIRST_ONLY, iv (1 : Int32), iv (0 : Int32), iv (1 : Int32)] [(.int (1 : Int32)), (.int (1 : Int32))])) (fun t k => XS.iload X29.here hx rfl (hb hby at_129) rfl k) ?_
        refine own_pre (T' := T29) (f' := (mkF m 134 #[iv p1, iv p2, iv p3, iv (1 : Int32), rv w_FIRST_ONLY, iv (1 : Int32), iv (0 : Int32), iv (1 : Int32)] [])) (fun t k => XS.icmpNo X29.here hx rfl (hb hby at_131) rfl (teq (by decide : (1 : Int32) = (1 : Int32))).2 k) ?_
        refine own_pre (T' := T29) (f' := (mkF m 135 #[iv p1, iv p2, iv p3, iv (1 : Int32), rv w_FIRST_ONLY, iv (1 : Int32), iv (0 : Int32), iv (1 : Int32)] [(.int (1 : Int32))])) (fun t k => XS.iconst X29.here hx rfl (hb hby at_134) k) ?_
        refine own_pre (T' := T29) (f' := (mkF m 139 #[iv p1, iv p2, iv p3, iv (1 : Int32), rv w_FIRST_ONLY, iv (1 : Int32), iv (0 : Int32), iv (1 : Int32)] [(.int (1 : Int32))])) (fun t k => XS.goto X29.here hx rfl (pc0 := 135) (pc' := 139) rfl (hb hby at_135) (by decide) (by decide) k) ?_
        exact own_retZ X29 hx hlk hret (hb hby at_139) rfl (⟨rfl, Fr.nil _⟩) (by decide) (by decide)
      · refine own_pre (T' := T18) (f' := (mkF m 52 #[iv p1, iv p2, iv p3, iv (1 : Int32), rv w_FIRST_ONLY, iv (1 : Int32), .unset, .unset] [])) (fun t k => XS.ifNo X18.here hx rfl (hb hby at_49) rfl ((if0 _ _).trans (flt hc26).1) k) ?_
        refine own_pre (T' := T18) (f' := (mkF m 53 #[iv p1, iv p2, iv p3, iv (1 : Int32), rv w_FIRST_ONLY, iv (1 : Int32), .unset, .unset] [(.int (1 : Int32))])) (fun t k => XS.iconst X18.here hx rfl (hb hby at_52) k) ?_
        refine own_pre (T' := T18) (f' := (mkF m 57 #[iv p1, iv p2, iv p3, iv (1 : Int32), rv w_FIRST_ONLY, iv (1 : Int32), .unset, .unset] [(.int (1 : Int32))])) (fun t k => XS.goto X18.here hx rfl (pc0 := 53) (pc' := 57) rfl (hb hby at_53) (by decide) (by decide) k) ?_
        refine own_pre (T' := T18) (f' := (mkF m 59 #[iv p1, iv p2, iv p3, iv (1 : Int32), rv w_FIRST_ONLY, iv (1 : Int32), iv (1 : Int32), .unset] [])) (fun t k => XS.istore X18.here hx rfl (hb hby at_57) rfl (l' := #[iv p1, iv p2, iv p3, iv (1 : Int32), rv w_FIRST_ONLY, iv (1 : Int32), iv (1 : Int32), .unset]) rfl k) ?_
        refine own_pre (T' := T18) (f' := (mkF m 60 #[iv p1, iv p2, iv p3, iv (1 : Int32), rv w_FIRST_ONLY, iv (1 : Int32), iv (1 : Int32), .unset] [(.int (1 : Int32))])) (fun t k => XS.iloadN X18.here hx rfl (hb hby at_59) rfl k) ?_
        refine own_pre (T' := T18) (f' := (mkF m 61 #[iv p1, iv p2, iv p3, iv (1 : Int32), rv w_FIRST_ONLY, iv (1 : Int32), iv (1 : Int32), .unset] [(.int (0 : Int32)), (.int (1 : Int32))])) (fun t k => XS.iconst X18.here hx rfl (hb hby at_60) k) ?_
        refine own_pre (T' := T18) (f' := (mkF m 62 #[iv p1, iv p2, iv p3, iv (1 : Int32), rv w_FIRST_ONLY, iv (1 : Int32), iv (1 : Int32), .unset] [(.int (0 : Int32)), (.int (0 : Int32)), (.int (1 : Int32))])) (fun t k => XS.iconst X18.here hx rfl (hb hby at_61) k) ?_
        obtain ⟨T30, X30, e30, st30⟩ := own_pure (f := 0) (n := 0) (v := (some (.int (0 : Int32)))) (own_callS X18 hx hZ e18 (y := (⟨"com/example/witness/witness/pattern/CombinationGoesOnPinLaw", "rule", "(IZZ)Z"⟩ : MethodName)) hown (hw _ (List.mem_of_getElem? (i := 4) rfl)) (hw _ (List.mem_of_getElem? (i := 5) rfl)) (hw _ (List.mem_of_getElem? (i := 7) rfl)) (hw _ (List.mem_of_getElem? (i := 6) rfl)) (by decide) 0 [(.int (1 : Int32)), (.int (0 : Int32)), (.int (0 : Int32))] [] (own_b1_100 l Z a0 hw [] w_BOTH w_FIRST_ONLY w_EXACTLY_ONE h0 F0) (by decide) (by decide) (by decide) (by decide) (g := (mkF m 62 #[iv p1, iv p2, iv p3, iv (1 : Int32), rv w_FIRST_ONLY, iv (1 : Int32), iv (1 : Int32), .unset] [(.int (0 : Int32)), (.int (0 : Int32)), (.int (1 : Int32))])) rfl (by rw [hml]; rfl) (lenOf pd_0 rfl) rfl (by show 2 * 0 + _ ≤ _; exact Nat.le_of_eq rfl) (hb hby at_62))
        refine own_pre (T' := T30) (f' := (mkF m 65 #[iv p1, iv p2, iv p3, iv (1 : Int32), rv w_FIRST_ONLY, iv (1 : Int32), iv (1 : Int32), .unset] [(.int (0 : Int32))])) (fun t k => st30 t k) ?_
        refine own_pre (T' := T30) (f' := (mkF m 68 #[iv p1, iv p2, iv p3, iv (1 : Int32), rv w_FIRST_ONLY, iv (1 : Int32), iv (1 : Int32), .unset] [])) (fun t k => XS.ifNo X30.here hx rfl (hb hby at_65) rfl ((if0 _ _).trans (teq (by decide : (0 : Int32) = (0 : Int32))).2) k) ?_
        refine own_pre (T' := T30) (f' := (mkF m 70 #[iv p1, iv p2, iv p3, iv (1 : Int32), rv w_FIRST_ONLY, iv (1 : Int32), iv (1 : Int32), .unset] [(.int (1 : Int32))])) (fun t k => XS.iload X30.here hx rfl (hb hby at_68) rfl k) ?_
        refine own_pre (T' := T30) (f' := (mkF m 73 #[iv p1, iv p2, iv p3, iv (1 : Int32), rv w_FIRST_ONLY, iv (1 : Int32), iv (1 : Int32), .unset] [])) (fun t k => XS.ifNo X30.here hx rfl (hb hby at_70) rfl ((if0 _ _).trans (feq (by decide : ¬ ((1 : Int32) = (0 : Int32)))).1) k) ?_
        refine own_pre (T' := T30) (f' := (mkF m 74 #[iv p1, iv p2, iv p3, iv (1 : Int32), rv w_FIRST_ONLY, iv (1 : Int32), iv (1 : Int32), .unset] [(.int (1 : Int32))])) (fun t k => XS.iloadN X30.here hx rfl (hb hby at_73) rfl k) ?_
        refine own_pre (T' := T30) (f' := (mkF m 75 #[iv p1, iv p2, iv p3, iv (1 : Int32), rv w_FIRST_ONLY, iv (1 : Int32), iv (1 : Int32), .unset] [(.int (1 : Int32)), (.int (1 : Int32))])) (fun t k => XS.iconst X30.here hx rfl (hb hby at_74) k) ?_
        refine own_pre (T' := T30) (f' := (mkF m 76 #[iv p1, iv p2, iv p3, iv (1 : Int32), rv w_FIRST_ONLY, iv (1 : Int32), iv (1 : Int32), .unset] [(.int (0 : Int32)), (.int (1 : Int32)), (.int (1 : Int32))])) (fun t k => XS.iconst X30.here hx rfl (hb hby at_75) k) ?_
        obtain ⟨T31, X31, e31, st31⟩ := own_pure (f := 0) (n := 0) (v := (some (.int (1 : Int32)))) (own_callS X30 hx hZ e30 (y := (⟨"com/example/witness/witness/pattern/CombinationGoesOnPinLaw", "rule", "(IZZ)Z"⟩ : MethodName)) hown (hw _ (List.mem_of_getElem? (i := 4) rfl)) (hw _ (List.mem_of_getElem? (i := 5) rfl)) (hw _ (List.mem_of_getElem? (i := 7) rfl)) (hw _ (List.mem_of_getElem? (i := 6) rfl)) (by decide) 0 [(.int (1 : Int32)), (.int (1 : Int32)), (.int (0 : Int32))] [] (own_b1_110 l Z a0 hw [] w_BOTH w_FIRST_ONLY w_EXACTLY_ONE h0 F0) (by decide) (by decide) (by decide) (by decide) (g := (mkF m 76 #[iv p1, iv p2, iv p3, iv (1 : Int32), rv w_FIRST_ONLY, iv (1 : Int32), iv (1 : Int32), .unset] [(.int (0 : Int32)), (.int (1 : Int32)), (.int (1 : Int32))])) rfl (by rw [hml]; rfl) (lenOf pd_0 rfl) rfl (by show 2 * 0 + _ ≤ _; exact Nat.le_of_eq rfl) (hb hby at_76))
        refine own_pre (T' := T31) (f' := (mkF m 79 #[iv p1, iv p2, iv p3, iv (1 : Int32), rv w_FIRST_ONLY, iv (1 : Int32), iv (1 : Int32), .unset] [(.int (1 : Int32))])) (fun t k => st31 t k) ?_
        refine own_pre (T' := T31) (f' := (mkF m 115 #[iv p1, iv p2, iv p3, iv (1 : Int32), rv w_FIRST_ONLY, iv (1 : Int32), iv (1 : Int32), .unset] [])) (fun t k => XS.ifYes X31.here hx rfl (pc0 := 79) (pc' := 115) rfl (hb hby at_79) rfl ((if0 _ _).trans (feq (by decide : ¬ ((1 : Int32) = (0 : Int32)))).2) (by decide) (by decide) k) ?_
        refine own_pre (T' := T31) (f' := (mkF m 116 #[iv p1, iv p2, iv p3, iv (1 : Int32), rv w_FIRST_ONLY, iv (1 : Int32), iv (1 : Int32), .unset] [(.int (1 : Int32))])) (fun t k => XS.iconst X31.here hx rfl (hb hby at_115) k) ?_
        refine own_pre (T' := T31) (f' := (mkF m 120 #[iv p1, iv p2, iv p3, iv (1 : Int32), rv w_FIRST_ONLY, iv (1 : Int32), iv (1 : Int32), .unset] [(.int (1 : Int32))])) (fun t k => XS.goto X31.here hx rfl (pc0 := 116) (pc' := 120) rfl (hb hby at_116) (by decide) (by decide) k) ?_
        refine own_pre (T' := T31) (f' := (mkF m 122 #[iv p1, iv p2, iv p3, iv (1 : Int32), rv w_FIRST_ONLY, iv (1 : Int32), iv (1 : Int32), iv (1 : Int32)] [])) (fun t k => XS.istore X31.here hx rfl (hb hby at_120) rfl (l' := #[iv p1, iv p2, iv p3, iv (1 : Int32), rv w_FIRST_ONLY, iv (1 : Int32), iv (1 : Int32), iv (1 : Int32)]) rfl k) ?_
        refine own_pre (T' := T31) (f' := (mkF m 124 #[iv p1, iv p2, iv p3, iv (1 : Int32), rv w_FIRST_ONLY, iv (1 : Int32), iv (1 : Int32), iv (1 : Int32)] [(.ref w_FIRST_ONLY)])) (fun t k => XS.aload X31.here hx rfl (hb hby at_122) rfl rfl k) ?_
        refine own_pre (T' := T31) (f' := (mkF m 125 #[iv p1, iv p2, iv p3, iv (1 : Int32), rv w_FIRST_ONLY, iv (1 : Int32), iv (1 : Int32), iv (1 : Int32)] [(.int p2), (.ref w_FIRST_ONLY)])) (fun t k => XS.iloadN X31.here hx rfl (hb hby at_124) rfl k) ?_
        refine own_pre (T' := T31) (f' := (mkF m 126 #[iv p1, iv p2, iv p3, iv (1 : Int32), rv w_FIRST_ONLY, iv (1 : Int32), iv (1 : Int32), iv (1 : Int32)] [(.int p3), (.int p2), (.ref w_FIRST_ONLY)])) (fun t k => XS.iloadN X31.here hx rfl (hb hby at_125) rfl k) ?_
        obtain ⟨T32, X32, e32, st32⟩ := own_pure (f := 0) (n := 0) (v := (some (.int (1 : Int32)))) (own_callV X31 hx hZ e31 (y := (⟨"com/example/witness/witness/pattern/Dfa$Combination", "goesOn", "(II)Z"⟩ : MethodName)) hown (hw _ (List.mem_of_getElem? (i := 8) rfl)) (hw _ (List.mem_of_getElem? (i := 9) rfl)) (hw _ (List.mem_of_getElem? (i := 11) rfl)) (hw _ (List.mem_of_getElem? (i := 10) rfl)) (hw _ (List.mem_of_getElem? (i := 12) rfl)) (hw _ (List.mem_of_getElem? (i := 2) rfl)) (by decide) 0 [(.int p2), (.int p3)] [] (own_b2_FIRST_ONLY_00 l Z a0 hw [] w_BOTH w_FIRST_ONLY w_EXACTLY_ONE h0 F0 p2 p3 hc19 hc26) (by decide) (by decide) (by decide) (by decide) E_FIRST_ONLY (g := (mkF m 126 #[iv p1, iv p2, iv p3, iv (1 : Int32), rv w_FIRST_ONLY, iv (1 : Int32), iv (1 : Int32), iv (1 : Int32)] [(.int p3), (.int p2), (.ref w_FIRST_ONLY)])) rfl (by rw [hml]; rfl) (lenOf pd_1 rfl) rfl (by show 2 * 0 + _ ≤ _; exact Nat.le_of_eq rfl) (hb hby at_126))
        refine own_pre (T' := T32) (f' := (mkF m 129 #[iv p1, iv p2, iv p3, iv (1 : Int32), rv w_FIRST_ONLY, iv (1 : Int32), iv (1 : Int32), iv (1 : Int32)] [(.int (1 : Int32))])) (fun t k => st32 t k) ?_
        refine own_pre (T' := T32) (f' := (mkF m 131 #[iv p1, iv p2, iv p3, iv (1 : Int32), rv w_FIRST_ONLY, iv (1 : Int32), iv (1 : Int32), iv (1 : Int32)] [(.int (1 : Int32)), (.int (1 : Int32))])) (fun t k => XS.iload X32.here hx rfl (hb hby at_129) rfl k) ?_
        refine own_pre (T' := T32) (f' := (mkF m 134 #[iv p1, iv p2, iv p3, iv (1 : Int32), rv w_FIRST_ONLY, iv (1 : Int32), iv (1 : Int32), iv (1 : Int32)] [])) (fun t k => XS.icmpNo X32.here hx rfl (hb hby at_131) rfl (teq (by decide : (1 : Int32) = (1 : Int32))).2 k) ?_
        refine own_pre (T' := T32) (f' := (mkF m 135 #[iv p1, iv p2, iv p3, iv (1 : Int32), rv w_FIRST_ONLY, iv (1 : Int32), iv (1 : Int32), iv (1 : Int32)] [(.int (1 : Int32))])) (fun t k => XS.iconst X32.here hx rfl (hb hby at_134) k) ?_
        refine own_pre (T' := T32) (f' := (mkF m 139 #[iv p1, iv p2, iv p3, iv (1 : Int32), rv w_FIRST_ONLY, iv (1 : Int32), iv (1 : Int32), iv (1 : Int32)] [(.int (1 : Int32))])) (fun t k => XS.goto X32.here hx rfl (pc0 := 135) (pc' := 139) rfl (hb hby at_135) (by decide) (by decide) k) ?_
        exact own_retZ X32 hx hlk hret (hb hby at_139) rfl (⟨rfl, Fr.nil _⟩) (by decide) (by decide)
  · rw [hj]
    refine own_pre (T' := s₁) (f' := (mkF m 7 #[iv p1, iv p2, iv p3, iv (2 : Int32), .unset, .unset, .unset, .unset] [])) (fun t k => XS.istoreN X0.here hx rfl (hb hby at_6) rfl (l' := #[iv p1, iv p2, iv p3, iv (2 : Int32), .unset, .unset, .unset, .unset]) rfl k) ?_
    refine own_pre (T' := s₁) (f' := (mkF m 8 #[iv p1, iv p2, iv p3, iv (2 : Int32), .unset, .unset, .unset, .unset] [(.int (2 : Int32))])) (fun t k => XS.iloadN X0.here hx rfl (hb hby at_7) rfl k) ?_
    refine own_pre (T' := s₁) (f' := (mkF m 19 #[iv p1, iv p2, iv p3, iv (2 : Int32), .unset, .unset, .unset, .unset] [])) (fun t k => XS.ifYes X0.here hx rfl (pc0 := 8) (pc' := 19) rfl (hb hby at_8) rfl ((if0 _ _).trans (feq (by decide : ¬ ((2 : Int32) = (0 : Int32)))).2) (by decide) (by decide) k) ?_
    refine own_pre (T' := s₁) (f' := (mkF m 20 #[iv p1, iv p2, iv p3, iv (2 : Int32), .unset, .unset, .unset, .unset] [(.int (2 : Int32))])) (fun t k => XS.iloadN X0.here hx rfl (hb hby at_19) rfl k) ?_
    refine own_pre (T' := s₁) (f' := (mkF m 21 #[iv p1, iv p2, iv p3, iv (2 : Int32), .unset, .unset, .unset, .unset] [(.int (1 : Int32)), (.int (2 : Int32))])) (fun t k => XS.iconst X0.here hx rfl (hb hby at_20) k) ?_
    refine own_pre (T' := s₁) (f' := (mkF m 32 #[iv p1, iv p2, iv p3, iv (2 : Int32), .unset, .unset, .unset, .unset] [])) (fun t k => XS.icmpYes X0.here hx rfl (pc0 := 21) (pc' := 32) rfl (hb hby at_21) rfl (feq (by decide : ¬ ((2 : Int32) = (1 : Int32)))).2 (by decide) (by decide) k) ?_
    obtain ⟨T33, X33, e33, st33⟩ := getS2 X0 hx hZ hown (host := "") (Or.inl (hw _ (List.mem_of_getElem? (i := 17) rfl))) Via.refl e0 S_EXACTLY_ONE (g := (mkF m 32 #[iv p1, iv p2, iv p3, iv (2 : Int32), .unset, .unset, .unset, .unset] [])) rfl (hb hby at_32)
    refine own_pre (T' := T33) (f' := (mkF m 35 #[iv p1, iv p2, iv p3, iv (2 : Int32), .unset, .unset, .unset, .unset] [(.ref w_EXACTLY_ONE)])) (fun t k => st33 t k) ?_
    refine own_pre (T' := T33) (f' := (mkF m 37 #[iv p1, iv p2, iv p3, iv (2 : Int32), rv w_EXACTLY_ONE, .unset, .unset, .unset] [])) (fun t k => XS.astore X33.here hx rfl (hb hby at_35) rfl rfl (l' := #[iv p1, iv p2, iv p3, iv (2 : Int32), rv w_EXACTLY_ONE, .unset, .unset, .unset]) rfl k) ?_
    refine own_pre (T' := T33) (f' := (mkF m 38 #[iv p1, iv p2, iv p3, iv (2 : Int32), rv w_EXACTLY_ONE, .unset, .unset, .unset] [(.int p2)])) (fun t k => XS.iloadN X33.here hx rfl (hb hby at_37) rfl k) ?_
    by_cases hc34 : p2 < (0 : Int32)
    · refine own_pre (T' := T33) (f' := (mkF m 45 #[iv p1, iv p2, iv p3, iv (2 : Int32), rv w_EXACTLY_ONE, .unset, .unset, .unset] [])) (fun t k => XS.ifYes X33.here hx rfl (pc0 := 38) (pc' := 45) rfl (hb hby at_38) rfl ((if0 _ _).trans (tlt hc34).1) (by decide) (by decide) k) ?_
      refine own_pre (T' := T33) (f' := (mkF m 46 #[iv p1, iv p2, iv p3, iv (2 : Int32), rv w_EXACTLY_ONE, .unset, .unset, .unset] [(.int (0 : Int32))])) (fun t k => XS.iconst X33.here hx rfl (hb hby at_45) k) ?_
      refine own_pre (T' := T33) (f' := (mkF m 48 #[iv p1, iv p2, iv p3, iv (2 : Int32), rv w_EXACTLY_ONE, iv (0 : Int32), .unset, .unset] [])) (fun t k => XS.istore X33.here hx rfl (hb hby at_46) rfl (l' := #[iv p1, iv p2, iv p3, iv (2 : Int32), rv w_EXACTLY_ONE, iv (0 : Int32), .unset, .unset]) rfl k) ?_
      refine own_pre (T' := T33) (f' := (mkF m 49 #[iv p1, iv p2, iv p3, iv (2 : Int32), rv w_EXACTLY_ONE, iv (0 : Int32), .unset, .unset] [(.int p3)])) (fun t k => XS.iloadN X33.here hx rfl (hb hby at_48) rfl k) ?_
      by_cases hc35 : p3 < (0 : Int32)
      · refine own_pre (T' := T33) (f' := (mkF m 56 #[iv p1, iv p2, iv p3, iv (2 : Int32), rv w_EXACTLY_ONE, iv (0 : Int32), .unset, .unset] [])) (fun t k => XS.ifYes X33.here hx rfl (pc0 := 49) (pc' := 56) rfl (hb hby at_49) rfl ((if0 _ _).trans (tlt hc35).1) (by decide) (by decide) k) ?_
        refine own_pre (T' := T33) (f' := (mkF m 57 #[iv p1, iv p2, iv p3, iv (2 : Int32), rv w_EXACTLY_ONE, iv (0 : Int32), .unset, .unset] [(.int (0 : Int32))])) (fun t k => XS.iconst X33.here hx rfl (hb hby at_56) k) ?_
        refine own_pre (T' := T33) (f' := (mkF m 59 #[iv p1, iv p2, iv p3, iv (2 : Int32), rv w_EXACTLY_ONE, iv (0 : Int32), iv (0 : Int32), .unset] [])) (fun t k => XS.istore X33.here hx rfl (hb hby at_57) rfl (l' := #[iv p1, iv p2, iv p3, iv (2 : Int32), rv w_EXACTLY_ONE, iv (0 : Int32), iv (0 : Int32), .unset]) rfl k) ?_
        refine own_pre (T' := T33) (f' := (mkF m 60 #[iv p1, iv p2, iv p3, iv (2 : Int32), rv w_EXACTLY_ONE, iv (0 : Int32), iv (0 : Int32), .unset] [(.int (2 : Int32))])) (fun t k => XS.iloadN X33.here hx rfl (hb hby at_59) rfl k) ?_
        refine own_pre (T' := T33) (f' := (mkF m 61 #[iv p1, iv p2, iv p3, iv (2 : Int32), rv w_EXACTLY_ONE, iv (0 : Int32), iv (0 : Int32), .unset] [(.int (0 : Int32)), (.int (2 : Int32))])) (fun t k => XS.iconst X33.here hx rfl (hb hby at_60) k) ?_
        refine own_pre (T' := T33) (f' := (mkF m 62 #[iv p1, iv p2, iv p3, iv (2 : Int32), rv w_EXACTLY_ONE, iv (0 : Int32), iv (0 : Int32), .unset] [(.int (0 : Int32)), (.int (0 : Int32)), (.int (2 : Int32))])) (fun t k => XS.iconst X33.here hx rfl (hb hby at_61) k) ?_
        obtain ⟨T36, X36, e36, st36⟩ := own_pure (f := 0) (n := 0) (v := (some (.int (0 : Int32)))) (own_callS X33 hx hZ e33 (y := (⟨"com/example/witness/witness/pattern/CombinationGoesOnPinLaw", "rule", "(IZZ)Z"⟩ : MethodName)) hown (hw _ (List.mem_of_getElem? (i := 4) rfl)) (hw _ (List.mem_of_getElem? (i := 5) rfl)) (hw _ (List.mem_of_getElem? (i := 7) rfl)) (hw _ (List.mem_of_getElem? (i := 6) rfl)) (by decide) 0 [(.int (2 : Int32)), (.int (0 : Int32)), (.int (0 : Int32))] [] (own_b1_200 l Z a0 hw [] w_BOTH w_FIRST_ONLY w_EXACTLY_ONE h0 F0) (by decide) (by decide) (by decide) (by decide) (g := (mkF m 62 #[iv p1, iv p2, iv p3, iv (2 : Int32), rv w_EXACTLY_ONE, iv (0 : Int32), iv (0 : Int32), .unset] [(.int (0 : Int32)), (.int (0 : Int32)), (.int (2 : Int32))])) rfl (by rw [hml]; rfl) (lenOf pd_0 rfl) rfl (by show 2 * 0 + _ ≤ _; exact Nat.le_of_eq rfl) (hb hby at_62))
        refine own_pre (T' := T36) (f' := (mkF m 65 #[iv p1, iv p2, iv p3, iv (2 : Int32), rv w_EXACTLY_ONE, iv (0 : Int32), iv (0 : Int32), .unset] [(.int (0 : Int32))])) (fun t k => st36 t k) ?_
        refine own_pre (T' := T36) (f' := (mkF m 68 #[iv p1, iv p2, iv p3, iv (2 : Int32), rv w_EXACTLY_ONE, iv (0 : Int32), iv (0 : Int32), .unset] [])) (fun t k => XS.ifNo X36.here hx rfl (hb hby at_65) rfl ((if0 _ _).trans (teq (by decide : (0 : Int32) = (0 : Int32))).2) k) ?_
        refine own_pre (T' := T36) (f' := (mkF m 70 #[iv p1, iv p2, iv p3, iv (2 : Int32), rv w_EXACTLY_ONE, iv (0 : Int32), iv (0 : Int32), .unset] [(.int (0 : Int32))])) (fun t k => XS.iload X36.here hx rfl (hb hby at_68) rfl k) ?_
        refine own_pre (T' := T36) (f' := (mkF m 82 #[iv p1, iv p2, iv p3, iv (2 : Int32), rv w_EXACTLY_ONE, iv (0 : Int32), iv (0 : Int32), .unset] [])) (fun t k => XS.ifYes X36.here hx rfl (pc0 := 70) (pc' := 82) rfl (hb hby at_70) rfl ((if0 _ _).trans (teq (by decide : (0 : Int32) = (0 : Int32))).1) (by decide) (by decide) k) ?_
        refine own_pre (T' := T36) (f' := (mkF m 84 #[iv p1, iv p2, iv p3, iv (2 : Int32), rv w_EXACTLY_ONE, iv (0 : Int32), iv (0 : Int32), .unset] [(.int (0 : Int32))])) (fun t k => XS.iload X36.here hx rfl (hb hby at_82) rfl k) ?_
        refine own_pre (T' := T36) (f' := (mkF m 96 #[iv p1, iv p2, iv p3, iv (2 : Int32), rv w_EXACTLY_ONE, iv (0 : Int32), iv (0 : Int32), .unset] [])) (fun t k => XS.ifYes X36.here hx rfl (pc0 := 84) (pc' := 96) rfl (hb hby at_84) rfl ((if0 _ _).trans (teq (by decide : (0 : Int32) = (0 : Int32))).1) (by decide) (by decide) k) ?_
        refine own_pre (T' := T36) (f' := (mkF m 98 #[iv p1, iv p2, iv p3, iv (2 : Int32), rv w_EXACTLY_ONE, iv (0 : Int32), iv (0 : Int32), .unset] [(.int (0 : Int32))])) (fun t k => XS.iload X36.here hx rfl (hb hby at_96) rfl k) ?_
        refine own_pre (T' := T36) (f' := (mkF m 119 #[iv p1, iv p2, iv p3, iv (2 : Int32), rv w_EXACTLY_ONE, iv (0 : Int32), iv (0 : Int32), .unset] [])) (fun t k => XS.ifYes X36.here hx rfl (pc0 := 98) (pc' := 119) rfl (hb hby at_98) rfl ((if0 _ _).trans (teq (by decide : (0 : Int32) = (0 : Int32))).1) (by decide) (by decide) k) ?_
        refine own_pre (T' := T36) (f' := (mkF m 120 #[iv p1, iv p2, iv p3, iv (2 : Int32), rv w_EXACTLY_ONE, iv (0 : Int32), iv (0 : Int32), .unset] [(.int (0 : Int32))])) (fun t k => XS.iconst X36.here hx rfl (hb hby at_119) k) ?_
        refine own_pre (T' := T36) (f' := (mkF m 122 #[iv p1, iv p2, iv p3, iv (2 : Int32), rv w_EXACTLY_ONE, iv (0 : Int32), iv (0 : Int32), iv (0 : Int32)] [])) (fun t k => XS.istore X36.here hx rfl (hb hby at_120) rfl (l' := #[iv p1, iv p2, iv p3, iv (2 : Int32), rv w_EXACTLY_ONE, iv (0 : Int32), iv (0 : Int32), iv (0 : Int32)]) rfl k) ?_
        refine own_pre (T' := T36) (f' := (mkF m 124 #[iv p1, iv p2, iv p3, iv (2 : Int32), rv w_EXACTLY_ONE, iv (0 : Int32), iv (0 : Int32), iv (0 : Int32)] [(.ref w_EXACTLY_ONE)])) (fun t k => XS.aload X36.here hx rfl (hb hby at_122) rfl rfl k) ?_
        refine own_pre (T' := T36) (f' := (mkF m 125 #[iv p1, iv p2, iv p3, iv (2 : Int32), rv w_EXACTLY_ONE, iv (0 : Int32), iv (0 : Int32), iv (0 : Int32)] [(.int p2), (.ref w_EXACTLY_ONE)])) (fun t k => XS.iloadN X36.here hx rfl (hb hby at_124) rfl k) ?_
        refine own_pre (T' := T36) (f' := (mkF m 126 #[iv p1, iv p2, iv p3, iv (2 : Int32), rv w_EXACTLY_ONE, iv (0 : Int32), iv (0 : Int32), iv (0 : Int32)] [(.int p3), (.int p2), (.ref w_EXACTLY_ONE)])) (fun t k => XS.iloadN X36.here hx rfl (hb hby at_125) rfl k) ?_
        obtain ⟨T37, X37, e37, st37⟩ := own_pure (f := 0) (n := 0) (v := (some (.int (0 : Int32)))) (own_callV X36 hx hZ e36 (y := (⟨"com/example/witness/witness/pattern/Dfa$Combination", "goesOn", "(II)Z"⟩ : MethodName)) hown (hw _ (List.mem_of_getElem? (i := 8) rfl)) (hw _ (List.mem_of_getElem? (i := 9) rfl)) (hw _ (List.mem_of_getElem? (i := 11) rfl)) (hw _ (List.mem_of_getElem? (i := 10) rfl)) (hw _ (List.mem_of_getElem? (i := 12) rfl)) (hw _ (List.mem_of_getElem? (i := 2) rfl)) (by decide) 0 [(.int p2), (.int p3)] [] (own_b2_EXACTLY_ONE_11 l Z a0 hw [] w_BOTH w_FIRST_ONLY w_EXACTLY_ONE h0 F0 p2 p3 hc34 hc35) (by decide) (by decide) (by decide) (by decide) E_EXACTLY_ONE (g := (mkF m 126 #[iv p1, iv p2, iv p3, iv (2 : Int32), rv w_EXACTLY_ONE, iv (0 : Int32), iv (0 : Int32), iv (0 : Int32)] [(.int p3), (.int p2), (.ref w_EXACTLY_ONE)])) rfl (by rw [hml]; rfl) (lenOf pd_1 rfl) rfl (by show 2 * 0 + _ ≤ _; exact Nat.le_of_eq rfl) (hb hby at_126))
        refine own_pre (T' := T37) (f' := (mkF m 129 #[iv p1, iv p2, iv p3, iv (2 : Int32), rv w_EXACTLY_ONE, iv (0 : Int32), iv (0 : Int32), iv (0 : Int32)] [(.int (0 : Int32))])) (fun t k => st37 t k) ?_
        refine own_pre (T' := T37) (f' := (mkF m 131 #[iv p1, iv p2, iv p3, iv (2 : Int32), rv w_EXACTLY_ONE, iv (0 : Int32), iv (0 : Int32), iv (0 : Int32)] [(.int (0 : Int32)), (.int (0 : Int32))])) (fun t k => XS.iload X37.here hx rfl (hb hby at_129) rfl k) ?_
        refine own_pre (T' := T37) (f' := (mkF m 134 #[iv p1, iv p2, iv p3, iv (2 : Int32), rv w_EXACTLY_ONE, iv (0 : Int32), iv (0 : Int32), iv (0 : Int32)] [])) (fun t k => XS.icmpNo X37.here hx rfl (hb hby at_131) rfl (teq (by decide : (0 : Int32) = (0 : Int32))).2 k) ?_
        refine own_pre (T' := T37) (f' := (mkF m 135 #[iv p1, iv p2, iv p3, iv (2 : Int32), rv w_EXACTLY_ONE, iv (0 : Int32), iv (0 : Int32), iv (0 : Int32)] [(.int (1 : Int32))])) (fun t k => XS.iconst X37.here hx rfl (hb hby at_134) k) ?_
        refine own_pre (T' := T37) (f' := (mkF m 139 #[iv p1, iv p2, iv p3, iv (2 : Int32), rv w_EXACTLY_ONE, iv (0 : Int32), iv (0 : Int32), iv (0 : Int32)] [(.int (1 : Int32))])) (fun t k => XS.goto X37.here hx rfl (pc0 := 135) (pc' := 139) rfl (hb hby at_135) (by decide) (by decide) k) ?_
        exact own_retZ X37 hx hlk hret (hb hby at_139) rfl (⟨rfl, Fr.nil _⟩) (by decide) (by decide)
      · refine own_pre (T' := T33) (f' := (mkF m 52 #[iv p1, iv p2, iv p3, iv (2 : Int32), rv w_EXACTLY_ONE, iv (0 : Int32), .unset, .unset] [])) (fun t k => XS.ifNo X33.here hx rfl (hb hby at_49) rfl ((if0 _ _).trans (flt hc35).1) k) ?_
        refine own_pre (T' := T33) (f' := (mkF m 53 #[iv p1, iv p2, iv p3, iv (2 : Int32), rv w_EXACTLY_ONE, iv (0 : Int32), .unset, .unset] [(.int (1 : Int32))])) (fun t k => XS.iconst X33.here hx rfl (hb hby at_52) k) ?_
        refine own_pre (T' := T33) (f' := (mkF m 57 #[iv p1, iv p2, iv p3, iv (2 : Int32), rv w_EXACTLY_ONE, iv (0 : Int32), .unset, .unset] [(.int (1 : Int32))])) (fun t k => XS.goto X33.here hx rfl (pc0 := 53) (pc' := 57) rfl (hb hby at_53) (by decide) (by decide) k) ?_
        refine own_pre (T' := T33) (f' := (mkF m 59 #[iv p1, iv p2, iv p3, iv (2 : Int32), rv w_EXACTLY_ONE, iv (0 : Int32), iv (1 : Int32), .unset] [])) (fun t k => XS.istore X33.here hx rfl (hb hby at_57) rfl (l' := #[iv p1, iv p2, iv p3, iv (2 : Int32), rv w_EXACTLY_ONE, iv (0 : Int32), iv (1 : Int32), .unset]) rfl k) ?_
        refine own_pre (T' := T33) (f' := (mkF m 60 #[iv p1, iv p2, iv p3, iv (2 : Int32), rv w_EXACTLY_ONE, iv (0 : Int32), iv (1 : Int32), .unset] [(.int (2 : Int32))])) (fun t k => XS.iloadN X33.here hx rfl (hb hby at_59) rfl k) ?_
        refine own_pre (T' := T33) (f' := (mkF m 61 #[iv p1, iv p2, iv p3, iv (2 : Int32), rv w_EXACTLY_ONE, iv (0 : Int32), iv (1 : Int32), .unset] [(.int (0 : Int32)), (.int (2 : Int32))])) (fun t k => XS.iconst X33.here hx rfl (hb hby at_60) k) ?_
        refine own_pre (T' := T33) (f' := (mkF m 62 #[iv p1, iv p2, iv p3, iv (2 : Int32), rv w_EXACTLY_ONE, iv (0 : Int32), iv (1 : Int32), .unset] [(.int (0 : Int32)), (.int (0 : Int32)), (.int (2 : Int32))])) (fun t k => XS.iconst X33.here hx rfl (hb hby at_61) k) ?_
        obtain ⟨T38, X38, e38, st38⟩ := own_pure (f := 0) (n := 0) (v := (some (.int (0 : Int32)))) (own_callS X33 hx hZ e33 (y := (⟨"com/example/witness/witness/pattern/CombinationGoesOnPinLaw", "rule", "(IZZ)Z"⟩ : MethodName)) hown (hw _ (List.mem_of_getElem? (i := 4) rfl)) (hw _ (List.mem_of_getElem? (i := 5) rfl)) (hw _ (List.mem_of_getElem? (i := 7) rfl)) (hw _ (List.mem_of_getElem? (i := 6) rfl)) (by decide) 0 [(.int (2 : Int32)), (.int (0 : Int32)), (.int (0 : Int32))] [] (own_b1_200 l Z a0 hw [] w_BOTH w_FIRST_ONLY w_EXACTLY_ONE h0 F0) (by decide) (by decide) (by decide) (by decide) (g := (mkF m 62 #[iv p1, iv p2, iv p3, iv (2 : Int32), rv w_EXACTLY_ONE, iv (0 : Int32), iv (1 : Int32), .unset] [(.int (0 : Int32)), (.int (0 : Int32)), (.int (2 : Int32))])) rfl (by rw [hml]; rfl) (lenOf pd_0 rfl) rfl (by show 2 * 0 + _ ≤ _; exact Nat.le_of_eq rfl) (hb hby at_62))
        refine own_pre (T' := T38) (f' := (mkF m 65 #[iv p1, iv p2, iv p3, iv (2 : Int32), rv w_EXACTLY_ONE, iv (0 : Int32), iv (1 : Int32), .unset] [(.int (0 : Int32))])) (fun t k => st38 t k) ?_
        refine own_pre (T' := T38) (f' := (mkF m 68 #[iv p1, iv p2, iv p3, iv (2 : Int32), rv w_EXACTLY_ONE, iv (0 : Int32), iv (1 : Int32), .unset] [])) (fun t k => XS.ifNo X38.here hx rfl (hb hby at_65) rfl ((if0 _ _).trans (teq (by decide : (0 : Int32) = (0 : Int32))).2) k) ?_
        refine own_pre (T' := T38) (f' := (mkF m 70 #[iv p1, iv p2, iv p3, iv (2 : Int32), rv w_EXACTLY_ONE, iv (0 : Int32), iv (1 : Int32), .unset] [(.int (0 : Int32))])) (fun t k => XS.iload X38.here hx rfl (hb hby at_68) rfl k) ?_
        refine own_pre (T' := T38) (f' := (mkF m 82 #[iv p1, iv p2, iv p3, iv (2 : Int32), rv w_EXACTLY_ONE, iv (0 : Int32), iv (1 : Int32), .unset] [])) (fun t k => XS.ifYes X38.here hx rfl (pc0 := 70) (pc' := 82) rfl (hb hby at_70) rfl ((if0 _ _).trans (teq (by decide : (0 : Int32) = (0 : Int32))).1) (by decide) (by decide) k) ?_
        refine own_pre (T' := T38) (f' := (mkF m 84 #[iv p1, iv p2, iv p3, iv (2 : Int32), rv w_EXACTLY_ONE, iv (0 : Int32), iv (1 : Int32), .unset] [(.int (1 : Int32))])) (fun t k => XS.iload X38.here hx rfl (hb hby at_82) rfl k) ?_
        refine own_pre (T' := T38) (f' := (mkF m 87 #[iv p1, iv p2, iv p3, iv (2 : Int32), rv w_EXACTLY_ONE, iv (0 : Int32), iv (1 : Int32), .unset] [])) (fun t k => XS.ifNo X38.here hx rfl (hb hby at_84) rfl ((if0 _ _).trans (feq (by decide : ¬ ((1 : Int32) = (0 : Int32)))).1) k) ?_
        refine own_pre (T' := T38) (f' := (mkF m 88 #[iv p1, iv p2, iv p3, iv (2 : Int32), rv w_EXACTLY_ONE, iv (0 : Int32), iv (1 : Int32), .unset] [(.int (2 : Int32))])) (fun t k => XS.iloadN X38.here hx rfl (hb hby at_87) rfl k) ?_
        refine own_pre (T' := T38) (f' := (mkF m 89 #[iv p1, iv p2, iv p3, iv (2 : Int32), rv w_EXACTLY_ONE, iv (0 : Int32), iv (1 : Int32), .unset] [(.int (0 : Int32)), (.int (2 : Int32))])) (fun t k => XS.iconst X38.here hx rfl (hb hby at_88) k) ?_
        refine own_pre (T' := T38) (f' := (mkF m 90 #[iv p1, iv p2, iv p3, iv (2 : Int32), rv w_EXACTLY_ONE, iv (0 : Int32), iv (1 : Int32), .unset] [(.int (1 : Int32)), (.int (0 : Int32)), (.int (2 : Int32))])) (fun t k => XS.iconst X38.here hx rfl (hb hby at_89) k) ?_
        obtain ⟨T39, X39, e39, st39⟩ := own_pure (f := 0) (n := 0) (v := (some (.int (1 : Int32)))) (own_callS X38 hx hZ e38 (y := (⟨"com/example/witness/witness/pattern/CombinationGoesOnPinLaw", "rule", "(IZZ)Z"⟩ : MethodName)) hown (hw _ (List.mem_of_getElem? (i := 4) rfl)) (hw _ (List.mem_of_getElem? (i := 5) rfl)) (hw _ (List.mem_of_getElem? (i := 7) rfl)) (hw _ (List.mem_of_getElem? (i := 6) rfl)) (by decide) 0 [(.int (2 : Int32)), (.int (0 : Int32)), (.int (1 : Int32))] [] (own_b1_201 l Z a0 hw [] w_BOTH w_FIRST_ONLY w_EXACTLY_ONE h0 F0) (by decide) (by decide) (by decide) (by decide) (g := (mkF m 90 #[iv p1, iv p2, iv p3, iv (2 : Int32), rv w_EXACTLY_ONE, iv (0 : Int32), iv (1 : Int32), .unset] [(.int (1 : Int32)), (.int (0 : Int32)), (.int (2 : Int32))])) rfl (by rw [hml]; rfl) (lenOf pd_0 rfl) rfl (by show 2 * 0 + _ ≤ _; exact Nat.le_of_eq rfl) (hb hby at_90))
        refine own_pre (T' := T39) (f' := (mkF m 93 #[iv p1, iv p2, iv p3, iv (2 : Int32), rv w_EXACTLY_ONE, iv (0 : Int32), iv (1 : Int32), .unset] [(.int (1 : Int32))])) (fun t k => st39 t k) ?_
        refine own_pre (T' := T39) (f' := (mkF m 115 #[iv p1, iv p2, iv p3, iv (2 : Int32), rv w_EXACTLY_ONE, iv (0 : Int32), iv (1 : Int32), .unset] [])) (fun t k => XS.ifYes X39.here hx rfl (pc0 := 93) (pc' := 115) rfl (hb hby at_93) rfl ((if0 _ _).trans (feq (by decide : ¬ ((1 : Int32) = (0 : Int32)))).2) (by decide) (by decide) k) ?_
        refine own_pre (T' := T39) (f' := (mkF m 116 #[iv p1, iv p2, iv p3, iv (2 : Int32), rv w_EXACTLY_ONE, iv (0 : Int32), iv (1 : Int32), .unset] [(.int (1 : Int32))])) (fun t k => XS.iconst X39.here hx rfl (hb hby at_115) k) ?_
        refine own_pre (T' := T39) (f' := (mkF m 120 #[iv p1, iv p2, iv p3, iv (2 : Int32), rv w_EXACTLY_ONE, iv (0 : Int32), iv (1 : Int32), .unset] [(.int (1 : Int32))])) (fun t k => XS.goto X39.here hx rfl (pc0 := 116) (pc' := 120) rfl (hb hby at_116) (by decide) (by decide) k) ?_
        refine own_pre (T' := T39) (f' := (mkF m 122 #[iv p1, iv p2, iv p3, iv (2 : Int32), rv w_EXACTLY_ONE, iv (0 : Int32), iv (1 : Int32), iv (1 : Int32)] [])) (fun t k => XS.istore X39.here hx rfl (hb hby at_120) rfl (l' := #[iv p1, iv p2, iv p3, iv (2 : Int32), rv w_EXACTLY_ONE, iv (0 : Int32), iv (1 : Int32), iv (1 : Int32)]) rfl k) ?_
        refine own_pre (T' := T39) (f' := (mkF m 124 #[iv p1, iv p2, iv p3, iv (2 : Int32), rv w_EXACTLY_ONE, iv (0 : Int32), iv (1 : Int32), iv (1 : Int32)] [(.ref w_EXACTLY_ONE)])) (fun t k => XS.aload X39.here hx rfl (hb hby at_122) rfl rfl k) ?_
        refine own_pre (T' := T39) (f' := (mkF m 125 #[iv p1, iv p2, iv p3, iv (2 : Int32), rv w_EXACTLY_ONE, iv (0 : Int32), iv (1 : Int32), iv (1 : Int32)] [(.int p2), (.ref w_EXACTLY_ONE)])) (fun t k => XS.iloadN X39.here hx rfl (hb hby at_124) rfl k) ?_
        refine own_pre (T' := T39) (f' := (mkF m 126 #[iv p1, iv p2, iv p3, iv (2 : Int32), rv w_EXACTLY_ONE, iv (0 : Int32), iv (1 : Int32), iv (1 : Int32)] [(.int p3), (.int p2), (.ref w_EXACTLY_ONE)])) (fun t k => XS.iloadN X39.here hx rfl (hb hby at_125) rfl k) ?_
        obtain ⟨T40, X40, e40, st40⟩ := own_pure (f := 0) (n := 0) (v := (some (.int (1 : Int32)))) (own_callV X39 hx hZ e39 (y := (⟨"com/example/witness/witness/pattern/Dfa$Combination", "goesOn", "(II)Z"⟩ : MethodName)) hown (hw _ (List.mem_of_getElem? (i := 8) rfl)) (hw _ (List.mem_of_getElem? (i := 9) rfl)) (hw _ (List.mem_of_getElem? (i := 11) rfl)) (hw _ (List.mem_of_getElem? (i := 10) rfl)) (hw _ (List.mem_of_getElem? (i := 12) rfl)) (hw _ (List.mem_of_getElem? (i := 2) rfl)) (by decide) 0 [(.int p2), (.int p3)] [] (own_b2_EXACTLY_ONE_10 l Z a0 hw [] w_BOTH w_FIRST_ONLY w_EXACTLY_ONE h0 F0 p2 p3 hc34 hc35) (by decide) (by decide) (by decide) (by decide) E_EXACTLY_ONE (g := (mkF m 126 #[iv p1, iv p2, iv p3, iv (2 : Int32), rv w_EXACTLY_ONE, iv (0 : Int32), iv (1 : Int32), iv (1 : Int32)] [(.int p3), (.int p2), (.ref w_EXACTLY_ONE)])) rfl (by rw [hml]; rfl) (lenOf pd_1 rfl) rfl (by show 2 * 0 + _ ≤ _; exact Nat.le_of_eq rfl) (hb hby at_126))
        refine own_pre (T' := T40) (f' := (mkF m 129 #[iv p1, iv p2, iv p3, iv (2 : Int32), rv w_EXACTLY_ONE, iv (0 : Int32), iv (1 : Int32), iv (1 : Int32)] [(.int (1 : Int32))])) (fun t k => st40 t k) ?_
        refine own_pre (T' := T40) (f' := (mkF m 131 #[iv p1, iv p2, iv p3, iv (2 : Int32), rv w_EXACTLY_ONE, iv (0 : Int32), iv (1 : Int32), iv (1 : Int32)] [(.int (1 : Int32)), (.int (1 : Int32))])) (fun t k => XS.iload X40.here hx rfl (hb hby at_129) rfl k) ?_
        refine own_pre (T' := T40) (f' := (mkF m 134 #[iv p1, iv p2, iv p3, iv (2 : Int32), rv w_EXACTLY_ONE, iv (0 : Int32), iv (1 : Int32), iv (1 : Int32)] [])) (fun t k => XS.icmpNo X40.here hx rfl (hb hby at_131) rfl (teq (by decide : (1 : Int32) = (1 : Int32))).2 k) ?_
        refine own_pre (T' := T40) (f' := (mkF m 135 #[iv p1, iv p2, iv p3, iv (2 : Int32), rv w_EXACTLY_ONE, iv (0 : Int32), iv (1 : Int32), iv (1 : Int32)] [(.int (1 : Int32))])) (fun t k => XS.iconst X40.here hx rfl (hb hby at_134) k) ?_
        refine own_pre (T' := T40) (f' := (mkF m 139 #[iv p1, iv p2, iv p3, iv (2 : Int32), rv w_EXACTLY_ONE, iv (0 : Int32), iv (1 : Int32), iv (1 : Int32)] [(.int (1 : Int32))])) (fun t k => XS.goto X40.here hx rfl (pc0 := 135) (pc' := 139) rfl (hb hby at_135) (by decide) (by decide) k) ?_
        exact own_retZ X40 hx hlk hret (hb hby at_139) rfl (⟨rfl, Fr.nil _⟩) (by decide) (by decide)
    · refine own_pre (T' := T33) (f' := (mkF m 41 #[iv p1, iv p2, iv p3, iv (2 : Int32), rv w_EXACTLY_ONE, .unset, .unset, .unset] [])) (fun t k => XS.ifNo X33.here hx rfl (hb hby at_38) rfl ((if0 _ _).trans (flt hc34).1) k) ?_
      refine own_pre (T' := T33) (f' := (mkF m 42 #[iv p1, iv p2, iv p3, iv (2 : Int32), rv w_EXACTLY_ONE, .unset, .unset, .unset] [(.int (1 : Int32))])) (fun t k => XS.iconst X33.here hx rfl (hb hby at_41) k) ?_
      refine own_pre (T' := T33) (f' := (mkF m 46 #[iv p1, iv p2, iv p3, iv (2 : Int32), rv w_EXACTLY_ONE, .unset, .unset, .unset] [(.int (1 : Int32))])) (fun t k => XS.goto X33.here hx rfl (pc0 := 42) (pc' := 46) rfl (hb hby at_42) (by decide) (by decide) k) ?_
      refine own_pre (T' := T33) (f' := (mkF m 48 #[iv p1, iv p2, iv p3, iv (2 : Int32), rv w_EXACTLY_ONE, iv (1 : Int32), .unset, .unset] [])) (fun t k => XS.istore X33.here hx rfl (hb hby at_46) rfl (l' := #[iv p1, iv p2, iv p3, iv (2 : Int32), rv w_EXACTLY_ONE, iv (1 : Int32), .unset, .unset]) rfl k) ?_
      refine own_pre (T' := T33) (f' := (mkF m 49 #[iv p1, iv p2, iv p3, iv (2 : Int32), rv w_EXACTLY_ONE, iv (1 : Int32), .unset, .unset] [(.int p3)])) (fun t k => XS.iloadN X33.here hx rfl (hb hby at_48) rfl k) ?_
      by_cases hc41 : p3 < (0 : Int32)
      · refine own_pre (T' := T33) (f' := (mkF m 56 #[iv p1, iv p2, iv p3, iv (2 : Int32), rv w_EXACTLY_ONE, iv (1 : Int32), .unset, .unset] [])) (fun t k => XS.ifYes X33.here hx rfl (pc0 := 49) (pc' := 56) rfl (hb hby at_49) rfl ((if0 _ _).trans (tlt hc41).1) (by decide) (by decide) k) ?_
        refine own_pre (T' := T33) (f' := (mkF m 57 #[iv p1, iv p2, iv p3, iv (2 : Int32), rv w_EXACTLY_ONE, iv (1 : Int32), .unset, .unset] [(.int (0 : Int32))])) (fun t k => XS.iconst X33.here hx rfl (hb hby at_56) k) ?_
        refine own_pre (T' := T33) (f' := (mkF m 59 #[iv p1, iv p2, iv p3, iv (2 : Int32), rv w_EXACTLY_ONE, iv (1 : Int32), iv (0 : Int32), .unset] [])) (fun t k => XS.istore X33.here hx rfl (hb hby at_57) rfl (l' := #[iv p1, iv p2, iv p3, iv (2 : Int32), rv w_EXACTLY_ONE, iv (1 : Int32), iv (0 : Int32), .unset]) rfl k) ?_
        refine own_pre (T' := T33) (f' := (mkF m 60 #[iv p1, iv p2, iv p3, iv (2 : Int32), rv w_EXACTLY_ONE, iv (1 : Int32), iv (0 : Int32), .unset] [(.int (2 : Int32))])) (fun t k => XS.iloadN X33.here hx rfl (hb hby at_59) rfl k) ?_
        refine own_pre (T' := T33) (f' := (mkF m 61 #[iv p1, iv p2, iv p3, iv (2 : Int32), rv w_EXACTLY_ONE, iv (1 : Int32), iv (0 : Int32), .unset] [(.int (0 : Int32)), (.int (2 : Int32))])) (fun t k => XS.iconst X33.here hx rfl (hb hby at_60) k) ?_
        refine own_pre (T' := T33) (f' := (mkF m 62 #[iv p1, iv p2, iv p3, iv (2 : Int32), rv w_EXACTLY_ONE, iv (1 : Int32), iv (0 : Int32), .unset] [(.int (0 : Int32)), (.int (0 : Int32)), (.int (2 : Int32))])) (fun t k => XS.iconst X33.here hx rfl (hb hby at_61) k) ?_
        obtain ⟨T42, X42, e42, st42⟩ := own_pure (f := 0) (n := 0) (v := (some (.int (0 : Int32)))) (own_callS X33 hx hZ e33 (y := (⟨"com/example/witness/witness/pattern/CombinationGoesOnPinLaw", "rule", "(IZZ)Z"⟩ : MethodName)) hown (hw _ (List.mem_of_getElem? (i := 4) rfl)) (hw _ (List.mem_of_getElem? (i := 5) rfl)) (hw _ (List.mem_of_getElem? (i := 7) rfl)) (hw _ (List.mem_of_getElem? (i := 6) rfl)) (by decide) 0 [(.int (2 : Int32)), (.int (0 : Int32)), (.int (0 : Int32))] [] (own_b1_200 l Z a0 hw [] w_BOTH w_FIRST_ONLY w_EXACTLY_ONE h0 F0) (by decide) (by decide) (by decide) (by decide) (g := (mkF m 62 #[iv p1, iv p2, iv p3, iv (2 : Int32), rv w_EXACTLY_ONE, iv (1 : Int32), iv (0 : Int32), .unset] [(.int (0 : Int32)), (.int (0 : Int32)), (.int (2 : Int32))])) rfl (by rw [hml]; rfl) (lenOf pd_0 rfl) rfl (by show 2 * 0 + _ ≤ _; exact Nat.le_of_eq rfl) (hb hby at_62))
        refine own_pre (T' := T42) (f' := (mkF m 65 #[iv p1, iv p2, iv p3, iv (2 : Int32), rv w_EXACTLY_ONE, iv (1 : Int32), iv (0 : Int32), .unset] [(.int (0 : Int32))])) (fun t k => st42 t k) ?_
        refine own_pre (T' := T42) (f' := (mkF m 68 #[iv p1, iv p2, iv p3, iv (2 : Int32), rv w_EXACTLY_ONE, iv (1 : Int32), iv (0 : Int32), .unset] [])) (fun t k => XS.ifNo X42.here hx rfl (hb hby at_65) rfl ((if0 _ _).trans (teq (by decide : (0 : Int32) = (0 : Int32))).2) k) ?_
        refine own_pre (T' := T42) (f' := (mkF m 70 #[iv p1, iv p2, iv p3, iv (2 : Int32), rv w_EXACTLY_ONE, iv (1 : Int32), iv (0 : Int32), .unset] [(.int (1 : Int32))])) (fun t k => XS.iload X42.here hx rfl (hb hby at_68) rfl k) ?_
        refine own_pre (T' := T42) (f' := (mkF m 73 #[iv p1, iv p2, iv p3, iv (2 : Int32), rv w_EXACTLY_ONE, iv (1 : Int32), iv (0 : Int32), .unset] [])) (fun t k => XS.ifNo X42.here hx rfl (hb hby at_70) rfl ((if0 _ _).trans (feq (by decide : ¬ ((1 : Int32) = (0 : Int32)))).1) k) ?_
        refine own_pre (T' := T42) (f' := (mkF m 74 #[iv p1, iv p2, iv p3, iv (2 : Int32), rv w_EXACTLY_ONE, iv (1 : Int32), iv (0 : Int32), .unset] [(.int (2 : Int32))])) (fun t k => XS.iloadN X42.here hx rfl (hb hby at_73) rfl k) ?_
        refine own_pre (T' := T42) (f' := (mkF m 75 #[iv p1, iv p2, iv p3, iv (2 : Int32), rv w_EXACTLY_ONE, iv (1 : Int32), iv (0 : Int32), .unset] [(.int (1 : Int32)), (.int (2 : Int32))])) (fun t k => XS.iconst X42.here hx rfl (hb hby at_74) k) ?_
        refine own_pre (T' := T42) (f' := (mkF m 76 #[iv p1, iv p2, iv p3, iv (2 : Int32), rv w_EXACTLY_ONE, iv (1 : Int32), iv (0 : Int32), .unset] [(.int (0 : Int32)), (.int (1 : Int32)), (.int (2 : Int32))])) (fun t k => XS.iconst X42.here hx rfl (hb hby at_75) k) ?_
        obtain ⟨T43, X43, e43, st43⟩ := own_pure (f := 0) (n := 0) (v := (some (.int (1 : Int32)))) (own_callS X42 hx hZ e42 (y := (⟨"com/example/witness/witness/pattern/CombinationGoesOnPinLaw", "rule", "(IZZ)Z"⟩ : MethodName)) hown (hw _ (List.mem_of_getElem? (i := 4) rfl)) (hw _ (List.mem_of_getElem? (i := 5) rfl)) (hw _ (List.mem_of_getElem? (i := 7) rfl)) (hw _ (List.mem_of_getElem? (i := 6) rfl)) (by decide) 0 [(.int (2 : Int32)), (.int (1 : Int32)), (.int (0 : Int32))] [] (own_b1_210 l Z a0 hw [] w_BOTH w_FIRST_ONLY w_EXACTLY_ONE h0 F0) (by decide) (by decide) (by decide) (by decide) (g := (mkF m 76 #[iv p1, iv p2, iv p3, iv (2 : Int32), rv w_EXACTLY_ONE, iv (1 : Int32), iv (0 : Int32), .unset] [(.int (0 : Int32)), (.int (1 : Int32)), (.int (2 : Int32))])) rfl (by rw [hml]; rfl) (lenOf pd_0 rfl) rfl (by show 2 * 0 + _ ≤ _; exact Nat.le_of_eq rfl) (hb hby at_76))
        refine own_pre (T' := T43) (f' := (mkF m 79 #[iv p1, iv p2, iv p3, iv (2 : Int32), rv w_EXACTLY_ONE, iv (1 : Int32), iv (0 : Int32), .unset] [(.int (1 : Int32))])) (fun t k => st43 t k) ?_
        refine own_pre (T' := T43) (f' := (mkF m 115 #[iv p1, iv p2, iv p3, iv (2 : Int32), rv w_EXACTLY_ONE, iv (1 : Int32), iv (0 : Int32), .unset] [])) (fun t k => XS.ifYes X43.here hx rfl (pc0 := 79) (pc' := 115) rfl (hb hby at_79) rfl ((if0 _ _).trans (feq (by decide : ¬ ((1 : Int32) = (0 : Int32)))).2) (by decide) (by decide) k) ?_
        refine own_pre (T' := T43) (f' := (mkF m 116 #[iv p1, iv p2, iv p3, iv (2 : Int32), rv w_EXACTLY_ONE, iv (1 : Int32), iv (0 : Int32), .unset] [(.int (1 : Int32))])) (fun t k => XS.iconst X43.here hx rfl (hb hby at_115) k) ?_
        refine own_pre (T' := T43) (f' := (mkF m 120 #[iv p1, iv p2, iv p3, iv (2 : Int32), rv w_EXACTLY_ONE, iv (1 : Int32), iv (0 : Int32), .unset] [(.int (1 : Int32))])) (fun t k => XS.goto X43.here hx rfl (pc0 := 116) (pc' := 120) rfl (hb hby at_116) (by decide) (by decide) k) ?_
        refine own_pre (T' := T43) (f' := (mkF m 122 #[iv p1, iv p2, iv p3, iv (2 : Int32), rv w_EXACTLY_ONE, iv (1 : Int32), iv (0 : Int32), iv (1 : Int32)] [])) (fun t k => XS.istore X43.here hx rfl (hb hby at_120) rfl (l' := #[iv p1, iv p2, iv p3, iv (2 : Int32), rv w_EXACTLY_ONE, iv (1 : Int32), iv (0 : Int32), iv (1 : Int32)]) rfl k) ?_
        refine own_pre (T' := T43) (f' := (mkF m 124 #[iv p1, iv p2, iv p3, iv (2 : Int32), rv w_EXACTLY_ONE, iv (1 : Int32), iv (0 : Int32), iv (1 : Int32)] [(.ref w_EXACTLY_ONE)])) (fun t k => XS.aload X43.here hx rfl (hb hby at_122) rfl rfl k) ?_
        refine own_pre (T' := T43) (f' := (mkF m 125 #[iv p1, iv p2, iv p3, iv (2 : Int32), rv w_EXACTLY_ONE, iv (1 : Int32), iv (0 : Int32), iv (1 : Int32)] [(.int p2), (.ref w_EXACTLY_ONE)])) (fun t k => XS.iloadN X43.here hx rfl (hb hby at_124) rfl k) ?_
        refine own_pre (T' := T43) (f' := (mkF m 126 #[iv p1, iv p2, iv p3, iv (2 : Int32), rv w_EXACTLY_ONE, iv (1 : Int32), iv (0 : Int32), iv (1 : Int32)] [(.int p3), (.int p2), (.ref w_EXACTLY_ONE)])) (fun t k => XS.iloadN X43.here hx rfl (hb hby at_125) rfl k) ?_
        obtain ⟨T44, X44, e44, st44⟩ := own_pure (f := 0) (n := 0) (v := (some (.int (1 : Int32)))) (own_callV X43 hx hZ e43 (y := (⟨"com/example/witness/witness/pattern/Dfa$Combination", "goesOn", "(II)Z"⟩ : MethodName)) hown (hw _ (List.mem_of_getElem? (i := 8) rfl)) (hw _ (List.mem_of_getElem? (i := 9) rfl)) (hw _ (List.mem_of_getElem? (i := 11) rfl)) (hw _ (List.mem_of_getElem? (i := 10) rfl)) (hw _ (List.mem_of_getElem? (i := 12) rfl)) (hw _ (List.mem_of_getElem? (i := 2) rfl)) (by decide) 0 [(.int p2), (.int p3)] [] (own_b2_EXACTLY_ONE_01 l Z a0 hw [] w_BOTH w_FIRST_ONLY w_EXACTLY_ONE h0 F0 p2 p3 hc34 hc41) (by decide) (by decide) (by decide) (by decide) E_EXACTLY_ONE (g := (mkF m 126 #[iv p1, iv p2, iv p3, iv (2 : Int32), rv w_EXACTLY_ONE, iv (1 : Int32), iv (0 : Int32), iv (1 : Int32)] [(.int p3), (.int p2), (.ref w_EXACTLY_ONE)])) rfl (by rw [hml]; rfl) (lenOf pd_1 rfl) rfl (by show 2 * 0 + _ ≤ _; exact Nat.le_of_eq rfl) (hb hby at_126))
        refine own_pre (T' := T44) (f' := (mkF m 129 #[iv p1, iv p2, iv p3, iv (2 : Int32), rv w_EXACTLY_ONE, iv (1 : Int32), iv (0 : Int32), iv (1 : Int32)] [(.int (1 : Int32))])) (fun t k => st44 t k) ?_
        refine own_pre (T' := T44) (f' := (mkF m 131 #[iv p1, iv p2, iv p3, iv (2 : Int32), rv w_EXACTLY_ONE, iv (1 : Int32), iv (0 : Int32), iv (1 : Int32)] [(.int (1 : Int32)), (.int (1 : Int32))])) (fun t k => XS.iload X44.here hx rfl (hb hby at_129) rfl k) ?_
        refine own_pre (T' := T44) (f' := (mkF m 134 #[iv p1, iv p2, iv p3, iv (2 : Int32), rv w_EXACTLY_ONE, iv (1 : Int32), iv (0 : Int32), iv (1 : Int32)] [])) (fun t k => XS.icmpNo X44.here hx rfl (hb hby at_131) rfl (teq (by decide : (1 : Int32) = (1 : Int32))).2 k) ?_
        refine own_pre (T' := T44) (f' := (mkF m 135 #[iv p1, iv p2, iv p3, iv (2 : Int32), rv w_EXACTLY_ONE, iv (1 : Int32), iv (0 : Int32), iv (1 : Int32)] [(.int (1 : Int32))])) (fun t k => XS.iconst X44.here hx rfl (hb hby at_134) k) ?_
        refine own_pre (T' := T44) (f' := (mkF m 139 #[iv p1, iv p2, iv p3, iv (2 : Int32), rv w_EXACTLY_ONE, iv (1 : Int32), iv (0 : Int32), iv (1 : Int32)] [(.int (1 : Int32))])) (fun t k => XS.goto X44.here hx rfl (pc0 := 135) (pc' := 139) rfl (hb hby at_135) (by decide) (by decide) k) ?_
        exact own_retZ X44 hx hlk hret (hb hby at_139) rfl (⟨rfl, Fr.nil _⟩) (by decide) (by decide)
      · refine own_pre (T' := T33) (f' := (mkF m 52 #[iv p1, iv p2, iv p3, iv (2 : Int32), rv w_EXACTLY_ONE, iv (1 : Int32), .unset, .unset] [])) (fun t k => XS.ifNo X33.here hx rfl (hb hby at_49) rfl ((if0 _ _).trans (flt hc41).1) k) ?_
        refine own_pre (T' := T33) (f' := (mkF m 53 #[iv p1, iv p2, iv p3, iv (2 : Int32), rv w_EXACTLY_ONE, iv (1 : Int32), .unset, .unset] [(.int (1 : Int32))])) (fun t k => XS.iconst X33.here hx rfl (hb hby at_52) k) ?_
        refine own_pre (T' := T33) (f' := (mkF m 57 #[iv p1, iv p2, iv p3, iv (2 : Int32), rv w_EXACTLY_ONE, iv (1 : Int32), .unset, .unset] [(.int (1 : Int32))])) (fun t k => XS.goto X33.here hx rfl (pc0 := 53) (pc' := 57) rfl (hb hby at_53) (by decide) (by decide) k) ?_
        refine own_pre (T' := T33) (f' := (mkF m 59 #[iv p1, iv p2, iv p3, iv (2 : Int32), rv w_EXACTLY_ONE, iv (1 : Int32), iv (1 : Int32), .unset] [])) (fun t k => XS.istore X33.here hx rfl (hb hby at_57) rfl (l' := #[iv p1, iv p2, iv p3, iv (2 : Int32), rv w_EXACTLY_ONE, iv (1 : Int32), iv (1 : Int32), .unset]) rfl k) ?_
        refine own_pre (T' := T33) (f' := (mkF m 60 #[iv p1, iv p2, iv p3, iv (2 : Int32), rv w_EXACTLY_ONE, iv (1 : Int32), iv (1 : Int32), .unset] [(.int (2 : Int32))])) (fun t k => XS.iloadN X33.here hx rfl (hb hby at_59) rfl k) ?_
        refine own_pre (T' := T33) (f' := (mkF m 61 #[iv p1, iv p2, iv p3, iv (2 : Int32), rv w_EXACTLY_ONE, iv (1 : Int32), iv (1 : Int32), .unset] [(.int (0 : Int32)), (.int (2 : Int32))])) (fun t k => XS.iconst X33.here hx rfl (hb hby at_60) k) ?_
        refine own_pre (T' := T33) (f' := (mkF m 62 #[iv p1, iv p2, iv p3, iv (2 : Int32), rv w_EXACTLY_ONE, iv (1 : Int32), iv (1 : Int32), .unset] [(.int (0 : Int32)), (.int (0 : Int32)), (.int (2 : Int32))])) (fun t k => XS.iconst X33.here hx rfl (hb hby at_61) k) ?_
        obtain ⟨T45, X45, e45, st45⟩ := own_pure (f := 0) (n := 0) (v := (some (.int (0 : Int32)))) (own_callS X33 hx hZ e33 (y := (⟨"com/example/witness/witness/pattern/CombinationGoesOnPinLaw", "rule", "(IZZ)Z"⟩ : MethodName)) hown (hw _ (List.mem_of_getElem? (i := 4) rfl)) (hw _ (List.mem_of_getElem? (i := 5) rfl)) (hw _ (List.mem_of_getElem? (i := 7) rfl)) (hw _ (List.mem_of_getElem? (i := 6) rfl)) (by decide) 0 [(.int (2 : Int32)), (.int (0 : Int32)), (.int (0 : Int32))] [] (own_b1_200 l Z a0 hw [] w_BOTH w_FIRST_ONLY w_EXACTLY_ONE h0 F0) (by decide) (by decide) (by decide) (by decide) (g := (mkF m 62 #[iv p1, iv p2, iv p3, iv (2 : Int32), rv w_EXACTLY_ONE, iv (1 : Int32), iv (1 : Int32), .unset] [(.int (0 : Int32)), (.int (0 : Int32)), (.int (2 : Int32))])) rfl (by rw [hml]; rfl) (lenOf pd_0 rfl) rfl (by show 2 * 0 + _ ≤ _; exact Nat.le_of_eq rfl) (hb hby at_62))
        refine own_pre (T' := T45) (f' := (mkF m 65 #[iv p1, iv p2, iv p3, iv (2 : Int32), rv w_EXACTLY_ONE, iv (1 : Int32), iv (1 : Int32), .unset] [(.int (0 : Int32))])) (fun t k => st45 t k) ?_
        refine own_pre (T' := T45) (f' := (mkF m 68 #[iv p1, iv p2, iv p3, iv (2 : Int32), rv w_EXACTLY_ONE, iv (1 : Int32), iv (1 : Int32), .unset] [])) (fun t k => XS.ifNo X45.here hx rfl (hb hby at_65) rfl ((if0 _ _).trans (teq (by decide : (0 : Int32) = (0 : Int32))).2) k) ?_
        refine own_pre (T' := T45) (f' := (mkF m 70 #[iv p1, iv p2, iv p3, iv (2 : Int32), rv w_EXACTLY_ONE, iv (1 : Int32), iv (1 : Int32), .unset] [(.int (1 : Int32))])) (fun t k => XS.iload X45.here hx rfl (hb hby at_68) rfl k) ?_
        refine own_pre (T' := T45) (f' := (mkF m 73 #[iv p1, iv p2, iv p3, iv (2 : Int32), rv w_EXACTLY_ONE, iv (1 : Int32), iv (1 : Int32), .unset] [])) (fun t k => XS.ifNo X45.here hx rfl (hb hby at_70) rfl ((if0 _ _).trans (feq (by decide : ¬ ((1 : Int32) = (0 : Int32)))).1) k) ?_
        refine own_pre (T' := T45) (f' := (mkF m 74 #[iv p1, iv p2, iv p3, iv (2 : Int32), rv w_EXACTLY_ONE, iv (1 : Int32), iv (1 : Int32), .unset] [(.int (2 : Int32))])) (fun t k => XS.iloadN X45.here hx rfl (hb hby at_73) rfl k) ?_
        refine own_pre (T' := T45) (f' := (mkF m 75 #[iv p1, iv p2, iv p3, iv (2 : Int32), rv w_EXACTLY_ONE, iv (1 : Int32), iv (1 : Int32), .unset] [(.int (1 : Int32)), (.int (2 : Int32))])) (fun t k => XS.iconst X45.here hx rfl (hb hby at_74) k) ?_
        refine own_pre (T' := T45) (f' := (mkF m 76 #[iv p1, iv p2, iv p3, iv (2 : Int32), rv w_EXACTLY_ONE, iv (1 : Int32), iv (1 : Int32), .unset] [(.int (0 : Int32)), (.int (1 : Int32)), (.int (2 : Int32))])) (fun t k => XS.iconst X45.here hx rfl (hb hby at_75) k) ?_
        obtain ⟨T46, X46, e46, st46⟩ := own_pure (f := 0) (n := 0) (v := (some (.int (1 : Int32)))) (own_callS X45 hx hZ e45 (y := (⟨"com/example/witness/witness/pattern/CombinationGoesOnPinLaw", "rule", "(IZZ)Z"⟩ : MethodName)) hown (hw _ (List.mem_of_getElem? (i := 4) rfl)) (hw _ (List.mem_of_getElem? (i := 5) rfl)) (hw _ (List.mem_of_getElem? (i := 7) rfl)) (hw _ (List.mem_of_getElem? (i := 6) rfl)) (by decide) 0 [(.int (2 : Int32)), (.int (1 : Int32)), (.int (0 : Int32))] [] (own_b1_210 l Z a0 hw [] w_BOTH w_FIRST_ONLY w_EXACTLY_ONE h0 F0) (by decide) (by decide) (by decide) (by decide) (g := (mkF m 76 #[iv p1, iv p2, iv p3, iv (2 : Int32), rv w_EXACTLY_ONE, iv (1 : Int32), iv (1 : Int32), .unset] [(.int (0 : Int32)), (.int (1 : Int32)), (.int (2 : Int32))])) rfl (by rw [hml]; rfl) (lenOf pd_0 rfl) rfl (by show 2 * 0 + _ ≤ _; exact Nat.le_of_eq rfl) (hb hby at_76))
        refine own_pre (T' := T46) (f' := (mkF m 79 #[iv p1, iv p2, iv p3, iv (2 : Int32), rv w_EXACTLY_ONE, iv (1 : Int32), iv (1 : Int32), .unset] [(.int (1 : Int32))])) (fun t k => st46 t k) ?_
        refine own_pre (T' := T46) (f' := (mkF m 115 #[iv p1, iv p2, iv p3, iv (2 : Int32), rv w_EXACTLY_ONE, iv (1 : Int32), iv (1 : Int32), .unset] [])) (fun t k => XS.ifYes X46.here hx rfl (pc0 := 79) (pc' := 115) rfl (hb hby at_79) rfl ((if0 _ _).trans (feq (by decide : ¬ ((1 : Int32) = (0 : Int32)))).2) (by decide) (by decide) k) ?_
        refine own_pre (T' := T46) (f' := (mkF m 116 #[iv p1, iv p2, iv p3, iv (2 : Int32), rv w_EXACTLY_ONE, iv (1 : Int32), iv (1 : Int32), .unset] [(.int (1 : Int32))])) (fun t k => XS.iconst X46.here hx rfl (hb hby at_115) k) ?_
        refine own_pre (T' := T46) (f' := (mkF m 120 #[iv p1, iv p2, iv p3, iv (2 : Int32), rv w_EXACTLY_ONE, iv (1 : Int32), iv (1 : Int32), .unset] [(.int (1 : Int32))])) (fun t k => XS.goto X46.here hx rfl (pc0 := 116) (pc' := 120) rfl (hb hby at_116) (by decide) (by decide) k) ?_
        refine own_pre (T' := T46) (f' := (mkF m 122 #[iv p1, iv p2, iv p3, iv (2 : Int32), rv w_EXACTLY_ONE, iv (1 : Int32), iv (1 : Int32), iv (1 : Int32)] [])) (fun t k => XS.istore X46.here hx rfl (hb hby at_120) rfl (l' := #[iv p1, iv p2, iv p3, iv (2 : Int32), rv w_EXACTLY_ONE, iv (1 : Int32), iv (1 : Int32), iv (1 : Int32)]) rfl k) ?_
        refine own_pre (T' := T46) (f' := (mkF m 124 #[iv p1, iv p2, iv p3, iv (2 : Int32), rv w_EXACTLY_ONE, iv (1 : Int32), iv (1 : Int32), iv (1 : Int32)] [(.ref w_EXACTLY_ONE)])) (fun t k => XS.aload X46.here hx rfl (hb hby at_122) rfl rfl k) ?_
        refine own_pre (T' := T46) (f' := (mkF m 125 #[iv p1, iv p2, iv p3, iv (2 : Int32), rv w_EXACTLY_ONE, iv (1 : Int32), iv (1 : Int32), iv (1 : Int32)] [(.int p2), (.ref w_EXACTLY_ONE)])) (fun t k => XS.iloadN X46.here hx rfl (hb hby at_124) rfl k) ?_
        refine own_pre (T' := T46) (f' := (mkF m 126 #[iv p1, iv p2, iv p3, iv (2 : Int32), rv w_EXACTLY_ONE, iv (1 : Int32), iv (1 : Int32), iv (1 : Int32)] [(.int p3), (.int p2), (.ref w_EXACTLY_ONE)])) (fun t k => XS.iloadN X46.here hx rfl (hb hby at_125) rfl k) ?_
        obtain ⟨T47, X47, e47, st47⟩ := own_pure (f := 0) (n := 0) (v := (some (.int (1 : Int32)))) (own_callV X46 hx hZ e46 (y := (⟨"com/example/witness/witness/pattern/Dfa$Combination", "goesOn", "(II)Z"⟩ : MethodName)) hown (hw _ (List.mem_of_getElem? (i := 8) rfl)) (hw _ (List.mem_of_getElem? (i := 9) rfl)) (hw _ (List.mem_of_getElem? (i := 11) rfl)) (hw _ (List.mem_of_getElem? (i := 10) rfl)) (hw _ (List.mem_of_getElem? (i := 12) rfl)) (hw _ (List.mem_of_getElem? (i := 2) rfl)) (by decide) 0 [(.int p2), (.int p3)] [] (own_b2_EXACTLY_ONE_00 l Z a0 hw [] w_BOTH w_FIRST_ONLY w_EXACTLY_ONE h0 F0 p2 p3 hc34 hc41) (by decide) (by decide) (by decide) (by decide) E_EXACTLY_ONE (g := (mkF m 126 #[iv p1, iv p2, iv p3, iv (2 : Int32), rv w_EXACTLY_ONE, iv (1 : Int32), iv (1 : Int32), iv (1 : Int32)] [(.int p3), (.int p2), (.ref w_EXACTLY_ONE)])) rfl (by rw [hml]; rfl) (lenOf pd_1 rfl) rfl (by show 2 * 0 + _ ≤ _; exact Nat.le_of_eq rfl) (hb hby at_126))
        refine own_pre (T' := T47) (f' := (mkF m 129 #[iv p1, iv p2, iv p3, iv (2 : Int32), rv w_EXACTLY_ONE, iv (1 : Int32), iv (1 : Int32), iv (1 : Int32)] [(.int (1 : Int32))])) (fun t k => st47 t k) ?_
        refine own_pre (T' := T47) (f' := (mkF m 131 #[iv p1, iv p2, iv p3, iv (2 : Int32), rv w_EXACTLY_ONE, iv (1 : Int32), iv (1 : Int32), iv (1 : Int32)] [(.int (1 : Int32)), (.int (1 : Int32))])) (fun t k => XS.iload X47.here hx rfl (hb hby at_129) rfl k) ?_
        refine own_pre (T' := T47) (f' := (mkF m 134 #[iv p1, iv p2, iv p3, iv (2 : Int32), rv w_EXACTLY_ONE, iv (1 : Int32), iv (1 : Int32), iv (1 : Int32)] [])) (fun t k => XS.icmpNo X47.here hx rfl (hb hby at_131) rfl (teq (by decide : (1 : Int32) = (1 : Int32))).2 k) ?_
        refine own_pre (T' := T47) (f' := (mkF m 135 #[iv p1, iv p2, iv p3, iv (2 : Int32), rv w_EXACTLY_ONE, iv (1 : Int32), iv (1 : Int32), iv (1 : Int32)] [(.int (1 : Int32))])) (fun t k => XS.iconst X47.here hx rfl (hb hby at_134) k) ?_
        refine own_pre (T' := T47) (f' := (mkF m 139 #[iv p1, iv p2, iv p3, iv (2 : Int32), rv w_EXACTLY_ONE, iv (1 : Int32), iv (1 : Int32), iv (1 : Int32)] [(.int (1 : Int32))])) (fun t k => XS.goto X47.here hx rfl (pc0 := 135) (pc' := 139) rfl (hb hby at_135) (by decide) (by decide) k) ?_
        exact own_retZ X47 hx hlk hret (hb hby at_139) rfl (⟨rfl, Fr.nil _⟩) (by decide) (by decide)
set_option maxRecDepth 65536 in
set_option maxHeartbeats 40000000 in
theorem comes_1 {Post : Tables → Env → Array Value → State → Outcome → State → Prop} (hpost : ∀ tb e args s v u, (limb_1_1.after args s (.returned v) u = true ∧ limb_1_2.after args s (.returned v) u = true ∧ True) → FrameEnd s (.returned v) u (Jvm.fieldLocs frame_1_writes args s ++ Jvm.arrayLocs frame_1_arrays args s ++ Jvm.staticLocs frame_1_statics s) 0 0 → Post tb e args s (.returned v) u) :
    ArmFor flags0 classFile x code maxLocals ret World_1 tables_1 room_1 Calls_1 rest_1 Pre_1 Post := by
  intro l hfl _ _ p e ha hc hk s m args below hf hA hF happ hP
  obtain ⟨hcalls, hrest, hpre⟩ := hP
  obtain ⟨-, -, -, hnamed, -, -, -, hat⟩ := (Spec.applies_iff hf).mp happ
  obtain ⟨hg, hn⟩ := and_e (Cond.before_iff.mp (show (Jvm.Cond.and given_1 narrow_1).before args s = true from hpre))
  obtain ⟨gv0, gr0⟩ := and_e hg
  obtain ⟨gv1, gr1⟩ := and_e gr0
  obtain ⟨gv2, gr2⟩ := and_e gr1
  obtain ⟨w0, w1, w2, rfl⟩ : ∃ w0 w1 w2 : Value, args = #[w0, w1, w2] := by
    have hs : args.size = 3 := by simpa [Cond.value, given_1] using gv0
    obtain ⟨L⟩ := args
    match L, hs with
    | [w0, w1, w2], _ => exact ⟨w0, w1, w2, rfl⟩
  have hw := fun d (hd : d ∈ tables_1) => atoms_spec (ws := Jvm.Cond.code x code maxLocals ret :: tables_1) hat d (List.mem_cons_of_mem _ hd)
  have hfit : Fit s := fun {y c} hc i hi => by
    obtain ⟨ha, rfl⟩ := Array.getElem?_eq_some_iff.mp hc
    have q := List.all_eq_true.mp ((Array.all_eq_true_iff_forall_mem.mp hF) _ (Array.getElem_mem ha)) i (List.mem_range.mpr hi)
    simpa [Array.getElem?_eq_getElem hi] using q
  obtain ⟨i0, ei0⟩ := is_v gv1
  obtain rfl : w0 = (.int i0) := Option.some.inj ei0
  obtain ⟨i1, ei1⟩ := is_v gv2
  obtain rfl : w1 = (.int i1) := Option.some.inj ei1
  obtain ⟨i2, ei2⟩ := is_v gr2
  obtain rfl : w2 = (.int i2) := Option.some.inj ei2
  obtain ⟨nw0, nr0⟩ := and_e hn
  obtain ⟨nw1, nr1⟩ := and_e nr0
  obtain ⟨nw2, nr2⟩ := and_e nr1
  obtain ⟨nw3, nr3⟩ := and_e nr2
  obtain ⟨nw4, nr4⟩ := and_e nr3
  obtain ⟨w_BOTH, ev_BOTH⟩ := exa_v nw0
  obtain ⟨w_FIRST_ONLY, ev_FIRST_ONLY⟩ := exa_v nw1
  obtain ⟨w_EXACTLY_ONE, ev_EXACTLY_ONE⟩ := exa_v nw4
  have F : own_F s s.heap w_BOTH w_FIRST_ONLY w_EXACTLY_ONE := ⟨Sta.start ev_BOTH (Or.inr ⟨(hw _ (List.mem_of_getElem? (i := 2) rfl)), (hw _ (List.mem_of_getElem? (i := 3) rfl))⟩), Exa.start ev_BOTH nw0, Sta.start ev_FIRST_ONLY (Or.inr ⟨(hw _ (List.mem_of_getElem? (i := 2) rfl)), (hw _ (List.mem_of_getElem? (i := 15) rfl))⟩), Exa.start ev_FIRST_ONLY nw1, Sta.start ev_EXACTLY_ONE (Or.inr ⟨(hw _ (List.mem_of_getElem? (i := 2) rfl)), (hw _ (List.mem_of_getElem? (i := 18) rfl))⟩), Exa.start ev_EXACTLY_ONE nw4, Fld.start ((fld_at ev_FIRST_ONLY).symm.trans (own_eqI nw2)), Fld.start ((fld_at ev_BOTH).symm.trans (own_eqI nw3)), Fld.start ((fld_at ev_EXACTLY_ONE).symm.trans (own_eqI nr4))⟩
  obtain ⟨n, o, h1, h2, h3, _, L, rfl, ⟨rfl, N⟩, hq⟩ := own_law l s _ hw tables_1 w_BOTH w_FIRST_ONLY w_EXACTLY_ONE s.heap F i0 i1 i2  p e ha hc hk s m _ below hf ((Spec.applies_iff_loose hf).mp happ).1 ⟨rfl, State.Warmed39.refl s, rfl⟩ trivial
  refine ⟨n, _, h1, h2, h3, hpost _ _ _ _ _ _ ⟨Cond.after_iff.mpr rfl, Cond.after_iff.mpr (eq_i res_at (Term.int_eval (1)) rfl), trivial⟩ ⟨hq.1, hq.2.1, (hq.2.2.sift fun y hy => Or.inr (N y hy)).mono (by decide) (by decide)⟩⟩
theorem main_1_1 : Claimed_1_1 := comes_1 fun _ _ _ _ _ _ h hF => ⟨h.1, hF⟩
theorem main_1_2 : Claimed_1_2 := comes_1 fun _ _ _ _ _ _ h hF => ⟨h.2.1, hF⟩
end Jvm.Pilot.@@N@@
namespace Jvm.Pilot.@@N@@
open Jvm Jvm.ClassFile Sem Op Lib Jvm.Free Jvm.Stand Jvm.Pilot.@@N@@.Jvm.D
/-! MADE BY PROGRAM (witnessworld.py) out of the Statement's table words and the real class files: 10 classes; the members and pool entries that the words name. The judged class is class 1, her method 2. -/
namespace start1
open Jvm.ClassFile
def u (s : String) : CpInfo := .utf8 (stringToUtf16 s)
/-- a pool by its gaps: so many unusable entries, then the entry; so many at the end -/
def gap : Nat → List CpInfo → List CpInfo
  | 0, r => r
  | n + 1, r => .unusable :: gap n r
def poolList (es : List (Nat × CpInfo)) (last : Nat) : List CpInfo := es.foldr (fun e r => gap e.1 (e.2 :: r)) (gap last [])
def pool (es : List (Nat × CpInfo)) (last : Nat) : Array CpInfo := ⟨poolList es last⟩
def fileOf (pool : Array CpInfo) (this : Nat) (attrs : Array Attribute := #[]) (ms : Array MethodInfo := #[]) (fl : Nat := 33) (sup : Nat := 0) (ifs : Array Nat := #[]) (fds : Array FieldInfo := #[]) : ClassFile where
  minorVersion := 0
  majorVersion := 65
  constantPool := pool
  accessFlags := fl
  thisClass := this
  superClass := sup
  interfaces := ifs
  fields := fds
  methods := ms
  attributes := attrs
def plain (name : String) (sup : Option ClassId) : Class where
  name := name
  kind := .ordinary
  loader := none
  accessFlags := 33
  super := sup
  interfaces := #[]
  cf := none
  fields := #[]
  methods := #[]
  instanceTypes := #[]
  staticTypes := #[]
  resolved := #[]
  callSites := []
  init := .initialized
  statics := none
  mirror := none

def pool0 : Array CpInfo := pool [(5, u "<init>"), (0, u "()V"), (1, .class_ 10), (1, u "java/lang/Object")] 113

def k0m0 : Method := { name := "<init>", desc := "()V", sig := { parameters := [], returnType := none }, accessFlags := 1, code := none }
/-- java/lang/Object -/
def k0 : Class := { plain "java/lang/Object" none with
  accessFlags := 33
  interfaces := #[]
  cf := some (fileOf pool0 8 #[] #[{ accessFlags := 1, nameIndex := 5, descriptorIndex := 6, attributes := #[] }] 33 0 #[] #[])
  fields := #[]
  methods := #[k0m0]
  instanceTypes := #[]
  staticTypes := #[]
  resolved := Array.replicate 124 none
  statics := none }

def pool1 : Array CpInfo := pool [(2, .class_ 4), (1, u "java/lang/Object"), (0, u "<init>"), (0, u "()V"), (0, .integer 2147483647), (0, .fieldref 9 10), (0, .class_ 11), (0, .nameAndType 12 13), (0, u "com/example/witness/witness/pattern/Dfa$Combination"), (0, u "BOTH"), (0, u "Lcom/example/witness/witness/pattern/Dfa$Combination;"), (0, .fieldref 9 15), (0, .nameAndType 16 13), (0, u "FIRST_ONLY"), (0, .fieldref 9 18), (0, .nameAndType 19 13), (0, u "EXACTLY_ONE"), (0, .methodref 21 22), (0, .class_ 23), (0, .nameAndType 24 25), (0, u "com/example/witness/witness/pattern/CombinationGoesOnPinLaw"), (0, u "rule"), (0, u "(IZZ)Z"), (0, .methodref 9 27), (0, .nameAndType 28 29), (0, u "goesOn"), (0, u "(II)Z"), (3, u "law"), (0, u "(III)Z")] 6

def k1m0 : Method := { name := "<init>", desc := "()V", sig := { parameters := [], returnType := none }, accessFlags := 2, code := none }
def k1c1 : Code := { maxStack := 2, maxLocals := 3, code := method_2_code, exceptionTable := #[], attributes := #[] }
def k1m1 : Method := { name := "rule", desc := "(IZZ)Z", sig := { parameters := [.int, .boolean, .boolean], returnType := some .boolean }, accessFlags := 10, code := some k1c1 }
def k1c2 : Code := { maxStack := 3, maxLocals := 8, code := code, exceptionTable := #[], attributes := #[] }
def k1m2 : Method := { name := "law", desc := "(III)Z", sig := { parameters := [.int, .int, .int], returnType := some .boolean }, accessFlags := 9, code := some k1c2 }
/-- com/example/witness/witness/pattern/CombinationGoesOnPinLaw -/
def k1 : Class := { plain "com/example/witness/witness/pattern/CombinationGoesOnPinLaw" (some 0) with
  accessFlags := 49
  interfaces := #[]
  cf := some (fileOf pool1 21 #[] #[{ accessFlags := 2, nameIndex := 5, descriptorIndex := 6, attributes := #[] }, { accessFlags := 10, nameIndex := 24, descriptorIndex := 25, attributes := #[] }, { accessFlags := 9, nameIndex := 33, descriptorIndex := 34, attributes := #[] }] 49 2 #[] #[])
  fields := #[]
  methods := #[k1m0, k1m1, k1m2]
  instanceTypes := #[]
  staticTypes := #[]
  resolved := Array.replicate 41 none
  statics := none }

def pool2 : Array CpInfo := pool [(1, .class_ 2), (0, u "java/lang/constant/Constable"), (0, .class_ 4), (0, u "java/lang/Object")] 6

/-- java/lang/constant/Constable -/
def k2 : Class := { plain "java/lang/constant/Constable" (some 0) with
  accessFlags := 1537
  interfaces := #[]
  cf := some (fileOf pool2 1 #[] #[] 1537 3 #[] #[])
  fields := #[]
  methods := #[]
  instanceTypes := #[]
  staticTypes := #[]
  resolved := Array.replicate 11 none
  statics := none }

def pool3 : Array CpInfo := pool [(1, .class_ 2), (0, u "java/lang/Comparable"), (0, .class_ 4), (0, u "java/lang/Object")] 7

/-- java/lang/Comparable -/
def k3 : Class := { plain "java/lang/Comparable" (some 0) with
  accessFlags := 1537
  interfaces := #[]
  cf := some (fileOf pool3 1 #[] #[] 1537 3 #[] #[])
  fields := #[]
  methods := #[]
  instanceTypes := #[]
  staticTypes := #[]
  resolved := Array.replicate 12 none
  statics := none }

def pool4 : Array CpInfo := pool [(1, .class_ 2), (0, u "java/io/Serializable"), (0, .class_ 4), (0, u "java/lang/Object")] 2

/-- java/io/Serializable -/
def k4 : Class := { plain "java/io/Serializable" (some 0) with
  accessFlags := 1537
  interfaces := #[]
  cf := some (fileOf pool4 1 #[] #[] 1537 3 #[] #[])
  fields := #[]
  methods := #[]
  instanceTypes := #[]
  staticTypes := #[]
  resolved := Array.replicate 7 none
  statics := none }

def pool5 : Array CpInfo := pool [(2, .class_ 4), (1, u "java/lang/Enum"), (0, u "name"), (0, u "Ljava/lang/String;"), (2, u "ordinal"), (0, u "I"), (1, .class_ 14), (1, u "java/lang/Object"), (4, u "hash"), (86, .class_ 108), (1, u "java/lang/Enum$EnumDesc"), (2, .class_ 112), (0, u "java/lang/constant/Constable"), (0, .class_ 114), (0, u "java/lang/Comparable"), (0, .class_ 116), (0, u "java/io/Serializable")] 87

/-- java/lang/Enum -/
def k5 : Class := { plain "java/lang/Enum" (some 0) with
  accessFlags := 1057
  interfaces := #[2, 3, 4]
  cf := some (fileOf pool5 2 #[.nestMembers #[106]] #[] 1057 12 #[111, 113, 115] #[{ accessFlags := 18, nameIndex := 5, descriptorIndex := 6, attributes := #[] }, { accessFlags := 18, nameIndex := 9, descriptorIndex := 10, attributes := #[] }, { accessFlags := 2, nameIndex := 19, descriptorIndex := 10, attributes := #[] }])
  fields := #[{ name := "name", type := (.object "java/lang/String"), accessFlags := 18, slot := 0, constantValue := 0 }, { name := "ordinal", type := .int, accessFlags := 18, slot := 1, constantValue := 0 }, { name := "hash", type := .int, accessFlags := 2, slot := 2, constantValue := 0 }]
  methods := #[]
  instanceTypes := #[(.object "java/lang/String"), .int, .int]
  staticTypes := #[]
  resolved := Array.replicate 204 none
  statics := none }

def pool6 : Array CpInfo := pool [(1, .class_ 2), (0, u "com/example/witness/witness/pattern/Dfa$Combination"), (0, .fieldref 1 4), (0, .nameAndType 5 6), (0, u "BOTH"), (0, u "Lcom/example/witness/witness/pattern/Dfa$Combination;"), (0, .fieldref 1 8), (0, .nameAndType 9 6), (0, u "FIRST_ONLY"), (2, u "EXACTLY_ONE"), (2, u "$VALUES"), (0, u "[Lcom/example/witness/witness/pattern/Dfa$Combination;"), (6, .class_ 25), (1, u "java/lang/Enum"), (24, u "goesOn"), (0, u "(II)Z"), (5, .class_ 58), (0, u "com/example/witness/witness/pattern/Dfa")] 2

def k6c0 : Code := { maxStack := 2, maxLocals := 4, code := prog_16_method_5_code, exceptionTable := #[], attributes := #[] }
def k6m0 : Method := { name := "goesOn", desc := "(II)Z", sig := { parameters := [.int, .int], returnType := some .boolean }, accessFlags := 0, code := some k6c0 }
/-- com/example/witness/witness/pattern/Dfa$Combination -/
def k6 : Class := { plain "com/example/witness/witness/pattern/Dfa$Combination" (some 5) with
  accessFlags := 16432
  interfaces := #[]
  cf := some (fileOf pool6 1 #[.nestHost 57] #[{ accessFlags := 0, nameIndex := 50, descriptorIndex := 51, attributes := #[] }] 16432 23 #[] #[{ accessFlags := 16409, nameIndex := 5, descriptorIndex := 6, attributes := #[] }, { accessFlags := 16409, nameIndex := 9, descriptorIndex := 6, attributes := #[] }, { accessFlags := 16409, nameIndex := 12, descriptorIndex := 6, attributes := #[] }, { accessFlags := 4122, nameIndex := 15, descriptorIndex := 16, attributes := #[] }])
  fields := #[{ name := "BOTH", type := (.object "com/example/witness/witness/pattern/Dfa$Combination"), accessFlags := 16409, slot := 0, constantValue := 0 }, { name := "FIRST_ONLY", type := (.object "com/example/witness/witness/pattern/Dfa$Combination"), accessFlags := 16409, slot := 1, constantValue := 0 }, { name := "EXACTLY_ONE", type := (.object "com/example/witness/witness/pattern/Dfa$Combination"), accessFlags := 16409, slot := 2, constantValue := 0 }, { name := "$VALUES", type := (.array (.object "com/example/witness/witness/pattern/Dfa$Combination")), accessFlags := 4122, slot := 3, constantValue := 0 }]
  methods := #[k6m0]
  instanceTypes := #[(.object "java/lang/String"), .int, .int]
  staticTypes := #[(.object "com/example/witness/witness/pattern/Dfa$Combination"), (.object "com/example/witness/witness/pattern/Dfa$Combination"), (.object "com/example/witness/witness/pattern/Dfa$Combination"), (.array (.object "com/example/witness/witness/pattern/Dfa$Combination"))]
  resolved := Array.replicate 61 none
  statics := some 0 }

def pool7 : Array CpInfo := pool [(1, u "java/lang/Cloneable"), (0, .class_ 1), (0, u "java/lang/Object"), (0, .class_ 3)] 3

/-- java/lang/Cloneable -/
def k7 : Class := { plain "java/lang/Cloneable" (some 0) with
  accessFlags := 1537
  interfaces := #[]
  cf := some (fileOf pool7 2 #[] #[] 1537 4 #[] #[])
  fields := #[]
  methods := #[]
  instanceTypes := #[]
  staticTypes := #[]
  resolved := Array.replicate 8 none
  statics := none }

/-- the primitive byte -/
def k8 : Class := { plain "byte" none with kind := .primitive 'B', accessFlags := 0x411 }
/-- [B -/
def k9 : Class := { plain "[B" (some 0) with kind := .array 8 .byte, interfaces := #[7, 4], accessFlags := 1041 }

def heap : Heap := #[{ cls := 6, slots := #[.ref 1, .ref 2, .ref 3, .null], vm := .statics 6 },
  { cls := 6, slots := #[.null, .int 0, .int 0], vm := .none },
  { cls := 6, slots := #[.null, .int 1, .int 0], vm := .none },
  { cls := 6, slots := #[.null, .int 2, .int 0], vm := .none }]
def classes : Array Class := #[k0, k1, k2, k3, k4, k5, k6, k7, k8, k9]
def interned : List (Array UInt16 × Addr) := []
def slotsUsed : Nat := 13
def theMethod : MethodId := ⟨1, 2⟩
def args0 : Array Value := #[.int 5, .int 5, .int 5]
def aboutOver (below : List Frame) : State where
  vm := { classes := classes, interned := interned.toArray }
  heap := heap
  slotsUsed := slotsUsed
  threads := #[{ frames := .invoking theMethod args0 :: below }]
def below0 : List Frame := [.native { method := ⟨0, 0⟩, args := #[] }]
def about1 : State := aboutOver below0
def p0 : Program := .bare "" "" ""
def e0 : Env := launch0.env 0 0 0
theorem w_frames : about1.frames = Frame.invoking theMethod args0 :: below0 := rfl
set_option maxRecDepth 65536 in
theorem w_args : argsFit about1.vm theMethod args0 = true := by decide +kernel
set_option maxRecDepth 65536 in
theorem w_heap : heapFits about1 = true := by decide +kernel
set_option maxRecDepth 65536 in
theorem w_runnable : about1.curStatus? = some .runnable := by decide +kernel
set_option maxRecDepth 65536 in
theorem w_alone : about1.alone = true := by decide +kernel
set_option maxRecDepth 65536 in
theorem w_named : about1.methodNamed? x = some theMethod := by decide +kernel
set_option maxRecDepth 65536 in
theorem w_hears : about1.hears theMethod below0 = true := by decide +kernel
set_option maxRecDepth 65536 in
theorem w_ripe : about1.ripe theMethod args0 below0 = true := by decide +kernel
theorem w_running : about1.status = .running := rfl
set_option maxRecDepth 65536 in
theorem w_room : about1.hasRoom e0.platform room_1 = true :=
  launch0.hasRoom_least _ room_1 (by decide +kernel) (by decide +kernel) (by decide +kernel) (by decide +kernel) (by decide +kernel) (by decide +kernel)
theorem allAtoms_all (ts : List Jvm.Cond) (a : Array Jvm.Value) (st : Jvm.State) : (allAtoms ts).before a st = ts.all (fun c => c.before a st) := by
  induction ts with
  | nil => rfl
  | cons c t ih =>
    show (Jvm.Cond.and c (allAtoms t)).before a st = _
    rw [Jvm.Cond.before_and, ih, List.all_cons]
def words1 : List Jvm.Cond := Jvm.Cond.code x code maxLocals ret :: tables_1
/-- a 'code' word, met by the world's own term for the bytes: nothing is compared byte by byte -/
theorem code_word {y : MethodName} {bytes : ByteArray} {mx : Nat} {rt : Option FieldType} {a : Array Value} {s : State} {m : MethodId} {meth : Method} {c : Code} (h1 : s.methodNamed? y = some m) (h2 : s.vm.method? m = some meth) (h3 : meth.code = some c) (h4 : c.code = bytes)
    (h5 : (c.maxLocals == mx && c.exceptionTable.isEmpty && decide (c.maxStack ≤ mostOperands) && decide (meth.sig.returnType = rt) && !meth.locks && decide (parseMethodDescriptor y.desc = some meth.sig)) = true) : (Jvm.Cond.code y bytes mx rt).before a s = true := by
  simp only [Bool.and_eq_true, beq_iff_eq, Bool.not_eq_true', decide_eq_true_eq] at h5
  obtain ⟨⟨⟨⟨⟨g1, g2⟩, g3⟩, g4⟩, g5⟩, g6⟩ := h5
  simp [Cond.before, Cond.holds, Cond.value, h1, h2, h3, h4, g1, g2, g3, g4, g5, g6]
def isCode : Jvm.Cond → Bool
  | .code _ _ _ _ => true
  | _ => false
theorem all_split {L : List Jvm.Cond} {P : Jvm.Cond → Bool} (h1 : L.all (fun c => isCode c || P c) = true) (h2 : ∀ c ∈ L.filter isCode, P c = true) : L.all P = true := by
  refine List.all_eq_true.mpr fun c hc => ?_
  have h := List.all_eq_true.mp h1 c hc
  rcases Bool.eq_false_or_eq_true (isCode c) with hi | hi
  · exact h2 c (List.mem_filter.mpr ⟨hc, hi⟩)
  · simpa [hi] using h
set_option maxRecDepth 65536 in
theorem w_c0 : (Jvm.Cond.code x code maxLocals ret).before args0 about1 = true := code_word (m := ⟨1, 2⟩) (meth := k1m2) (c := k1c2) (by decide +kernel) rfl rfl rfl (by decide +kernel)
set_option maxRecDepth 65536 in
theorem w_c1 : (Jvm.Cond.code ({ cls := "com/example/witness/witness/pattern/CombinationGoesOnPinLaw", name := "rule", desc := "(IZZ)Z" } : Jvm.MethodName) method_2_code (3 : Nat) (Option.some Jvm.ClassFile.FieldType.boolean)).before args0 about1 = true := code_word (m := ⟨1, 1⟩) (meth := k1m1) (c := k1c1) (by decide +kernel) rfl rfl rfl (by decide +kernel)
set_option maxRecDepth 65536 in
theorem w_c2 : (Jvm.Cond.code ({ cls := "com/example/witness/witness/pattern/Dfa$Combination", name := "goesOn", desc := "(II)Z" } : Jvm.MethodName) prog_16_method_5_code (4 : Nat) (Option.some Jvm.ClassFile.FieldType.boolean)).before args0 about1 = true := code_word (m := ⟨6, 0⟩) (meth := k6m0) (c := k6c0) (by decide +kernel) rfl rfl rfl (by decide +kernel)
def codes1 : List Jvm.Cond := [Jvm.Cond.code x code maxLocals ret, Jvm.Cond.code ({ cls := "com/example/witness/witness/pattern/CombinationGoesOnPinLaw", name := "rule", desc := "(IZZ)Z" } : Jvm.MethodName) method_2_code (3 : Nat) (Option.some Jvm.ClassFile.FieldType.boolean), Jvm.Cond.code ({ cls := "com/example/witness/witness/pattern/Dfa$Combination", name := "goesOn", desc := "(II)Z" } : Jvm.MethodName) prog_16_method_5_code (4 : Nat) (Option.some Jvm.ClassFile.FieldType.boolean)]
set_option maxRecDepth 65536 in
theorem codes_eq : words1.filter isCode = codes1 := rfl
theorem w_codes : ∀ c ∈ words1.filter isCode, c.before args0 about1 = true := by
  rw [codes_eq]
  intro c hc
  simp only [codes1, List.mem_cons, List.not_mem_nil, or_false] at hc
  rcases hc with rfl | rfl | rfl
  · exact w_c0
  · exact w_c1
  · exact w_c2
set_option maxRecDepth 65536 in
theorem w_t1 : words1.all (fun c => isCode c || c.before args0 about1) = true := by decide +kernel
theorem w_tables : (allAtoms (Jvm.Cond.code x code maxLocals ret :: tables_1)).before args0 about1 = true := by
  rw [allAtoms_all]
  show words1.all (fun c => c.before args0 about1) = true
  refine all_split ?_ w_codes
  rw [w_t1]
set_option maxRecDepth 65536 in
theorem w_case : (Jvm.Cond.and given_1 narrow_1).before args0 about1 = true := by decide +kernel
theorem w_applies : (headSpec (Jvm.Cond.code x code maxLocals ret :: tables_1) room_1).applies x e0.platform about1 = true :=
  (Spec.applies_iff w_frames).mpr ⟨w_running, w_runnable, w_alone, w_named, w_hears, w_ripe, w_room, w_tables⟩
theorem atStart : AtStart classFile x code maxLocals ret World_1 tables_1 room_1 Calls_1 rest_1 Pre_1 launch0 p0 e0 about1 theMethod args0 below0 :=
  ⟨lists_1, trivial, launch0.admits_env _ _ _, launch0.least_env, fairChoices_fair.cas, fairChoices_fair.clock, w_frames, w_args, w_heap, w_applies, trivial, trivial, w_case⟩
end start1
theorem witness_1 : WitnessClaimed_1 := ⟨start1.p0, start1.e0, start1.about1, start1.theMethod, start1.args0, start1.below0, start1.atStart⟩
end Jvm.Pilot.@@N@@
