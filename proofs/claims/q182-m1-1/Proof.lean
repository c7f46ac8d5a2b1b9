import JvmDerived
import JvmDerived.Pilot.@@N@@Statement
import JvmDerived.Pilot.@@N@@Code
set_option linter.unusedVariables false
set_option linter.unusedSimpArgs false
namespace Jvm.RoadKit
open Sem ClassFile Op Lib Jvm.Stand Jvm.Free Jvm.LawKit
section OwnKit
variable {p : Program} {l : Launch} {e : Env} {R : Room} {s : State} {m : MethodId} {args : Array Value} {below : List Frame} {meth : Method} {c : Code} {T : State} {locs : List Loc} {cells slots : Nat} {Z : State} {a0 : Array Value} {Q : Option Value → Heap → List Loc → Prop} {kc ks : Nat}
/-- the run from A ends, returns, and leaves what Q says -/
def own_Fin (p : Program) (e : Env) (below : List Frame) (s : State) (Q : Option Value → Heap → List Loc → Prop) (kc ks : Nat) (A : State) : Prop :=
  ∃ s₂ o, Steps p.tables e below A s₂ ∧ s₂.status = .running ∧ Ended s₂ below o ∧ ∃ v L, o = .returned v ∧ Q v s₂.heap L ∧ FrameEnd s o s₂ L kc ks
theorem own_go {A A' : State} (h : ∀ t, Steps p.tables e below A' t → Steps p.tables e below A t) (k : own_Fin p e below s Q kc ks A') : own_Fin p e below s Q kc ks A := by
  obtain ⟨s₂, o, h1, r⟩ := k
  exact ⟨s₂, o, h _ h1, r⟩
theorem own_to {A A' : State} (h : Steps p.tables e below A A') (k : own_Fin p e below s Q kc ks A') : own_Fin p e below s Q kc ks A := own_go (fun _ q => h.trans q) k
theorem own_mono {A : State} {Q' : Option Value → Heap → List Loc → Prop} (k : own_Fin p e below s Q kc ks A) (q : ∀ v h L, Q v h L → Q' v h L) : own_Fin p e below s Q' kc ks A := by
  obtain ⟨s₂, o, h1, h2, h3, v, L, h4, h5, h6⟩ := k
  exact ⟨s₂, o, h1, h2, h3, v, L, h4, q _ _ _ h5, h6⟩
/-- what a body knows of itself -/
def own_Ctx (p : Program) (s : State) (m : MethodId) (meth : Method) (c : Code) (Z : State) (a0 : Array Value) (tb : List Cond) (y : MethodName) (bytes : ByteArray) (maxL : Nat) (ret : Option FieldType) : Prop :=
  p.tables.exec = Jvm.exec ∧ c.code = bytes ∧ c.maxLocals = maxL ∧ Z.Warmed39 s.vm ∧ s.vm.findClass y.cls = some m.cls ∧ meth.name = y.name ∧ meth.sig.returnType = ret ∧ meth.locks = false ∧ (∀ d ∈ tb, d.before a0 Z = true)
/-- a contract -/
def own_Met (l : Launch) (Z : State) (y : MethodName) (bytes : ByteArray) (maxL : Nat) (ret : Option FieldType) (ws : List Cond) (rm : Room) (as' : Array Value) (h0 : Heap) (Q : Option Value → Heap → List Loc → Prop) : Prop :=
  MetFree l y (head1 (Cond.code y bytes maxL ret :: ws) rm) (fun a U => a = as' ∧ Z.Warmed39 U.vm ∧ U.heap = h0) (fun _ _ _ _ _ => True) (fun _ U o U' => ∃ v L, o = .returned v ∧ Q v U'.heap L ∧ FrameEnd U o U' L rm.cells rm.slots)
theorem own_enter {y : MethodName} {bytes : ByteArray} {maxL : Nat} {ret : Option FieldType} {rm : Room} {as' : Array Value} {h0 : Heap} {ws tb : List Cond} {Ls : Array Slot} (hp : plainFor y = true) (hef : ∀ m, entryFrame m as' maxL = mkF m 0 Ls []) (hw : ∀ d ∈ tb, d.before a0 Z = true)
    (body : ∀ (p : Program) (e : Env) (s : State) (m : MethodId) (below : List Frame) (meth : Method) (c : Code) (T : State), Stand p l e rm s m as' below meth c T [] 0 0 → own_Ctx p s m meth c Z a0 tb y bytes maxL ret → T.heap = h0 → own_Fin p e below s Q rm.cells rm.slots (T.setTop (mkF m 0 Ls []))) :
    own_Met l Z y bytes maxL ret ws rm as' h0 Q := by
  refine MetFree.of_bodySF hp hisR ?_
  intro p e s m args below meth c s₁ Bd hml0 hP hK
  obtain ⟨rfl, hZ, hh⟩ := hP
  have e0 : s₁.heap = h0 := by rw [← hh, Bd.state]; rfl
  obtain ⟨s₂, o, h1, r⟩ := body p e s m below meth c s₁ (Stand.of_body Bd) ⟨Bd.exec, Bd.bytes, hml0, hZ, findClass_of_methodNamed Bd.named, (name_of_methodNamed Bd.named Bd.method).1, Bd.returns, Bd.notSynchronized, hw⟩ e0
  exact ⟨s₂, o, castTop (hef m) h1, r⟩
/-- a return of a value -/
theorem own_ret (X : Stand p l e R s m args below meth c T locs cells slots) (hlk : meth.locks = false) (hx : p.tables.exec = Jvm.exec) {pc : Nat} {Ls : Array Slot} {w : Value} {t : FieldType} {i : Instr} {rest : List Value} (hret : meth.sig.returnType = some t) (hn : narrow t w = w)
    (hi : (i = .ireturn ∧ (t = .int ∨ t = .boolean ∨ t = .byte ∨ t = .char ∨ t = .short) ∧ ∃ z, w = .int z) ∨ (i = .lreturn ∧ t = .long ∧ ∃ z, w = .long z) ∨ (i = .dreturn ∧ t = .double ∧ ∃ z, w = .double z) ∨ (i = .freturn ∧ t = .float ∧ ∃ z, w = .float z) ∨ (i = .areturn ∧ t.isReference = true ∧ w.isRef = true))
    (hd : decode c.code pc = .ok (i, 1)) (hq : Q (some w) T.heap locs) (hc : cells ≤ kc) (hs : slots ≤ ks) : own_Fin p e below s Q kc ks (T.setTop (mkF m pc Ls (w :: rest))) := by
  obtain ⟨fs, hr, hrun, hended, hW, hsame⟩ := X.leave (v := some w) (fun h => by rw [hret] at h; cases h) hlk
  exact ⟨_, _, retOut X hx hret hn hi hd hr, hrun, hended, _, _, rfl, hq, ⟨_, rfl⟩, hW, hsame.mono hc hs⟩
/-- a return of a boolean, byte, char, short that may be narrowed -/
theorem own_retN (X : Stand p l e R s m args below meth c T locs cells slots) (hlk : meth.locks = false) (hx : p.tables.exec = Jvm.exec) {pc : Nat} {Ls : Array Slot} {z : Int32} {t : FieldType} {rest : List Value} (hret : meth.sig.returnType = some t) (ht : t = .boolean ∨ t = .byte ∨ t = .char ∨ t = .short)
    (hd : decode c.code pc = .ok (.ireturn, 1)) (hq : Q (some (.int (nar t z))) T.heap locs) (hc : cells ≤ kc) (hs : slots ≤ ks) : own_Fin p e below s Q kc ks (T.setTop (mkF m pc Ls (.int z :: rest))) := by
  obtain ⟨fs, hr, hrun, hended, hW, hsame⟩ := X.leave (v := some (.int (nar t z))) (fun h => by rw [hret] at h; cases h) hlk
  exact ⟨_, _, retN X hx hret ht hd hr, hrun, hended, _, _, rfl, hq, ⟨_, rfl⟩, hW, hsame.mono hc hs⟩
/-- a return of nothing -/
theorem own_ret0 (X : Stand p l e R s m args below meth c T locs cells slots) (hlk : meth.locks = false) (hx : p.tables.exec = Jvm.exec) {pc : Nat} {Ls : Array Slot} (hret : meth.sig.returnType = none)
    (hd : decode c.code pc = .ok (.return_, 1)) (hq : Q none T.heap locs) (hc : cells ≤ kc) (hs : slots ≤ ks) : own_Fin p e below s Q kc ks (T.setTop (mkF m pc Ls [])) := by
  obtain ⟨fs, hr, hrun, hended, hW, hsame⟩ := X.leave (v := none) (fun _ => rfl) hlk
  exact ⟨_, _, X.returnOut hx hret hd hr, hrun, hended, _, _, rfl, hq, ⟨_, rfl⟩, hW, hsame.mono hc hs⟩
/-- calls by contract -/
theorem own_callS (X : Stand p l e R s m args below meth c T locs cells slots) (hx : p.tables.exec = Jvm.exec) (hZ : Z.Warmed39 s.vm) {h : Heap} (eT : T.heap = h) {own : String} {index : Nat} {y : MethodName} {bytes : ByteArray} {maxL : Nat} {ret : Option FieldType} (hown : s.vm.findClass own = some m.cls)
    (w1 : (Cond.methodLink own index y).before a0 Z = true) (w2 : (Cond.static y).before a0 Z = true) (w3 : (Cond.initialized y.cls).before a0 Z = true) (w4 : (Cond.code y bytes maxL ret).before a0 Z = true) (hy : y.cls ≠ "java/lang/invoke/MethodHandle" ∧ y.cls ≠ "java/lang/invoke/VarHandle")
    {rm : Room} {argsL rest : List Value} (hM : own_Met l Z y bytes maxL ret [] rm argsL.toArray h Q) (hf : rm.frames + 1 ≤ R.frames) (W : Nat) (hl : W + (maxL + 11) + rm.locals ≤ R.locals) (hcR : cells + rm.cells ≤ R.cells) (hsR : slots + rm.slots ≤ R.slots)
    {g : JFrame} (hg : g.method = m) (hsize : g.locals.size = c.maxLocals) (hlen : ∀ sig, parseMethodDescriptor y.desc = some sig → argsL.length = sig.parameters.length) (hstack : g.stack = argsL.reverse ++ rest) (hW : 2 * g.monitorRoom + (rest.map fun v => v.category).sum ≤ W) (hdg : decode c.code g.pc = .ok (.invokestatic index, 3)) :
    ∃ v T' L, Stand p l e R s m args below meth c T' (locs ++ L) (cells + rm.cells) (slots + rm.slots) ∧ Q v T'.heap L ∧ ∀ target, Steps p.tables e below (T'.setTop { g with pc := g.pc + 3, stack := v.toList ++ rest }) target → Steps p.tables e below (T.setTop g) target := by
  obtain ⟨v, _, ⟨T', L', k', n'⟩, -, X', ⟨L, hQ, l1, y1, z1⟩, st⟩ := Jvm.LawKit.callS X hx hown (mvT hZ w1) (mvT hZ w2) (mvT hZ w3) (mvT hZ w4) hy (backOf (W := W) hM hZ w4 w3 hf hl) hg hsize hlen hstack hW hdg (fun _ _ => ⟨rfl, eT, hcR, hsR⟩)
  dsimp only [Pt.U, Pt.locs, Pt.cells, Pt.slots] at X' l1 y1 z1 st hQ
  subst l1 y1 z1
  exact ⟨v, T', L, X', hQ, st⟩
/-- a result, and nothing else -/
def own_QP (r : Option Value) (h0 : Heap) (v : Option Value) (h : Heap) (L : List Loc) : Prop := v = r ∧ L = [] ∧ h = h0
theorem own_callP (X : Stand p l e R s m args below meth c T locs cells slots) (hx : p.tables.exec = Jvm.exec) (hZ : Z.Warmed39 s.vm) {h : Heap} (eT : T.heap = h) {own : String} {index : Nat} {y : MethodName} {bytes : ByteArray} {maxL : Nat} {ret : Option FieldType} (hown : s.vm.findClass own = some m.cls)
    (w1 : (Cond.methodLink own index y).before a0 Z = true) (w2 : (Cond.static y).before a0 Z = true) (w3 : (Cond.initialized y.cls).before a0 Z = true) (w4 : (Cond.code y bytes maxL ret).before a0 Z = true) (hy : y.cls ≠ "java/lang/invoke/MethodHandle" ∧ y.cls ≠ "java/lang/invoke/VarHandle")
    {fr lo : Nat} {r : Option Value} {argsL rest : List Value} (hM : own_Met l Z y bytes maxL ret [] { frames := fr, cells := 0, slots := 0, locals := lo } argsL.toArray h (own_QP r h)) (hf : fr + 1 ≤ R.frames) (W : Nat) (hl : W + (maxL + 11) + lo ≤ R.locals) (hcR : cells ≤ R.cells) (hsR : slots ≤ R.slots)
    {g : JFrame} (hg : g.method = m) (hsize : g.locals.size = c.maxLocals) (hlen : ∀ sig, parseMethodDescriptor y.desc = some sig → argsL.length = sig.parameters.length) (hstack : g.stack = argsL.reverse ++ rest) (hW : 2 * g.monitorRoom + (rest.map fun v => v.category).sum ≤ W) (hdg : decode c.code g.pc = .ok (.invokestatic index, 3)) :
    ∃ T', Stand p l e R s m args below meth c T' locs cells slots ∧ T'.heap = h ∧ ∀ target, Steps p.tables e below (T'.setTop { g with pc := g.pc + 3, stack := r.toList ++ rest }) target → Steps p.tables e below (T.setTop g) target := by
  obtain ⟨v, T', L, X', ⟨rfl, rfl, e1⟩, st⟩ := own_callS X hx hZ eT hown w1 w2 w3 w4 hy hM hf W hl hcR hsR hg hsize hlen hstack hW hdg
  rw [List.append_nil] at X'
  exact ⟨T', X', e1, st⟩
theorem own_callI (X : Stand p l e R s m args below meth c T locs cells slots) (hx : p.tables.exec = Jvm.exec) (hZ : Z.Warmed39 s.vm) {h : Heap} (eT : T.heap = h) {own : String} {index : Nat} {y : MethodName} {bytes : ByteArray} {maxL : Nat} (hy1 : y.name = "<init>") (hown : s.vm.findClass own = some m.cls)
    (w1 : (Cond.methodLink own index y).before a0 Z = true) (w2 : (Cond.instanceMethod y).before a0 Z = true) (w3 : (Cond.initialized y.cls).before a0 Z = true) (w4 : (Cond.code y bytes maxL none).before a0 Z = true) (hy : y.cls ≠ "java/lang/invoke/MethodHandle" ∧ y.cls ≠ "java/lang/invoke/VarHandle")
    {rm : Room} {a : Addr} {argsL rest : List Value} (hM : own_Met l Z y bytes maxL none [] rm (.ref a :: argsL).toArray h Q) (hf : rm.frames + 1 ≤ R.frames) (W : Nat) (hl : W + (maxL + 11) + rm.locals ≤ R.locals) (hcR : cells + rm.cells ≤ R.cells) (hsR : slots + rm.slots ≤ R.slots)
    {g : JFrame} (hg : g.method = m) (hsize : g.locals.size = c.maxLocals) (hlen : ∀ sig, parseMethodDescriptor y.desc = some sig → argsL.length = sig.parameters.length) (hstack : g.stack = argsL.reverse ++ .ref a :: rest) (hW : 2 * g.monitorRoom + (rest.map fun v => v.category).sum ≤ W) (hdg : decode c.code g.pc = .ok (.invokespecial index, 3)) :
    ∃ v T' L, Stand p l e R s m args below meth c T' (locs ++ L) (cells + rm.cells) (slots + rm.slots) ∧ Q v T'.heap L ∧ ∀ target, Steps p.tables e below (T'.setTop { g with pc := g.pc + 3, stack := v.toList ++ rest }) target → Steps p.tables e below (T.setTop g) target := by
  obtain ⟨v, _, ⟨T', L', k', n'⟩, -, X', ⟨L, hQ, l1, y1, z1⟩, st⟩ := X.specialBack hx hy1 hown (mvT hZ w1) (mvT hZ w2) (mvT hZ w4) hy (backOf (W := W) hM hZ w4 w3 hf hl) hg hsize (Steps.refl _) hlen hstack hW hdg (fun _ _ => ⟨rfl, eT, hcR, hsR⟩)
  dsimp only [Pt.U, Pt.locs, Pt.cells, Pt.slots] at X' l1 y1 z1 st hQ
  subst l1 y1 z1
  exact ⟨v, T', L, X', hQ, fun _ q => st.trans q⟩
theorem own_callIP (X : Stand p l e R s m args below meth c T locs cells slots) (hx : p.tables.exec = Jvm.exec) (hZ : Z.Warmed39 s.vm) {h : Heap} (eT : T.heap = h) {own : String} {index : Nat} {y : MethodName} {bytes : ByteArray} {maxL : Nat} (hy1 : y.name = "<init>") (hown : s.vm.findClass own = some m.cls)
    (w1 : (Cond.methodLink own index y).before a0 Z = true) (w2 : (Cond.instanceMethod y).before a0 Z = true) (w3 : (Cond.initialized y.cls).before a0 Z = true) (w4 : (Cond.code y bytes maxL none).before a0 Z = true) (hy : y.cls ≠ "java/lang/invoke/MethodHandle" ∧ y.cls ≠ "java/lang/invoke/VarHandle")
    {fr lo : Nat} {a : Addr} {argsL rest : List Value} (hM : own_Met l Z y bytes maxL none [] { frames := fr, cells := 0, slots := 0, locals := lo } (.ref a :: argsL).toArray h (own_QP none h)) (hf : fr + 1 ≤ R.frames) (W : Nat) (hl : W + (maxL + 11) + lo ≤ R.locals) (hcR : cells ≤ R.cells) (hsR : slots ≤ R.slots)
    {g : JFrame} (hg : g.method = m) (hsize : g.locals.size = c.maxLocals) (hlen : ∀ sig, parseMethodDescriptor y.desc = some sig → argsL.length = sig.parameters.length) (hstack : g.stack = argsL.reverse ++ .ref a :: rest) (hW : 2 * g.monitorRoom + (rest.map fun v => v.category).sum ≤ W) (hdg : decode c.code g.pc = .ok (.invokespecial index, 3)) :
    ∃ T', Stand p l e R s m args below meth c T' locs cells slots ∧ T'.heap = h ∧ ∀ target, Steps p.tables e below (T'.setTop { g with pc := g.pc + 3, stack := rest }) target → Steps p.tables e below (T.setTop g) target := by
  obtain ⟨v, T', L, X', ⟨rfl, rfl, e1⟩, st⟩ := own_callI X hx hZ eT hy1 hown w1 w2 w3 w4 hy hM hf W hl hcR hsR hg hsize hlen hstack hW hdg
  rw [List.append_nil] at X'
  exact ⟨T', X', e1, st⟩
theorem own_callV (X : Stand p l e R s m args below meth c T locs cells slots) (hx : p.tables.exec = Jvm.exec) (hZ : Z.Warmed39 s.vm) {h : Heap} (eT : T.heap = h) {own C : String} {index : Nat} {y : MethodName} {bytes : ByteArray} {maxL : Nat} {ret : Option FieldType} (hown : s.vm.findClass own = some m.cls)
    (w1 : (Cond.methodLink own index y).before a0 Z = true) (wd : (Cond.declares y).before a0 Z = true) (ws : (Cond.selects C y y).before a0 Z = true) (w2 : (Cond.instanceMethod y).before a0 Z = true) (w3 : (Cond.initialized y.cls).before a0 Z = true) (w4 : (Cond.code y bytes maxL ret).before a0 Z = true) (hy : y.cls ≠ "java/lang/invoke/MethodHandle" ∧ y.cls ≠ "java/lang/invoke/VarHandle")
    {rm : Room} {a : Addr} (hE : Exa Z h a C) {argsL rest : List Value} (hM : own_Met l Z y bytes maxL ret [] rm (.ref a :: argsL).toArray h Q) (hf : rm.frames + 1 ≤ R.frames) (W : Nat) (hl : W + (maxL + 11) + rm.locals ≤ R.locals) (hcR : cells + rm.cells ≤ R.cells) (hsR : slots + rm.slots ≤ R.slots)
    {g : JFrame} (hg : g.method = m) (hsize : g.locals.size = c.maxLocals) (hlen : ∀ sig, parseMethodDescriptor y.desc = some sig → argsL.length = sig.parameters.length) (hstack : g.stack = argsL.reverse ++ .ref a :: rest) (hW : 2 * g.monitorRoom + (rest.map fun v => v.category).sum ≤ W) (hdg : decode c.code g.pc = .ok (.invokevirtual index, 3)) :
    ∃ v T' L, Stand p l e R s m args below meth c T' (locs ++ L) (cells + rm.cells) (slots + rm.slots) ∧ Q v T'.heap L ∧ ∀ target, Steps p.tables e below (T'.setTop { g with pc := g.pc + 3, stack := v.toList ++ rest }) target → Steps p.tables e below (T.setTop g) target := by
  obtain ⟨cq, kq, qa, qb, qc⟩ := isOf hZ eT hE
  obtain ⟨v, _, ⟨T', L', k', n'⟩, -, X', ⟨L, hQ, l1, y1, z1⟩, st⟩ := X.virtualBack hx hown (mvT hZ w1) (mvT hZ wd) (notFace_of_selects (args := #[]) (mvT hZ ws)) (mvT hZ ws) (mvT hZ w2) hy (backOf (W := W) hM hZ w4 w3 hf hl) qa qc hg hsize (Steps.refl _) hlen hstack hW hdg (fun _ _ => ⟨rfl, eT, hcR, hsR⟩)
  dsimp only [Pt.U, Pt.locs, Pt.cells, Pt.slots] at X' l1 y1 z1 st hQ
  subst l1 y1 z1
  exact ⟨v, T', L, X', hQ, fun _ q => st.trans q⟩
/-- a virtual call that only reads -/
theorem own_callVP (X : Stand p l e R s m args below meth c T locs cells slots) (hx : p.tables.exec = Jvm.exec) (hZ : Z.Warmed39 s.vm) {h : Heap} (eT : T.heap = h) {own C : String} {index : Nat} {y : MethodName} {bytes : ByteArray} {maxL : Nat} {ret : Option FieldType} (hown : s.vm.findClass own = some m.cls)
    (w1 : (Cond.methodLink own index y).before a0 Z = true) (wd : (Cond.declares y).before a0 Z = true) (ws : (Cond.selects C y y).before a0 Z = true) (w2 : (Cond.instanceMethod y).before a0 Z = true) (w3 : (Cond.initialized y.cls).before a0 Z = true) (w4 : (Cond.code y bytes maxL ret).before a0 Z = true) (hy : y.cls ≠ "java/lang/invoke/MethodHandle" ∧ y.cls ≠ "java/lang/invoke/VarHandle")
    {fr lo : Nat} {r : Option Value} {a : Addr} (hE : Exa Z h a C) {argsL rest : List Value} (hM : own_Met l Z y bytes maxL ret [] { frames := fr, cells := 0, slots := 0, locals := lo } (.ref a :: argsL).toArray h (own_QP r h)) (hf : fr + 1 ≤ R.frames) (W : Nat) (hl : W + (maxL + 11) + lo ≤ R.locals) (hcR : cells ≤ R.cells) (hsR : slots ≤ R.slots)
    {g : JFrame} (hg : g.method = m) (hsize : g.locals.size = c.maxLocals) (hlen : ∀ sig, parseMethodDescriptor y.desc = some sig → argsL.length = sig.parameters.length) (hstack : g.stack = argsL.reverse ++ .ref a :: rest) (hW : 2 * g.monitorRoom + (rest.map fun v => v.category).sum ≤ W) (hdg : decode c.code g.pc = .ok (.invokevirtual index, 3)) :
    ∃ T', Stand p l e R s m args below meth c T' locs cells slots ∧ T'.heap = h ∧ ∀ target, Steps p.tables e below (T'.setTop { g with pc := g.pc + 3, stack := r.toList ++ rest }) target → Steps p.tables e below (T.setTop g) target := by
  obtain ⟨v, T', L, X', ⟨rfl, rfl, e1⟩, st⟩ := own_callV X hx hZ eT hown w1 wd ws w2 w3 w4 hy hE hM hf W hl hcR hsR hg hsize hlen hstack hW hdg
  rw [List.append_nil] at X'
  exact ⟨T', X', e1, st⟩
/-- an array of ints or bytes, its elements by a function -/
def own_A (Z : State) (h : Heap) (a : Addr) (ty : FieldType) (z : Int32) (f : Int32 → Int32) : Prop :=
  ∃ cl : Cell, Arr Z h a cl ty ∧ cl.slots.size = z.toNatClampNeg ∧ ¬ z < 0 ∧ ∀ j : Int32, ¬ j < 0 → j < z → cl.slots[j.toNatClampNeg]? = some (.int (f j))
section A
variable {h h' : Heap} {a b : Addr} {ty : FieldType} {z : Int32} {f : Int32 → Int32} {ws : List Addr} {sl : Nat} {v : Value}
theorem own_A.lt (F : own_A Z h a ty z f) : a < h.size := by obtain ⟨cl, A, -⟩ := F; exact A.lt
theorem own_A.ext (F : own_A Z h a ty z f) (E : Ext h h') : own_A Z h' a ty z f := by obtain ⟨cl, A, r⟩ := F; exact ⟨cl, A.ext E, r⟩
theorem own_A.other (F : own_A Z h a ty z f) (W : Wr h h' b sl v) (q : a ≠ b) : own_A Z h' a ty z f := by obtain ⟨cl, A, r⟩ := F; exact ⟨cl, A.other W q, r⟩
theorem own_A.keep (F : own_A Z h a ty z f) (K : Keep h h' ws) (q : a ∉ ws) : own_A Z h' a ty z f := by obtain ⟨cl, A, r⟩ := F; exact ⟨cl, ⟨K.2.1 a cl A.1 q, A.2⟩, r⟩
theorem own_A.cong (F : own_A Z h a ty z f) {f' : Int32 → Int32} (q : ∀ j : Int32, ¬ j < 0 → j < z → f j = f' j) : own_A Z h a ty z f' := by
  obtain ⟨cl, A, S, n, H⟩ := F
  exact ⟨cl, A, S, n, fun j h1 h2 => by rw [← q j h1 h2]; exact H j h1 h2⟩
theorem own_A.set (F : own_A Z h a ty z f) {j w : Int32} (h0 : ¬ j < 0) (hj : j < z) (W : Wr h h' a j.toNatClampNeg (.int w)) : own_A Z h' a ty z (fun i => if i = j then w else f i) := by
  obtain ⟨cl, A, S, n, H⟩ := F
  refine ⟨_, A.same W, by rw [sz_set]; exact S, n, fun i h1 h2 => ?_⟩
  by_cases q : i = j
  · rw [get_hit (inb_of S ⟨h0, hj⟩) q]; show _ = some (Value.int (if i = j then w else f i)); rw [if_pos q]
  · rw [get_miss h0 h1 q, H i h1 h2]; show _ = some (Value.int (if i = j then w else f i)); rw [if_neg q]
theorem own_A.new {k : ClassId} (A : Arr Z h a (newA k ty z) ty) (q : ¬ z < 0) (d : defaultValue ty = .int 0) : own_A Z h a ty z (fun _ => 0) :=
  ⟨_, A, sz_new _ _ _, q, fun j h1 h2 => by rw [get_new (by have := inb_of (sz_new k ty z) ⟨h1, h2⟩; rw [sz_new] at this; exact this), d]⟩
theorem own_A.nn (F : own_A Z h a ty z f) : ¬ z < 0 := by obtain ⟨cl, A, S, n, H⟩ := F; exact n
end A
theorem own_newI (X : Stand p l e R s m args below meth c T locs cells slots) (hx : p.tables.exec = Jvm.exec) (hZ : Z.Warmed39 s.vm) {h : Heap} (eT : T.heap = h) (w : (Cond.arrayClass .int).before a0 Z = true) {g : JFrame} (hg : g.method = m) (hd : decode c.code g.pc = .ok (.newarray .int, 2)) {n : Int32} {rest : List Value} (hs : g.stack = .int n :: rest)
    (hn : ¬ n < 0) (cap : Nat) (hcap : n.toNatClampNeg ≤ cap) (hb : cap * 8 ≤ 536870912) (hc : cells + 1 ≤ R.cells) (hl : slots + cap ≤ R.slots) :
    ∃ T' a, Stand p l e R s m args below meth c T' locs (cells + 1) (slots + cap) ∧ Ext h T'.heap ∧ a = h.size ∧ own_A Z T'.heap a .int n (fun _ => 0) ∧ ∀ target, Steps p.tables e below (T'.setTop { g with pc := g.pc + 2, stack := .ref a :: rest }) target → Steps p.tables e below (T.setTop g) target := by
  obtain ⟨T', h', cA, X', e1, E, A, st⟩ := newP (aty := .int) X hx hZ w eT hg hd hs hn hcap hb hc hl
  subst e1
  exact ⟨T', _, X', E, rfl, own_A.new A hn rfl, st⟩
theorem own_newB (X : Stand p l e R s m args below meth c T locs cells slots) (hx : p.tables.exec = Jvm.exec) (hZ : Z.Warmed39 s.vm) {h : Heap} (eT : T.heap = h) (w : (Cond.arrayClass .byte).before a0 Z = true) {g : JFrame} (hg : g.method = m) (hd : decode c.code g.pc = .ok (.newarray .byte, 2)) {n : Int32} {rest : List Value} (hs : g.stack = .int n :: rest)
    (hn : ¬ n < 0) (cap : Nat) (hcap : n.toNatClampNeg ≤ cap) (hb : cap * 8 ≤ 536870912) (hc : cells + 1 ≤ R.cells) (hl : slots + cap ≤ R.slots) :
    ∃ T' a, Stand p l e R s m args below meth c T' locs (cells + 1) (slots + cap) ∧ Ext h T'.heap ∧ a = h.size ∧ own_A Z T'.heap a .byte n (fun _ => 0) ∧ ∀ target, Steps p.tables e below (T'.setTop { g with pc := g.pc + 2, stack := .ref a :: rest }) target → Steps p.tables e below (T.setTop g) target := by
  obtain ⟨T', h', cA, X', e1, E, A, st⟩ := newP (aty := .byte) X hx hZ w eT hg hd hs hn hcap hb hc hl
  subst e1
  exact ⟨T', _, X', E, rfl, own_A.new A hn rfl, st⟩
theorem own_stI (X : Stand p l e R s m args below meth c T locs cells slots) (hx : p.tables.exec = Jvm.exec) (hZ : Z.Warmed39 s.vm) {h : Heap} (eT : T.heap = h) {a : Addr} {z : Int32} {f : Int32 → Int32} (F : own_A Z h a .int z f) {j x : Int32} (h0 : ¬ j < 0) (hj : j < z) {g : JFrame} (hg : g.method = m) {rest : List Value} (hs : g.stack = .int x :: .int j :: .ref a :: rest) (hd : decode c.code g.pc = .ok (.iastore, 1)) :
    ∃ T', Stand p l e R s m args below meth c T' (locs ++ [⟨a, j.toNatClampNeg⟩]) cells slots ∧ Wr h T'.heap a j.toNatClampNeg (.int x) ∧ own_A Z T'.heap a .int z (fun i => if i = j then x else f i) ∧ ∀ target, Steps p.tables e below (T'.setTop { g with pc := g.pc + 1, stack := rest }) target → Steps p.tables e below (T.setTop g) target := by
  obtain ⟨cl, A, S, n, H⟩ := id F
  obtain ⟨T', h', X', e1, W, st⟩ := stI X hx hZ eT A (inb_of S ⟨h0, hj⟩) hg hs hd
  subst e1
  exact ⟨T', X', W, F.set h0 hj W, st⟩
theorem own_stB (X : Stand p l e R s m args below meth c T locs cells slots) (hx : p.tables.exec = Jvm.exec) (hZ : Z.Warmed39 s.vm) {h : Heap} (eT : T.heap = h) {a : Addr} {z : Int32} {f : Int32 → Int32} (F : own_A Z h a .byte z f) {j x : Int32} (h0 : ¬ j < 0) (hj : j < z) {g : JFrame} (hg : g.method = m) {rest : List Value} (hs : g.stack = .int x :: .int j :: .ref a :: rest) (hd : decode c.code g.pc = .ok (.bastore, 1)) :
    ∃ T', Stand p l e R s m args below meth c T' (locs ++ [⟨a, j.toNatClampNeg⟩]) cells slots ∧ Wr h T'.heap a j.toNatClampNeg (.int x.toInt8.toInt32) ∧ own_A Z T'.heap a .byte z (fun i => if i = j then x.toInt8.toInt32 else f i) ∧ ∀ target, Steps p.tables e below (T'.setTop { g with pc := g.pc + 1, stack := rest }) target → Steps p.tables e below (T.setTop g) target := by
  obtain ⟨cl, A, S, n, H⟩ := id F
  obtain ⟨T', h', X', e1, W, st⟩ := stB X hx hZ eT A (inb_of S ⟨h0, hj⟩) hg hs hd
  subst e1
  exact ⟨T', X', W, F.set h0 hj W, st⟩
theorem own_ldI (X : Stand p l e R s m args below meth c T locs cells slots) (hx : p.tables.exec = Jvm.exec) (hZ : Z.Warmed39 s.vm) {h : Heap} (eT : T.heap = h) {a : Addr} {z : Int32} {f : Int32 → Int32} (F : own_A Z h a .int z f) {j : Int32} (h0 : ¬ j < 0) (hj : j < z) {g : JFrame} (hg : g.method = m) {rest : List Value} (hs : g.stack = .int j :: .ref a :: rest) (hd : decode c.code g.pc = .ok (.iaload, 1)) :
    ∀ target, Steps p.tables e below (T.setTop { g with pc := g.pc + 1, stack := .int (f j) :: rest }) target → Steps p.tables e below (T.setTop g) target := by
  obtain ⟨cl, A, S, n, H⟩ := id F
  exact fun target q => X.iaload hx (by rw [eT]; exact A.1) (State.isArrayOf_alike hZ.alike A.2.1) A.2.2 (inb_of S ⟨h0, hj⟩) (H j h0 hj) hg hs hd target q
theorem own_ldB (X : Stand p l e R s m args below meth c T locs cells slots) (hx : p.tables.exec = Jvm.exec) (hZ : Z.Warmed39 s.vm) {h : Heap} (eT : T.heap = h) {a : Addr} {z : Int32} {f : Int32 → Int32} (F : own_A Z h a .byte z f) {j : Int32} (h0 : ¬ j < 0) (hj : j < z) {g : JFrame} (hg : g.method = m) {rest : List Value} (hs : g.stack = .int j :: .ref a :: rest) (hd : decode c.code g.pc = .ok (.baload, 1)) :
    ∀ target, Steps p.tables e below (T.setTop { g with pc := g.pc + 1, stack := .int (f j) :: rest }) target → Steps p.tables e below (T.setTop g) target := by
  obtain ⟨cl, A, S, n, H⟩ := id F
  exact fun target q => X.baloadBytes hx (by rw [eT]; exact A.1) (State.isArrayOf_alike hZ.alike A.2.1) A.2.2 (inb_of S ⟨h0, hj⟩) (H j h0 hj) hg hs hd target q
theorem own_len (X : Stand p l e R s m args below meth c T locs cells slots) (hx : p.tables.exec = Jvm.exec) (hZ : Z.Warmed39 s.vm) {h : Heap} (eT : T.heap = h) {a : Addr} {ty : FieldType} {z : Int32} {f : Int32 → Int32} (F : own_A Z h a ty z f) {g : JFrame} (hg : g.method = m) {rest : List Value} (hs : g.stack = .ref a :: rest) (hd : decode c.code g.pc = .ok (.arraylength, 1)) :
    ∀ target, Steps p.tables e below (T.setTop { g with pc := g.pc + 1, stack := .int z :: rest }) target → Steps p.tables e below (T.setTop g) target := by
  obtain ⟨cl, A, S, n, H⟩ := id F
  exact fun target q => X.arraylength hx (by rw [eT]; exact A.1) (State.isArrayOf_alike hZ.alike A.2.1) hg hs hd target (by rw [len_of S n]; exact q)
/-- fields -/
theorem own_getF (X : Stand p l e R s m args below meth c T locs cells slots) (hx : p.tables.exec = Jvm.exec) (hZ : Z.Warmed39 s.vm) {h : Heap} (eT : T.heap = h) {own O n d : String} {index : Nat} (hown : s.vm.findClass own = some m.cls) (w : (Cond.fieldLink own index O n d).before a0 Z = true)
    {a : Addr} {v : Value} (F : Fld Z h a O n d v) {g : JFrame} (hg : g.method = m) {rest : List Value} (hs : g.stack = .ref a :: rest) (hd : decode c.code g.pc = .ok (.getfield index, 3)) :
    ∃ T', Stand p l e R s m args below meth c T' locs cells slots ∧ T'.heap = h ∧ ∀ target, Steps p.tables e below (T'.setTop { g with pc := g.pc + 3, stack := v :: rest }) target → Steps p.tables e below (T.setTop g) target :=
  getF X hx hZ hown (host := "") (Or.inl w) Via.refl eT F hg hs hd
theorem own_putF (X : Stand p l e R s m args below meth c T locs cells slots) (hx : p.tables.exec = Jvm.exec) (hZ : Z.Warmed39 s.vm) {h : Heap} (eT : T.heap = h) {own O n d C : String} {index kk : Nat} {ty : FieldType} (hown : s.vm.findClass own = some m.cls) (w : (Cond.fieldLink own index O n d).before a0 Z = true)
    {a : Addr} {v old : Value} (F : Fld Z h a O n d old) (E : Exa Z h a C) (L : (Cond.lays C O n d).before a0 Z = true ∨ ((Cond.laysFinal C O n d).before a0 Z = true ∧ own = O ∧ meth.name = "<init>")) (wi : (Cond.instantiable C kk).before a0 Z = true)
    (hty : parseFieldDescriptor d = some ty) (hn : narrow ty v = v) (hf : fits ty v = true) {g : JFrame} (hg : g.method = m) {rest : List Value} (hs : g.stack = v :: .ref a :: rest) (hd : decode c.code g.pc = .ok (.putfield index, 3)) :
    ∃ T', Stand p l e R s m args below meth c T' (locs ++ [⟨a, slotOf Z O n d⟩]) cells slots ∧ Wr h T'.heap a (slotOf Z O n d) v ∧ ∀ target, Steps p.tables e below (T'.setTop { g with pc := g.pc + 3, stack := rest }) target → Steps p.tables e below (T.setTop g) target := by
  obtain ⟨T', h', X', e1, W, st⟩ := putF X hx hZ hown (host := "") (Or.inl w) Via.refl eT F E L wi hty hn hf hg hs hd
  subst e1
  exact ⟨T', X', W, st⟩
/-- comparisons with literals, through Int -/
theorem own_lt {x k : Int32} (K : Int) (hk : k.toInt = K) (h : x.toInt < K) : x < k := by rw [Int32.lt_iff_toInt_lt, hk]; exact h
theorem own_nlt {x k : Int32} (K : Int) (hk : k.toInt = K) (h : K ≤ x.toInt) : ¬ x < k := by rw [Int32.lt_iff_toInt_lt, hk]; omega
theorem own_gt {x k : Int32} (K : Int) (hk : k.toInt = K) (h : K < x.toInt) : k < x := by rw [Int32.lt_iff_toInt_lt, hk]; exact h
theorem own_ngt {x k : Int32} (K : Int) (hk : k.toInt = K) (h : x.toInt ≤ K) : ¬ k < x := by rw [Int32.lt_iff_toInt_lt, hk]; omega
theorem own_ieq {x k : Int32} (K : Int) (hk : k.toInt = K) (h : x.toInt = K) : x = k := Int32.toInt_inj.mp (by rw [hk]; exact h)
theorem own_ineq {x k : Int32} (K : Int) (hk : k.toInt = K) (h : x.toInt < K ∨ K < x.toInt) : ¬ x = k := fun q => by subst q; omega
end OwnKit
end Jvm.RoadKit
namespace Jvm.RoadKit
open Sem ClassFile Op Lib Jvm.Stand Jvm.Free Jvm.LawKit
theorem own_mask31 (b : Int32) : 0 ≤ (b &&& 2147483647).toInt := by
  have h := c_mask b 2147483647 31 (by decide) (by decide)
  rw [h]; exact Int.emod_nonneg _ (by decide)
theorem own_modpos (b k : Int32) (K : Int) (hk : k.toInt = K) (h0 : 0 < K) : 0 ≤ ((b &&& 2147483647) % k).toInt ∧ ((b &&& 2147483647) % k).toInt < K := by
  rw [(c_irem (b &&& 2147483647) k K hk).1 (own_mask31 b)]
  exact ⟨Int.emod_nonneg _ (by omega), Int.emod_lt_of_pos _ h0⟩
theorem own_maskpos (b m : Int32) (k : Nat) (hk : k ≤ 31) (hm : m.toBitVec.toNat = 2 ^ k - 1) (K : Int) (hK : K = ((2 ^ k : Nat) : Int)) (h0 : 0 < K) : 0 ≤ (b &&& m).toInt ∧ (b &&& m).toInt < K := by
  rw [c_mask b m k hk hm, ← hK]
  exact ⟨Int.emod_nonneg _ (by omega), Int.emod_lt_of_pos _ h0⟩
end Jvm.RoadKit
namespace Jvm.RoadKit
open Sem ClassFile Op Lib Jvm.Stand Jvm.Free Jvm.LawKit
theorem own_clamp (n : Int32) (k : Nat) (h : n.toInt ≤ k) : n.toNatClampNeg ≤ k := by
  show n.toInt.toNat ≤ k
  omega
theorem own_bb (x : Int32) : x.toInt8.toInt32.toInt8.toInt32 = x.toInt8.toInt32 := by rw [Int8.toInt8_toInt32]
theorem own_ltT {x y : Int32} (h : x < y) : x.toInt < y.toInt := Int32.lt_iff_toInt_lt.mp h
theorem own_nltT {x y : Int32} (h : ¬ x < y) : y.toInt ≤ x.toInt := by rw [Int32.lt_iff_toInt_lt] at h; omega
theorem own_Tlt {x y : Int32} (h : x.toInt < y.toInt) : x < y := Int32.lt_iff_toInt_lt.mpr h
theorem own_Tnlt {x y : Int32} (h : y.toInt ≤ x.toInt) : ¬ x < y := by rw [Int32.lt_iff_toInt_lt]; omega
theorem own_neT {x y : Int32} (h : ¬ x = y) : ¬ x.toInt = y.toInt := fun q => h (Int32.toInt_inj.mp q)
end Jvm.RoadKit
namespace Jvm.RoadKit
open Sem ClassFile Op Lib Jvm.Stand Jvm.Free Jvm.LawKit
section OwnWide
variable {p : Program} {l : Launch} {e : Env} {R : Room} {s : State} {m : MethodId} {args : Array Value} {below : List Frame} {meth : Method} {c : Code} {T : State} {locs : List Loc} {cells slots : Nat} {Z : State} {a0 : Array Value} {Q : Option Value → Heap → List Loc → Prop} {kc ks : Nat}
/-- as own_Fin, under the wide frame -/
def own_FinW (p : Program) (e : Env) (below : List Frame) (s : State) (Q : Option Value → Heap → List Loc → Prop) (kc ks : Nat) (A : State) : Prop :=
  ∃ s₂ o, Steps p.tables e below A s₂ ∧ s₂.status = .running ∧ Ended s₂ below o ∧ ∃ v L, o = .returned v ∧ Q v s₂.heap L ∧ ReturnedEndW s o s₂ L kc ks
theorem own_goW {A A' : State} (h : ∀ t, Steps p.tables e below A' t → Steps p.tables e below A t) (k : own_FinW p e below s Q kc ks A') : own_FinW p e below s Q kc ks A := by
  obtain ⟨s₂, o, h1, r⟩ := k
  exact ⟨s₂, o, h _ h1, r⟩
theorem own_enterW {y : MethodName} {bytes : ByteArray} {maxL : Nat} {ret : Option FieldType} {rm : Room} {as' : Array Value} {h0 : Heap} {ws tb : List Cond} {Ls : Array Slot} (hp : plainFor y = true) (hef : ∀ m, entryFrame m as' maxL = mkF m 0 Ls []) (hw : ∀ d ∈ tb, d.before a0 Z = true)
    (body : ∀ (p : Program) (e : Env) (s : State) (m : MethodId) (below : List Frame) (meth : Method) (c : Code) (T : State), Stand p l e rm s m as' below meth c T [] 0 0 → own_Ctx p s m meth c Z a0 tb y bytes maxL ret → T.heap = h0 → own_FinW p e below s Q rm.cells rm.slots (T.setTop (mkF m 0 Ls []))) :
    MetFree l y (head1 (Cond.code y bytes maxL ret :: ws) rm) (fun a U => a = as' ∧ Z.Warmed39 U.vm ∧ U.heap = h0) (fun _ _ _ _ _ => True) (fun _ U o U' => ∃ v L, o = .returned v ∧ Q v U'.heap L ∧ ReturnedEndW U o U' L rm.cells rm.slots) := by
  refine MetFree.of_bodySF hp hisR ?_
  intro p e s m args below meth c s₁ Bd hml0 hP hK
  obtain ⟨rfl, hZ, hh⟩ := hP
  have e0 : s₁.heap = h0 := by rw [← hh, Bd.state]; rfl
  obtain ⟨s₂, o, h1, r⟩ := body p e s m below meth c s₁ (Stand.of_body Bd) ⟨Bd.exec, Bd.bytes, hml0, hZ, findClass_of_methodNamed Bd.named, (name_of_methodNamed Bd.named Bd.method).1, Bd.returns, Bd.notSynchronized, hw⟩ e0
  exact ⟨s₂, o, castTop (hef m) h1, r⟩
theorem own_retW {vm₁ : Vm} {k1 : Nat} (X : Stand p l e R (s.setVm vm₁) m args below meth c T locs cells slots) (hS : s.Since vm₁ k1) (hk : k1 ≤ T.heap.size) (hlk : meth.locks = false) (hx : p.tables.exec = Jvm.exec) {pc : Nat} {Ls : Array Slot} {w : Value} {t : FieldType} {i : Instr} {rest : List Value} (hret : meth.sig.returnType = some t) (hn : narrow t w = w)
    (hi : (i = .ireturn ∧ (t = .int ∨ t = .boolean ∨ t = .byte ∨ t = .char ∨ t = .short) ∧ ∃ z, w = .int z) ∨ (i = .lreturn ∧ t = .long ∧ ∃ z, w = .long z) ∨ (i = .dreturn ∧ t = .double ∧ ∃ z, w = .double z) ∨ (i = .freturn ∧ t = .float ∧ ∃ z, w = .float z) ∨ (i = .areturn ∧ t.isReference = true ∧ w.isRef = true))
    (hd : decode c.code pc = .ok (i, 1)) (hq : Q (some w) T.heap locs) (hc : cells ≤ kc) (hs : slots ≤ ks) : own_FinW p e below s Q kc ks (T.setTop (mkF m pc Ls (w :: rest))) := by
  obtain ⟨fs, hr, hrun, hended, hW⟩ := X.leaveW hS hk (v := some w) (fun h => by rw [hret] at h; cases h) hlk
  exact ⟨_, _, retOut X hx hret hn hi hd hr, hrun, hended, _, _, rfl, hq, hW.1, hW.2.1, hW.2.2.1, hW.2.2.2.mono hc hs⟩
theorem own_putFN (X : Stand p l e R s m args below meth c T locs cells slots) (hx : p.tables.exec = Jvm.exec) (hZ : Z.Warmed39 s.vm) {h : Heap} (eT : T.heap = h) {own O n d C : String} {index kk : Nat} {ty : FieldType} (hown : s.vm.findClass own = some m.cls) (w : (Cond.fieldLink own index O n d).before a0 Z = true)
    {a : Addr} {v v' old : Value} (F : Fld Z h a O n d old) (E : Exa Z h a C) (L : (Cond.lays C O n d).before a0 Z = true ∨ ((Cond.laysFinal C O n d).before a0 Z = true ∧ own = O ∧ meth.name = "<init>")) (wi : (Cond.instantiable C kk).before a0 Z = true)
    (hty : parseFieldDescriptor d = some ty) (hn : narrow ty v = v') (hf : fits ty v' = true) {g : JFrame} (hg : g.method = m) {rest : List Value} (hs : g.stack = v :: .ref a :: rest) (hd : decode c.code g.pc = .ok (.putfield index, 3)) :
    ∃ T', Stand p l e R s m args below meth c T' (locs ++ [⟨a, slotOf Z O n d⟩]) cells slots ∧ Wr h T'.heap a (slotOf Z O n d) v' ∧ ∀ target, Steps p.tables e below (T'.setTop { g with pc := g.pc + 3, stack := rest }) target → Steps p.tables e below (T.setTop g) target := by
  obtain ⟨T', h', X', e1, W, st⟩ := putFN X hx hZ hown w Via.refl eT F E L wi hty hn hf hg hs hd
  subst e1
  exact ⟨T', X', W, st⟩
end OwnWide
end Jvm.RoadKit
namespace Jvm.Pilot.@@N@@
open Jvm Jvm.ClassFile Sem Op Lib Jvm.Free Jvm.Stand Jvm.LawKit Jvm.RoadKit Bundle Jvm.Pilot.@@N@@.Jvm.D
theorem own_d2_0 : decode jdk_30_method_1_code 0 = .ok (.aload_n 0, 1) := by decide +kernel
theorem own_d2_1 : decode jdk_30_method_1_code 1 = .ok (.invokespecial 1, 3) := by decide +kernel
theorem own_d2_4 : decode jdk_30_method_1_code 4 = .ok (.return_, 1) := by decide +kernel
theorem own_pd0 : parseMethodDescriptor "()V" = some ⟨[], none⟩ := by decide +kernel
theorem own_ef2 (x0 : Addr) : ∀ m, entryFrame m #[(.ref x0)] 1 = mkF m 0 #[.val (.ref x0)] [] := fun m => by first | (simp [entryFrame, mkF, argsToLocals, Value.category]; done) | rfl
set_option maxRecDepth 65536 in
set_option maxHeartbeats 40000000 in
theorem own_rec_w {l : Launch} {p : Program} {e : Env} {below : List Frame} {s : State} {m : MethodId} {meth : Method} {c : Code} {Z : State} {a0 args : Array Value} {T : State} {h0 : Heap} (X : Stand p l e ({ frames := 1, cells := 0, slots := 0, locals := 12 } : Room) s m args below meth c T [] 0 0) (C : own_Ctx p s m meth c Z a0 tables_1 (⟨"java/lang/Record", "<init>", "()V"⟩ : MethodName) jdk_30_method_1_code 1 none) (hh : T.heap = h0) (x0 : Addr)  (n0 : Nat) (Z0 : n0 ≤ h0.size)  :
    own_Fin p e below s (own_QP none h0) 0 0 (T.setTop (mkF m 0 #[.val (.ref x0)] [])) := by
  obtain ⟨hx, hby, hml, hZ, hown, hnm, hret, hlk, hw⟩ := id C
  show own_Fin p e below s (own_QP none h0) 0 0 (T.setTop (mkF m 0 #[.val (.ref x0)] []))
  refine own_go (fun tgt => XS.aloadN X.here hx rfl (hb hby own_d2_0) rfl rfl) ?_
  show own_Fin p e below s (own_QP none h0) 0 0 (T.setTop (mkF m 1 #[.val (.ref x0)] [(.ref x0)]))
  obtain ⟨T1, X1, e1, st1⟩ := initO X hx hZ hown (hw _ (List.mem_of_getElem? (i := 19) rfl)) (hw _ (List.mem_of_getElem? (i := 20) rfl)) (hw _ (List.mem_of_getElem? (i := 21) rfl)) hh (g := (mkF m 1 #[.val (.ref x0)] [(.ref x0)])) rfl (by rw [hml]; rfl) rfl (hb hby own_d2_1) (by decide) (W := 0) (by show 2 * 0 + _ ≤ _; exact Nat.le_of_eq rfl) (by decide)
  refine own_go st1 ?_
  show own_Fin p e below s (own_QP none h0) 0 0 (T1.setTop (mkF m 4 #[.val (.ref x0)] []))
  exact own_ret0 X1 hlk hx hret (hb hby own_d2_4) ⟨rfl, rfl, e1⟩ (by decide) (by decide)
theorem own_pn0 : plainName "java/lang/Record" = true := by first | (simp [plainName, overriddenIn]; done) | decide +kernel
theorem own_rec (l : Launch) (Z : State) (a0 : Array Value) (hw : ∀ d ∈ tables_1, d.before a0 Z = true) (x0 : Addr)  (h0 : Heap) (n0 : Nat) (Z0 : n0 ≤ h0.size)  : own_Met l Z (⟨"java/lang/Record", "<init>", "()V"⟩ : MethodName) jdk_30_method_1_code 1 none [] ({ frames := 1, cells := 0, slots := 0, locals := 12 } : Room) #[(.ref x0)] h0 (own_QP none h0) :=
  own_enter (plainFor_of_name own_pn0) (own_ef2 x0) hw (fun p e s m below meth c T X C hh => own_rec_w X C hh x0  n0 Z0 )
theorem own_d5_0 : decode method_3_code 0 = .ok (.iload_n 2, 1) := by decide +kernel
theorem own_d5_1 : decode method_3_code 1 = .ok (.iconst 1, 1) := by decide +kernel
theorem own_d5_2 : decode method_3_code 2 = .ok (.if_icmp .ne 9, 3) := by decide +kernel
theorem own_d5_5 : decode method_3_code 5 = .ok (.iload_n 0, 1) := by decide +kernel
theorem own_d5_6 : decode method_3_code 6 = .ok (.sipush 255, 3) := by decide +kernel
theorem own_d5_9 : decode method_3_code 9 = .ok (.iand, 1) := by decide +kernel
theorem own_d5_10 : decode method_3_code 10 = .ok (.ireturn, 1) := by decide +kernel
theorem own_d5_11 : decode method_3_code 11 = .ok (.iload_n 2, 1) := by decide +kernel
theorem own_d5_12 : decode method_3_code 12 = .ok (.iconst 2, 1) := by decide +kernel
theorem own_d5_13 : decode method_3_code 13 = .ok (.if_icmp .ne 12, 3) := by decide +kernel
theorem own_d5_16 : decode method_3_code 16 = .ok (.iload_n 0, 1) := by decide +kernel
theorem own_d5_17 : decode method_3_code 17 = .ok (.bipush 8, 2) := by decide +kernel
theorem own_d5_19 : decode method_3_code 19 = .ok (.iushr, 1) := by decide +kernel
theorem own_d5_20 : decode method_3_code 20 = .ok (.sipush 255, 3) := by decide +kernel
theorem own_d5_23 : decode method_3_code 23 = .ok (.iand, 1) := by decide +kernel
theorem own_d5_24 : decode method_3_code 24 = .ok (.ireturn, 1) := by decide +kernel
theorem own_d5_25 : decode method_3_code 25 = .ok (.iload_n 2, 1) := by decide +kernel
theorem own_d5_26 : decode method_3_code 26 = .ok (.iconst 3, 1) := by decide +kernel
theorem own_d5_27 : decode method_3_code 27 = .ok (.if_icmp .ne 12, 3) := by decide +kernel
theorem own_d5_30 : decode method_3_code 30 = .ok (.iload_n 0, 1) := by decide +kernel
theorem own_d5_31 : decode method_3_code 31 = .ok (.bipush 16, 2) := by decide +kernel
theorem own_d5_33 : decode method_3_code 33 = .ok (.iushr, 1) := by decide +kernel
theorem own_d5_34 : decode method_3_code 34 = .ok (.sipush 255, 3) := by decide +kernel
theorem own_d5_37 : decode method_3_code 37 = .ok (.iand, 1) := by decide +kernel
theorem own_d5_38 : decode method_3_code 38 = .ok (.ireturn, 1) := by decide +kernel
theorem own_d5_39 : decode method_3_code 39 = .ok (.iload_n 2, 1) := by decide +kernel
theorem own_d5_40 : decode method_3_code 40 = .ok (.iconst 4, 1) := by decide +kernel
theorem own_d5_41 : decode method_3_code 41 = .ok (.if_icmp .ne 12, 3) := by decide +kernel
theorem own_d5_44 : decode method_3_code 44 = .ok (.iload_n 0, 1) := by decide +kernel
theorem own_d5_45 : decode method_3_code 45 = .ok (.bipush 24, 2) := by decide +kernel
theorem own_d5_47 : decode method_3_code 47 = .ok (.iushr, 1) := by decide +kernel
theorem own_d5_48 : decode method_3_code 48 = .ok (.sipush 255, 3) := by decide +kernel
theorem own_d5_51 : decode method_3_code 51 = .ok (.iand, 1) := by decide +kernel
theorem own_d5_52 : decode method_3_code 52 = .ok (.ireturn, 1) := by decide +kernel
theorem own_d5_53 : decode method_3_code 53 = .ok (.iload_n 2, 1) := by decide +kernel
theorem own_d5_54 : decode method_3_code 54 = .ok (.iconst 5, 1) := by decide +kernel
theorem own_d5_55 : decode method_3_code 55 = .ok (.if_icmp .ne 9, 3) := by decide +kernel
theorem own_d5_58 : decode method_3_code 58 = .ok (.iload_n 1, 1) := by decide +kernel
theorem own_d5_59 : decode method_3_code 59 = .ok (.sipush 255, 3) := by decide +kernel
theorem own_d5_62 : decode method_3_code 62 = .ok (.iand, 1) := by decide +kernel
theorem own_d5_63 : decode method_3_code 63 = .ok (.ireturn, 1) := by decide +kernel
theorem own_d5_64 : decode method_3_code 64 = .ok (.iload_n 2, 1) := by decide +kernel
theorem own_d5_65 : decode method_3_code 65 = .ok (.bipush 6, 2) := by decide +kernel
theorem own_d5_67 : decode method_3_code 67 = .ok (.if_icmp .ne 12, 3) := by decide +kernel
theorem own_d5_70 : decode method_3_code 70 = .ok (.iload_n 1, 1) := by decide +kernel
theorem own_d5_71 : decode method_3_code 71 = .ok (.bipush 8, 2) := by decide +kernel
theorem own_d5_73 : decode method_3_code 73 = .ok (.iushr, 1) := by decide +kernel
theorem own_d5_74 : decode method_3_code 74 = .ok (.sipush 255, 3) := by decide +kernel
theorem own_d5_77 : decode method_3_code 77 = .ok (.iand, 1) := by decide +kernel
theorem own_d5_78 : decode method_3_code 78 = .ok (.ireturn, 1) := by decide +kernel
theorem own_d5_79 : decode method_3_code 79 = .ok (.iload_n 2, 1) := by decide +kernel
theorem own_d5_80 : decode method_3_code 80 = .ok (.bipush 7, 2) := by decide +kernel
theorem own_d5_82 : decode method_3_code 82 = .ok (.if_icmp .ne 12, 3) := by decide +kernel
theorem own_d5_85 : decode method_3_code 85 = .ok (.iload_n 1, 1) := by decide +kernel
theorem own_d5_86 : decode method_3_code 86 = .ok (.bipush 16, 2) := by decide +kernel
theorem own_d5_88 : decode method_3_code 88 = .ok (.iushr, 1) := by decide +kernel
theorem own_d5_89 : decode method_3_code 89 = .ok (.sipush 255, 3) := by decide +kernel
theorem own_d5_92 : decode method_3_code 92 = .ok (.iand, 1) := by decide +kernel
theorem own_d5_93 : decode method_3_code 93 = .ok (.ireturn, 1) := by decide +kernel
theorem own_d5_94 : decode method_3_code 94 = .ok (.iconst 0, 1) := by decide +kernel
theorem own_d5_95 : decode method_3_code 95 = .ok (.ireturn, 1) := by decide +kernel
theorem own_ef5 (x0 : Int32) (x1 : Int32) (x2 : Int32) : ∀ m, entryFrame m #[(.int x0), (.int x1), (.int x2)] 3 = mkF m 0 #[.val (.int x0), .val (.int x1), .val (.int x2)] [] := fun m => by first | (simp [entryFrame, mkF, argsToLocals, Value.category]; done) | rfl
def own_f5_94 (v0 : Int32) (v1 : Int32) (v2 : Int32) : Int32 := (0 : Int32)
set_option maxRecDepth 65536 in
theorem own_b5_94 {l : Launch} {p : Program} {e : Env} {below : List Frame} {s : State} {m : MethodId} {meth : Method} {c : Code} {Z : State} {a0 args : Array Value} {T : State} {h0 : Heap} (X : Stand p l e ({ frames := 0, cells := 0, slots := 0, locals := 0 } : Room) s m args below meth c T [] 0 0) (C : own_Ctx p s m meth c Z a0 tables_1 (⟨"com/example/binlogue/binlogue/binlog/FormatDescriptionEventPostHeaderLengthPinLaw", "unsignedByte", "(III)I"⟩ : MethodName) method_3_code 3 (some .int)) (hh : T.heap = h0) (v0 : Int32) (v1 : Int32) (v2 : Int32) :
    own_Fin p e below s (own_QP (some (.int (own_f5_94 v0 v1 v2))) h0) 0 0 (T.setTop (mkF m 94 #[.val (.int v0), .val (.int v1), .val (.int v2)] [])) := by
  obtain ⟨hx, hby, hml, hZ, hown, hnm, hret, hlk, hw⟩ := id C
  refine own_go (fun tgt => XS.iconst X.here hx rfl (hb hby own_d5_94)) ?_
  show own_Fin p e below s (own_QP (some (.int (own_f5_94 v0 v1 v2))) h0) 0 0 (T.setTop (mkF m 95 #[.val (.int v0), .val (.int v1), .val (.int v2)] [(.int (0 : Int32))]))
  exact own_ret X hlk hx (t := .int) hret rfl (Or.inl ⟨rfl, by simp, _, rfl⟩) (hb hby own_d5_95) ⟨rfl, rfl, hh⟩ (by decide) (by decide)
def own_f5_85 (v0 : Int32) (v1 : Int32) (v2 : Int32) : Int32 := (((v1.toUInt32 >>> ((16 : Int32) &&& 31).toUInt32).toInt32) &&& (255 : Int32))
set_option maxRecDepth 65536 in
theorem own_b5_85 {l : Launch} {p : Program} {e : Env} {below : List Frame} {s : State} {m : MethodId} {meth : Method} {c : Code} {Z : State} {a0 args : Array Value} {T : State} {h0 : Heap} (X : Stand p l e ({ frames := 0, cells := 0, slots := 0, locals := 0 } : Room) s m args below meth c T [] 0 0) (C : own_Ctx p s m meth c Z a0 tables_1 (⟨"com/example/binlogue/binlogue/binlog/FormatDescriptionEventPostHeaderLengthPinLaw", "unsignedByte", "(III)I"⟩ : MethodName) method_3_code 3 (some .int)) (hh : T.heap = h0) (v0 : Int32) (v1 : Int32) (v2 : Int32) :
    own_Fin p e below s (own_QP (some (.int (own_f5_85 v0 v1 v2))) h0) 0 0 (T.setTop (mkF m 85 #[.val (.int v0), .val (.int v1), .val (.int v2)] [])) := by
  obtain ⟨hx, hby, hml, hZ, hown, hnm, hret, hlk, hw⟩ := id C
  refine own_go (fun tgt => XS.iloadN X.here hx rfl (hb hby own_d5_85) rfl) ?_
  show own_Fin p e below s (own_QP (some (.int (own_f5_85 v0 v1 v2))) h0) 0 0 (T.setTop (mkF m 86 #[.val (.int v0), .val (.int v1), .val (.int v2)] [(.int v1)]))
  refine own_go (fun tgt => XS.bipush X.here hx rfl (hb hby own_d5_86)) ?_
  show own_Fin p e below s (own_QP (some (.int (own_f5_85 v0 v1 v2))) h0) 0 0 (T.setTop (mkF m 88 #[.val (.int v0), .val (.int v1), .val (.int v2)] [(.int (16 : Int32)), (.int v1)]))
  refine own_go (fun tgt => XS.iushr X.here hx rfl (hb hby own_d5_88) rfl) ?_
  show own_Fin p e below s (own_QP (some (.int (own_f5_85 v0 v1 v2))) h0) 0 0 (T.setTop (mkF m 89 #[.val (.int v0), .val (.int v1), .val (.int v2)] [(.int ((v1.toUInt32 >>> ((16 : Int32) &&& 31).toUInt32).toInt32))]))
  refine own_go (fun tgt => XS.sipush X.here hx rfl (hb hby own_d5_89)) ?_
  show own_Fin p e below s (own_QP (some (.int (own_f5_85 v0 v1 v2))) h0) 0 0 (T.setTop (mkF m 92 #[.val (.int v0), .val (.int v1), .val (.int v2)] [(.int (255 : Int32)), (.int ((v1.toUInt32 >>> ((16 : Int32) &&& 31).toUInt32).toInt32))]))
  refine own_go (fun tgt => XS.iand X.here hx rfl (hb hby own_d5_92) rfl) ?_
  show own_Fin p e below s (own_QP (some (.int (own_f5_85 v0 v1 v2))) h0) 0 0 (T.setTop (mkF m 93 #[.val (.int v0), .val (.int v1), .val (.int v2)] [(.int (((v1.toUInt32 >>> ((16 : Int32) &&& 31).toUInt32).toInt32) &&& (255 : Int32)))]))
  exact own_ret X hlk hx (t := .int) hret rfl (Or.inl ⟨rfl, by simp, _, rfl⟩) (hb hby own_d5_93) ⟨rfl, rfl, hh⟩ (by decide) (by decide)
def own_f5_79 (v0 : Int32) (v1 : Int32) (v2 : Int32) : Int32 := if v2 = (7 : Int32) then (own_f5_85 v0 v1 v2) else (own_f5_94 v0 v1 v2)
set_option maxRecDepth 65536 in
theorem own_b5_79 {l : Launch} {p : Program} {e : Env} {below : List Frame} {s : State} {m : MethodId} {meth : Method} {c : Code} {Z : State} {a0 args : Array Value} {T : State} {h0 : Heap} (X : Stand p l e ({ frames := 0, cells := 0, slots := 0, locals := 0 } : Room) s m args below meth c T [] 0 0) (C : own_Ctx p s m meth c Z a0 tables_1 (⟨"com/example/binlogue/binlogue/binlog/FormatDescriptionEventPostHeaderLengthPinLaw", "unsignedByte", "(III)I"⟩ : MethodName) method_3_code 3 (some .int)) (hh : T.heap = h0) (v0 : Int32) (v1 : Int32) (v2 : Int32) :
    own_Fin p e below s (own_QP (some (.int (own_f5_79 v0 v1 v2))) h0) 0 0 (T.setTop (mkF m 79 #[.val (.int v0), .val (.int v1), .val (.int v2)] [])) := by
  obtain ⟨hx, hby, hml, hZ, hown, hnm, hret, hlk, hw⟩ := id C
  refine own_go (fun tgt => XS.iloadN X.here hx rfl (hb hby own_d5_79) rfl) ?_
  show own_Fin p e below s (own_QP (some (.int (own_f5_79 v0 v1 v2))) h0) 0 0 (T.setTop (mkF m 80 #[.val (.int v0), .val (.int v1), .val (.int v2)] [(.int v2)]))
  refine own_go (fun tgt => XS.bipush X.here hx rfl (hb hby own_d5_80)) ?_
  show own_Fin p e below s (own_QP (some (.int (own_f5_79 v0 v1 v2))) h0) 0 0 (T.setTop (mkF m 82 #[.val (.int v0), .val (.int v1), .val (.int v2)] [(.int (7 : Int32)), (.int v2)]))
  by_cases hq : v2 = (7 : Int32)
  · show own_Fin p e below s (own_QP (some (.int (own_f5_79 v0 v1 v2))) h0) 0 0 _
    rw [show (own_f5_79 v0 v1 v2) = (own_f5_85 v0 v1 v2) from if_pos hq]
    refine own_go (fun tgt => XS.icmpNo X.here hx rfl (hb hby own_d5_82) rfl (teq hq).2) ?_
    show own_Fin p e below s (own_QP (some (.int (own_f5_85 v0 v1 v2))) h0) 0 0 (T.setTop (mkF m 85 #[.val (.int v0), .val (.int v1), .val (.int v2)] []))
    exact own_b5_85 X C hh v0 v1 v2
  · show own_Fin p e below s (own_QP (some (.int (own_f5_79 v0 v1 v2))) h0) 0 0 _
    rw [show (own_f5_79 v0 v1 v2) = (own_f5_94 v0 v1 v2) from if_neg hq]
    refine own_go (fun tgt => XS.icmpYes X.here hx rfl (pc0 := 82) (pc' := 94) rfl (hb hby own_d5_82) rfl (feq hq).2 (by decide) (by decide)) ?_
    show own_Fin p e below s (own_QP (some (.int (own_f5_94 v0 v1 v2))) h0) 0 0 (T.setTop (mkF m 94 #[.val (.int v0), .val (.int v1), .val (.int v2)] []))
    exact own_b5_94 X C hh v0 v1 v2
def own_f5_70 (v0 : Int32) (v1 : Int32) (v2 : Int32) : Int32 := (((v1.toUInt32 >>> ((8 : Int32) &&& 31).toUInt32).toInt32) &&& (255 : Int32))
set_option maxRecDepth 65536 in
theorem own_b5_70 {l : Launch} {p : Program} {e : Env} {below : List Frame} {s : State} {m : MethodId} {meth : Method} {c : Code} {Z : State} {a0 args : Array Value} {T : State} {h0 : Heap} (X : Stand p l e ({ frames := 0, cells := 0, slots := 0, locals := 0 } : Room) s m args below meth c T [] 0 0) (C : own_Ctx p s m meth c Z a0 tables_1 (⟨"com/example/binlogue/binlogue/binlog/FormatDescriptionEventPostHeaderLengthPinLaw", "unsignedByte", "(III)I"⟩ : MethodName) method_3_code 3 (some .int)) (hh : T.heap = h0) (v0 : Int32) (v1 : Int32) (v2 : Int32) :
    own_Fin p e below s (own_QP (some (.int (own_f5_70 v0 v1 v2))) h0) 0 0 (T.setTop (mkF m 70 #[.val (.int v0), .val (.int v1), .val (.int v2)] [])) := by
  obtain ⟨hx, hby, hml, hZ, hown, hnm, hret, hlk, hw⟩ := id C
  refine own_go (fun tgt => XS.iloadN X.here hx rfl (hb hby own_d5_70) rfl) ?_
  show own_Fin p e below s (own_QP (some (.int (own_f5_70 v0 v1 v2))) h0) 0 0 (T.setTop (mkF m 71 #[.val (.int v0), .val (.int v1), .val (.int v2)] [(.int v1)]))
  refine own_go (fun tgt => XS.bipush X.here hx rfl (hb hby own_d5_71)) ?_
  show own_Fin p e below s (own_QP (some (.int (own_f5_70 v0 v1 v2))) h0) 0 0 (T.setTop (mkF m 73 #[.val (.int v0), .val (.int v1), .val (.int v2)] [(.int (8 : Int32)), (.int v1)]))
  refine own_go (fun tgt => XS.iushr X.here hx rfl (hb hby own_d5_73) rfl) ?_
  show own_Fin p e below s (own_QP (some (.int (own_f5_70 v0 v1 v2))) h0) 0 0 (T.setTop (mkF m 74 #[.val (.int v0), .val (.int v1), .val (.int v2)] [(.int ((v1.toUInt32 >>> ((8 : Int32) &&& 31).toUInt32).toInt32))]))
  refine own_go (fun tgt => XS.sipush X.here hx rfl (hb hby own_d5_74)) ?_
  show own_Fin p e below s (own_QP (some (.int (own_f5_70 v0 v1 v2))) h0) 0 0 (T.setTop (mkF m 77 #[.val (.int v0), .val (.int v1), .val (.int v2)] [(.int (255 : Int32)), (.int ((v1.toUInt32 >>> ((8 : Int32) &&& 31).toUInt32).toInt32))]))
  refine own_go (fun tgt => XS.iand X.here hx rfl (hb hby own_d5_77) rfl) ?_
  show own_Fin p e below s (own_QP (some (.int (own_f5_70 v0 v1 v2))) h0) 0 0 (T.setTop (mkF m 78 #[.val (.int v0), .val (.int v1), .val (.int v2)] [(.int (((v1.toUInt32 >>> ((8 : Int32) &&& 31).toUInt32).toInt32) &&& (255 : Int32)))]))
  exact own_ret X hlk hx (t := .int) hret rfl (Or.inl ⟨rfl, by simp, _, rfl⟩) (hb hby own_d5_78) ⟨rfl, rfl, hh⟩ (by decide) (by decide)
def own_f5_64 (v0 : Int32) (v1 : Int32) (v2 : Int32) : Int32 := if v2 = (6 : Int32) then (own_f5_70 v0 v1 v2) else (own_f5_79 v0 v1 v2)
set_option maxRecDepth 65536 in
theorem own_b5_64 {l : Launch} {p : Program} {e : Env} {below : List Frame} {s : State} {m : MethodId} {meth : Method} {c : Code} {Z : State} {a0 args : Array Value} {T : State} {h0 : Heap} (X : Stand p l e ({ frames := 0, cells := 0, slots := 0, locals := 0 } : Room) s m args below meth c T [] 0 0) (C : own_Ctx p s m meth c Z a0 tables_1 (⟨"com/example/binlogue/binlogue/binlog/FormatDescriptionEventPostHeaderLengthPinLaw", "unsignedByte", "(III)I"⟩ : MethodName) method_3_code 3 (some .int)) (hh : T.heap = h0) (v0 : Int32) (v1 : Int32) (v2 : Int32) :
    own_Fin p e below s (own_QP (some (.int (own_f5_64 v0 v1 v2))) h0) 0 0 (T.setTop (mkF m 64 #[.val (.int v0), .val (.int v1), .val (.int v2)] [])) := by
  obtain ⟨hx, hby, hml, hZ, hown, hnm, hret, hlk, hw⟩ := id C
  refine own_go (fun tgt => XS.iloadN X.here hx rfl (hb hby own_d5_64) rfl) ?_
  show own_Fin p e below s (own_QP (some (.int (own_f5_64 v0 v1 v2))) h0) 0 0 (T.setTop (mkF m 65 #[.val (.int v0), .val (.int v1), .val (.int v2)] [(.int v2)]))
  refine own_go (fun tgt => XS.bipush X.here hx rfl (hb hby own_d5_65)) ?_
  show own_Fin p e below s (own_QP (some (.int (own_f5_64 v0 v1 v2))) h0) 0 0 (T.setTop (mkF m 67 #[.val (.int v0), .val (.int v1), .val (.int v2)] [(.int (6 : Int32)), (.int v2)]))
  by_cases hq : v2 = (6 : Int32)
  · show own_Fin p e below s (own_QP (some (.int (own_f5_64 v0 v1 v2))) h0) 0 0 _
    rw [show (own_f5_64 v0 v1 v2) = (own_f5_70 v0 v1 v2) from if_pos hq]
    refine own_go (fun tgt => XS.icmpNo X.here hx rfl (hb hby own_d5_67) rfl (teq hq).2) ?_
    show own_Fin p e below s (own_QP (some (.int (own_f5_70 v0 v1 v2))) h0) 0 0 (T.setTop (mkF m 70 #[.val (.int v0), .val (.int v1), .val (.int v2)] []))
    exact own_b5_70 X C hh v0 v1 v2
  · show own_Fin p e below s (own_QP (some (.int (own_f5_64 v0 v1 v2))) h0) 0 0 _
    rw [show (own_f5_64 v0 v1 v2) = (own_f5_79 v0 v1 v2) from if_neg hq]
    refine own_go (fun tgt => XS.icmpYes X.here hx rfl (pc0 := 67) (pc' := 79) rfl (hb hby own_d5_67) rfl (feq hq).2 (by decide) (by decide)) ?_
    show own_Fin p e below s (own_QP (some (.int (own_f5_79 v0 v1 v2))) h0) 0 0 (T.setTop (mkF m 79 #[.val (.int v0), .val (.int v1), .val (.int v2)] []))
    exact own_b5_79 X C hh v0 v1 v2
def own_f5_58 (v0 : Int32) (v1 : Int32) (v2 : Int32) : Int32 := (v1 &&& (255 : Int32))
set_option maxRecDepth 65536 in
theorem own_b5_58 {l : Launch} {p : Program} {e : Env} {below : List Frame} {s : State} {m : MethodId} {meth : Method} {c : Code} {Z : State} {a0 args : Array Value} {T : State} {h0 : Heap} (X : Stand p l e ({ frames := 0, cells := 0, slots := 0, locals := 0 } : Room) s m args below meth c T [] 0 0) (C : own_Ctx p s m meth c Z a0 tables_1 (⟨"com/example/binlogue/binlogue/binlog/FormatDescriptionEventPostHeaderLengthPinLaw", "unsignedByte", "(III)I"⟩ : MethodName) method_3_code 3 (some .int)) (hh : T.heap = h0) (v0 : Int32) (v1 : Int32) (v2 : Int32) :
    own_Fin p e below s (own_QP (some (.int (own_f5_58 v0 v1 v2))) h0) 0 0 (T.setTop (mkF m 58 #[.val (.int v0), .val (.int v1), .val (.int v2)] [])) := by
  obtain ⟨hx, hby, hml, hZ, hown, hnm, hret, hlk, hw⟩ := id C
  refine own_go (fun tgt => XS.iloadN X.here hx rfl (hb hby own_d5_58) rfl) ?_
  show own_Fin p e below s (own_QP (some (.int (own_f5_58 v0 v1 v2))) h0) 0 0 (T.setTop (mkF m 59 #[.val (.int v0), .val (.int v1), .val (.int v2)] [(.int v1)]))
  refine own_go (fun tgt => XS.sipush X.here hx rfl (hb hby own_d5_59)) ?_
  show own_Fin p e below s (own_QP (some (.int (own_f5_58 v0 v1 v2))) h0) 0 0 (T.setTop (mkF m 62 #[.val (.int v0), .val (.int v1), .val (.int v2)] [(.int (255 : Int32)), (.int v1)]))
  refine own_go (fun tgt => XS.iand X.here hx rfl (hb hby own_d5_62) rfl) ?_
  show own_Fin p e below s (own_QP (some (.int (own_f5_58 v0 v1 v2))) h0) 0 0 (T.setTop (mkF m 63 #[.val (.int v0), .val (.int v1), .val (.int v2)] [(.int (v1 &&& (255 : Int32)))]))
  exact own_ret X hlk hx (t := .int) hret rfl (Or.inl ⟨rfl, by simp, _, rfl⟩) (hb hby own_d5_63) ⟨rfl, rfl, hh⟩ (by decide) (by decide)
def own_f5_53 (v0 : Int32) (v1 : Int32) (v2 : Int32) : Int32 := if v2 = (5 : Int32) then (own_f5_58 v0 v1 v2) else (own_f5_64 v0 v1 v2)
set_option maxRecDepth 65536 in
theorem own_b5_53 {l : Launch} {p : Program} {e : Env} {below : List Frame} {s : State} {m : MethodId} {meth : Method} {c : Code} {Z : State} {a0 args : Array Value} {T : State} {h0 : Heap} (X : Stand p l e ({ frames := 0, cells := 0, slots := 0, locals := 0 } : Room) s m args below meth c T [] 0 0) (C : own_Ctx p s m meth c Z a0 tables_1 (⟨"com/example/binlogue/binlogue/binlog/FormatDescriptionEventPostHeaderLengthPinLaw", "unsignedByte", "(III)I"⟩ : MethodName) method_3_code 3 (some .int)) (hh : T.heap = h0) (v0 : Int32) (v1 : Int32) (v2 : Int32) :
    own_Fin p e below s (own_QP (some (.int (own_f5_53 v0 v1 v2))) h0) 0 0 (T.setTop (mkF m 53 #[.val (.int v0), .val (.int v1), .val (.int v2)] [])) := by
  obtain ⟨hx, hby, hml, hZ, hown, hnm, hret, hlk, hw⟩ := id C
  refine own_go (fun tgt => XS.iloadN X.here hx rfl (hb hby own_d5_53) rfl) ?_
  show own_Fin p e below s (own_QP (some (.int (own_f5_53 v0 v1 v2))) h0) 0 0 (T.setTop (mkF m 54 #[.val (.int v0), .val (.int v1), .val (.int v2)] [(.int v2)]))
  refine own_go (fun tgt => XS.iconst X.here hx rfl (hb hby own_d5_54)) ?_
  show own_Fin p e below s (own_QP (some (.int (own_f5_53 v0 v1 v2))) h0) 0 0 (T.setTop (mkF m 55 #[.val (.int v0), .val (.int v1), .val (.int v2)] [(.int (5 : Int32)), (.int v2)]))
  by_cases hq : v2 = (5 : Int32)
  · show own_Fin p e below s (own_QP (some (.int (own_f5_53 v0 v1 v2))) h0) 0 0 _
    rw [show (own_f5_53 v0 v1 v2) = (own_f5_58 v0 v1 v2) from if_pos hq]
    refine own_go (fun tgt => XS.icmpNo X.here hx rfl (hb hby own_d5_55) rfl (teq hq).2) ?_
    show own_Fin p e below s (own_QP (some (.int (own_f5_58 v0 v1 v2))) h0) 0 0 (T.setTop (mkF m 58 #[.val (.int v0), .val (.int v1), .val (.int v2)] []))
    exact own_b5_58 X C hh v0 v1 v2
  · show own_Fin p e below s (own_QP (some (.int (own_f5_53 v0 v1 v2))) h0) 0 0 _
    rw [show (own_f5_53 v0 v1 v2) = (own_f5_64 v0 v1 v2) from if_neg hq]
    refine own_go (fun tgt => XS.icmpYes X.here hx rfl (pc0 := 55) (pc' := 64) rfl (hb hby own_d5_55) rfl (feq hq).2 (by decide) (by decide)) ?_
    show own_Fin p e below s (own_QP (some (.int (own_f5_64 v0 v1 v2))) h0) 0 0 (T.setTop (mkF m 64 #[.val (.int v0), .val (.int v1), .val (.int v2)] []))
    exact own_b5_64 X C hh v0 v1 v2
def own_f5_44 (v0 : Int32) (v1 : Int32) (v2 : Int32) : Int32 := (((v0.toUInt32 >>> ((24 : Int32) &&& 31).toUInt32).toInt32) &&& (255 : Int32))
set_option maxRecDepth 65536 in
theorem own_b5_44 {l : Launch} {p : Program} {e : Env} {below : List Frame} {s : State} {m : MethodId} {meth : Method} {c : Code} {Z : State} {a0 args : Array Value} {T : State} {h0 : Heap} (X : Stand p l e ({ frames := 0, cells := 0, slots := 0, locals := 0 } : Room) s m args below meth c T [] 0 0) (C : own_Ctx p s m meth c Z a0 tables_1 (⟨"com/example/binlogue/binlogue/binlog/FormatDescriptionEventPostHeaderLengthPinLaw", "unsignedByte", "(III)I"⟩ : MethodName) method_3_code 3 (some .int)) (hh : T.heap = h0) (v0 : Int32) (v1 : Int32) (v2 : Int32) :
    own_Fin p e below s (own_QP (some (.int (own_f5_44 v0 v1 v2))) h0) 0 0 (T.setTop (mkF m 44 #[.val (.int v0), .val (.int v1), .val (.int v2)] [])) := by
  obtain ⟨hx, hby, hml, hZ, hown, hnm, hret, hlk, hw⟩ := id C
  refine own_go (fun tgt => XS.iloadN X.here hx rfl (hb hby own_d5_44) rfl) ?_
  show own_Fin p e below s (own_QP (some (.int (own_f5_44 v0 v1 v2))) h0) 0 0 (T.setTop (mkF m 45 #[.val (.int v0), .val (.int v1), .val (.int v2)] [(.int v0)]))
  refine own_go (fun tgt => XS.bipush X.here hx rfl (hb hby own_d5_45)) ?_
  show own_Fin p e below s (own_QP (some (.int (own_f5_44 v0 v1 v2))) h0) 0 0 (T.setTop (mkF m 47 #[.val (.int v0), .val (.int v1), .val (.int v2)] [(.int (24 : Int32)), (.int v0)]))
  refine own_go (fun tgt => XS.iushr X.here hx rfl (hb hby own_d5_47) rfl) ?_
  show own_Fin p e below s (own_QP (some (.int (own_f5_44 v0 v1 v2))) h0) 0 0 (T.setTop (mkF m 48 #[.val (.int v0), .val (.int v1), .val (.int v2)] [(.int ((v0.toUInt32 >>> ((24 : Int32) &&& 31).toUInt32).toInt32))]))
  refine own_go (fun tgt => XS.sipush X.here hx rfl (hb hby own_d5_48)) ?_
  show own_Fin p e below s (own_QP (some (.int (own_f5_44 v0 v1 v2))) h0) 0 0 (T.setTop (mkF m 51 #[.val (.int v0), .val (.int v1), .val (.int v2)] [(.int (255 : Int32)), (.int ((v0.toUInt32 >>> ((24 : Int32) &&& 31).toUInt32).toInt32))]))
  refine own_go (fun tgt => XS.iand X.here hx rfl (hb hby own_d5_51) rfl) ?_
  show own_Fin p e below s (own_QP (some (.int (own_f5_44 v0 v1 v2))) h0) 0 0 (T.setTop (mkF m 52 #[.val (.int v0), .val (.int v1), .val (.int v2)] [(.int (((v0.toUInt32 >>> ((24 : Int32) &&& 31).toUInt32).toInt32) &&& (255 : Int32)))]))
  exact own_ret X hlk hx (t := .int) hret rfl (Or.inl ⟨rfl, by simp, _, rfl⟩) (hb hby own_d5_52) ⟨rfl, rfl, hh⟩ (by decide) (by decide)
def own_f5_39 (v0 : Int32) (v1 : Int32) (v2 : Int32) : Int32 := if v2 = (4 : Int32) then (own_f5_44 v0 v1 v2) else (own_f5_53 v0 v1 v2)
set_option maxRecDepth 65536 in
theorem own_b5_39 {l : Launch} {p : Program} {e : Env} {below : List Frame} {s : State} {m : MethodId} {meth : Method} {c : Code} {Z : State} {a0 args : Array Value} {T : State} {h0 : Heap} (X : Stand p l e ({ frames := 0, cells := 0, slots := 0, locals := 0 } : Room) s m args below meth c T [] 0 0) (C : own_Ctx p s m meth c Z a0 tables_1 (⟨"com/example/binlogue/binlogue/binlog/FormatDescriptionEventPostHeaderLengthPinLaw", "unsignedByte", "(III)I"⟩ : MethodName) method_3_code 3 (some .int)) (hh : T.heap = h0) (v0 : Int32) (v1 : Int32) (v2 : Int32) :
    own_Fin p e below s (own_QP (some (.int (own_f5_39 v0 v1 v2))) h0) 0 0 (T.setTop (mkF m 39 #[.val (.int v0), .val (.int v1), .val (.int v2)] [])) := by
  obtain ⟨hx, hby, hml, hZ, hown, hnm, hret, hlk, hw⟩ := id C
  refine own_go (fun tgt => XS.iloadN X.here hx rfl (hb hby own_d5_39) rfl) ?_
  show own_Fin p e below s (own_QP (some (.int (own_f5_39 v0 v1 v2))) h0) 0 0 (T.setTop (mkF m 40 #[.val (.int v0), .val (.int v1), .val (.int v2)] [(.int v2)]))
  refine own_go (fun tgt => XS.iconst X.here hx rfl (hb hby own_d5_40)) ?_
  show own_Fin p e below s (own_QP (some (.int (own_f5_39 v0 v1 v2))) h0) 0 0 (T.setTop (mkF m 41 #[.val (.int v0), .val (.int v1), .val (.int v2)] [(.int (4 : Int32)), (.int v2)]))
  by_cases hq : v2 = (4 : Int32)
  · show own_Fin p e below s (own_QP (some (.int (own_f5_39 v0 v1 v2))) h0) 0 0 _
    rw [show (own_f5_39 v0 v1 v2) = (own_f5_44 v0 v1 v2) from if_pos hq]
    refine own_go (fun tgt => XS.icmpNo X.here hx rfl (hb hby own_d5_41) rfl (teq hq).2) ?_
    show own_Fin p e below s (own_QP (some (.int (own_f5_44 v0 v1 v2))) h0) 0 0 (T.setTop (mkF m 44 #[.val (.int v0), .val (.int v1), .val (.int v2)] []))
    exact own_b5_44 X C hh v0 v1 v2
  · show own_Fin p e below s (own_QP (some (.int (own_f5_39 v0 v1 v2))) h0) 0 0 _
    rw [show (own_f5_39 v0 v1 v2) = (own_f5_53 v0 v1 v2) from if_neg hq]
    refine own_go (fun tgt => XS.icmpYes X.here hx rfl (pc0 := 41) (pc' := 53) rfl (hb hby own_d5_41) rfl (feq hq).2 (by decide) (by decide)) ?_
    show own_Fin p e below s (own_QP (some (.int (own_f5_53 v0 v1 v2))) h0) 0 0 (T.setTop (mkF m 53 #[.val (.int v0), .val (.int v1), .val (.int v2)] []))
    exact own_b5_53 X C hh v0 v1 v2
def own_f5_30 (v0 : Int32) (v1 : Int32) (v2 : Int32) : Int32 := (((v0.toUInt32 >>> ((16 : Int32) &&& 31).toUInt32).toInt32) &&& (255 : Int32))
set_option maxRecDepth 65536 in
theorem own_b5_30 {l : Launch} {p : Program} {e : Env} {below : List Frame} {s : State} {m : MethodId} {meth : Method} {c : Code} {Z : State} {a0 args : Array Value} {T : State} {h0 : Heap} (X : Stand p l e ({ frames := 0, cells := 0, slots := 0, locals := 0 } : Room) s m args below meth c T [] 0 0) (C : own_Ctx p s m meth c Z a0 tables_1 (⟨"com/example/binlogue/binlogue/binlog/FormatDescriptionEventPostHeaderLengthPinLaw", "unsignedByte", "(III)I"⟩ : MethodName) method_3_code 3 (some .int)) (hh : T.heap = h0) (v0 : Int32) (v1 : Int32) (v2 : Int32) :
    own_Fin p e below s (own_QP (some (.int (own_f5_30 v0 v1 v2))) h0) 0 0 (T.setTop (mkF m 30 #[.val (.int v0), .val (.int v1), .val (.int v2)] [])) := by
  obtain ⟨hx, hby, hml, hZ, hown, hnm, hret, hlk, hw⟩ := id C
  refine own_go (fun tgt => XS.iloadN X.here hx rfl (hb hby own_d5_30) rfl) ?_
  show own_Fin p e below s (own_QP (some (.int (own_f5_30 v0 v1 v2))) h0) 0 0 (T.setTop (mkF m 31 #[.val (.int v0), .val (.int v1), .val (.int v2)] [(.int v0)]))
  refine own_go (fun tgt => XS.bipush X.here hx rfl (hb hby own_d5_31)) ?_
  show own_Fin p e below s (own_QP (some (.int (own_f5_30 v0 v1 v2))) h0) 0 0 (T.setTop (mkF m 33 #[.val (.int v0), .val (.int v1), .val (.int v2)] [(.int (16 : Int32)), (.int v0)]))
  refine own_go (fun tgt => XS.iushr X.here hx rfl (hb hby own_d5_33) rfl) ?_
  show own_Fin p e below s (own_QP (some (.int (own_f5_30 v0 v1 v2))) h0) 0 0 (T.setTop (mkF m 34 #[.val (.int v0), .val (.int v1), .val (.int v2)] [(.int ((v0.toUInt32 >>> ((16 : Int32) &&& 31).toUInt32).toInt32))]))
  refine own_go (fun tgt => XS.sipush X.here hx rfl (hb hby own_d5_34)) ?_
  show own_Fin p e below s (own_QP (some (.int (own_f5_30 v0 v1 v2))) h0) 0 0 (T.setTop (mkF m 37 #[.val (.int v0), .val (.int v1), .val (.int v2)] [(.int (255 : Int32)), (.int ((v0.toUInt32 >>> ((16 : Int32) &&& 31).toUInt32).toInt32))]))
  refine own_go (fun tgt => XS.iand X.here hx rfl (hb hby own_d5_37) rfl) ?_
  show own_Fin p e below s (own_QP (some (.int (own_f5_30 v0 v1 v2))) h0) 0 0 (T.setTop (mkF m 38 #[.val (.int v0), .val (.int v1), .val (.int v2)] [(.int (((v0.toUInt32 >>> ((16 : Int32) &&& 31).toUInt32).toInt32) &&& (255 : Int32)))]))
  exact own_ret X hlk hx (t := .int) hret rfl (Or.inl ⟨rfl, by simp, _, rfl⟩) (hb hby own_d5_38) ⟨rfl, rfl, hh⟩ (by decide) (by decide)
def own_f5_25 (v0 : Int32) (v1 : Int32) (v2 : Int32) : Int32 := if v2 = (3 : Int32) then (own_f5_30 v0 v1 v2) else (own_f5_39 v0 v1 v2)
set_option maxRecDepth 65536 in
theorem own_b5_25 {l : Launch} {p : Program} {e : Env} {below : List Frame} {s : State} {m : MethodId} {meth : Method} {c : Code} {Z : State} {a0 args : Array Value} {T : State} {h0 : Heap} (X : Stand p l e ({ frames := 0, cells := 0, slots := 0, locals := 0 } : Room) s m args below meth c T [] 0 0) (C : own_Ctx p s m meth c Z a0 tables_1 (⟨"com/example/binlogue/binlogue/binlog/FormatDescriptionEventPostHeaderLengthPinLaw", "unsignedByte", "(III)I"⟩ : MethodName) method_3_code 3 (some .int)) (hh : T.heap = h0) (v0 : Int32) (v1 : Int32) (v2 : Int32) :
    own_Fin p e below s (own_QP (some (.int (own_f5_25 v0 v1 v2))) h0) 0 0 (T.setTop (mkF m 25 #[.val (.int v0), .val (.int v1), .val (.int v2)] [])) := by
  obtain ⟨hx, hby, hml, hZ, hown, hnm, hret, hlk, hw⟩ := id C
  refine own_go (fun tgt => XS.iloadN X.here hx rfl (hb hby own_d5_25) rfl) ?_
  show own_Fin p e below s (own_QP (some (.int (own_f5_25 v0 v1 v2))) h0) 0 0 (T.setTop (mkF m 26 #[.val (.int v0), .val (.int v1), .val (.int v2)] [(.int v2)]))
  refine own_go (fun tgt => XS.iconst X.here hx rfl (hb hby own_d5_26)) ?_
  show own_Fin p e below s (own_QP (some (.int (own_f5_25 v0 v1 v2))) h0) 0 0 (T.setTop (mkF m 27 #[.val (.int v0), .val (.int v1), .val (.int v2)] [(.int (3 : Int32)), (.int v2)]))
  by_cases hq : v2 = (3 : Int32)
  · show own_Fin p e below s (own_QP (some (.int (own_f5_25 v0 v1 v2))) h0) 0 0 _
    rw [show (own_f5_25 v0 v1 v2) = (own_f5_30 v0 v1 v2) from if_pos hq]
    refine own_go (fun tgt => XS.icmpNo X.here hx rfl (hb hby own_d5_27) rfl (teq hq).2) ?_
    show own_Fin p e below s (own_QP (some (.int (own_f5_30 v0 v1 v2))) h0) 0 0 (T.setTop (mkF m 30 #[.val (.int v0), .val (.int v1), .val (.int v2)] []))
    exact own_b5_30 X C hh v0 v1 v2
  · show own_Fin p e below s (own_QP (some (.int (own_f5_25 v0 v1 v2))) h0) 0 0 _
    rw [show (own_f5_25 v0 v1 v2) = (own_f5_39 v0 v1 v2) from if_neg hq]
    refine own_go (fun tgt => XS.icmpYes X.here hx rfl (pc0 := 27) (pc' := 39) rfl (hb hby own_d5_27) rfl (feq hq).2 (by decide) (by decide)) ?_
    show own_Fin p e below s (own_QP (some (.int (own_f5_39 v0 v1 v2))) h0) 0 0 (T.setTop (mkF m 39 #[.val (.int v0), .val (.int v1), .val (.int v2)] []))
    exact own_b5_39 X C hh v0 v1 v2
def own_f5_16 (v0 : Int32) (v1 : Int32) (v2 : Int32) : Int32 := (((v0.toUInt32 >>> ((8 : Int32) &&& 31).toUInt32).toInt32) &&& (255 : Int32))
set_option maxRecDepth 65536 in
theorem own_b5_16 {l : Launch} {p : Program} {e : Env} {below : List Frame} {s : State} {m : MethodId} {meth : Method} {c : Code} {Z : State} {a0 args : Array Value} {T : State} {h0 : Heap} (X : Stand p l e ({ frames := 0, cells := 0, slots := 0, locals := 0 } : Room) s m args below meth c T [] 0 0) (C : own_Ctx p s m meth c Z a0 tables_1 (⟨"com/example/binlogue/binlogue/binlog/FormatDescriptionEventPostHeaderLengthPinLaw", "unsignedByte", "(III)I"⟩ : MethodName) method_3_code 3 (some .int)) (hh : T.heap = h0) (v0 : Int32) (v1 : Int32) (v2 : Int32) :
    own_Fin p e below s (own_QP (some (.int (own_f5_16 v0 v1 v2))) h0) 0 0 (T.setTop (mkF m 16 #[.val (.int v0), .val (.int v1), .val (.int v2)] [])) := by
  obtain ⟨hx, hby, hml, hZ, hown, hnm, hret, hlk, hw⟩ := id C
  refine own_go (fun tgt => XS.iloadN X.here hx rfl (hb hby own_d5_16) rfl) ?_
  show own_Fin p e below s (own_QP (some (.int (own_f5_16 v0 v1 v2))) h0) 0 0 (T.setTop (mkF m 17 #[.val (.int v0), .val (.int v1), .val (.int v2)] [(.int v0)]))
  refine own_go (fun tgt => XS.bipush X.here hx rfl (hb hby own_d5_17)) ?_
  show own_Fin p e below s (own_QP (some (.int (own_f5_16 v0 v1 v2))) h0) 0 0 (T.setTop (mkF m 19 #[.val (.int v0), .val (.int v1), .val (.int v2)] [(.int (8 : Int32)), (.int v0)]))
  refine own_go (fun tgt => XS.iushr X.here hx rfl (hb hby own_d5_19) rfl) ?_
  show own_Fin p e below s (own_QP (some (.int (own_f5_16 v0 v1 v2))) h0) 0 0 (T.setTop (mkF m 20 #[.val (.int v0), .val (.int v1), .val (.int v2)] [(.int ((v0.toUInt32 >>> ((8 : Int32) &&& 31).toUInt32).toInt32))]))
  refine own_go (fun tgt => XS.sipush X.here hx rfl (hb hby own_d5_20)) ?_
  show own_Fin p e below s (own_QP (some (.int (own_f5_16 v0 v1 v2))) h0) 0 0 (T.setTop (mkF m 23 #[.val (.int v0), .val (.int v1), .val (.int v2)] [(.int (255 : Int32)), (.int ((v0.toUInt32 >>> ((8 : Int32) &&& 31).toUInt32).toInt32))]))
  refine own_go (fun tgt => XS.iand X.here hx rfl (hb hby own_d5_23) rfl) ?_
  show own_Fin p e below s (own_QP (some (.int (own_f5_16 v0 v1 v2))) h0) 0 0 (T.setTop (mkF m 24 #[.val (.int v0), .val (.int v1), .val (.int v2)] [(.int (((v0.toUInt32 >>> ((8 : Int32) &&& 31).toUInt32).toInt32) &&& (255 : Int32)))]))
  exact own_ret X hlk hx (t := .int) hret rfl (Or.inl ⟨rfl, by simp, _, rfl⟩) (hb hby own_d5_24) ⟨rfl, rfl, hh⟩ (by decide) (by decide)
def own_f5_11 (v0 : Int32) (v1 : Int32) (v2 : Int32) : Int32 := if v2 = (2 : Int32) then (own_f5_16 v0 v1 v2) else (own_f5_25 v0 v1 v2)
set_option maxRecDepth 65536 in
theorem own_b5_11 {l : Launch} {p : Program} {e : Env} {below : List Frame} {s : State} {m : MethodId} {meth : Method} {c : Code} {Z : State} {a0 args : Array Value} {T : State} {h0 : Heap} (X : Stand p l e ({ frames := 0, cells := 0, slots := 0, locals := 0 } : Room) s m args below meth c T [] 0 0) (C : own_Ctx p s m meth c Z a0 tables_1 (⟨"com/example/binlogue/binlogue/binlog/FormatDescriptionEventPostHeaderLengthPinLaw", "unsignedByte", "(III)I"⟩ : MethodName) method_3_code 3 (some .int)) (hh : T.heap = h0) (v0 : Int32) (v1 : Int32) (v2 : Int32) :
    own_Fin p e below s (own_QP (some (.int (own_f5_11 v0 v1 v2))) h0) 0 0 (T.setTop (mkF m 11 #[.val (.int v0), .val (.int v1), .val (.int v2)] [])) := by
  obtain ⟨hx, hby, hml, hZ, hown, hnm, hret, hlk, hw⟩ := id C
  refine own_go (fun tgt => XS.iloadN X.here hx rfl (hb hby own_d5_11) rfl) ?_
  show own_Fin p e below s (own_QP (some (.int (own_f5_11 v0 v1 v2))) h0) 0 0 (T.setTop (mkF m 12 #[.val (.int v0), .val (.int v1), .val (.int v2)] [(.int v2)]))
  refine own_go (fun tgt => XS.iconst X.here hx rfl (hb hby own_d5_12)) ?_
  show own_Fin p e below s (own_QP (some (.int (own_f5_11 v0 v1 v2))) h0) 0 0 (T.setTop (mkF m 13 #[.val (.int v0), .val (.int v1), .val (.int v2)] [(.int (2 : Int32)), (.int v2)]))
  by_cases hq : v2 = (2 : Int32)
  · show own_Fin p e below s (own_QP (some (.int (own_f5_11 v0 v1 v2))) h0) 0 0 _
    rw [show (own_f5_11 v0 v1 v2) = (own_f5_16 v0 v1 v2) from if_pos hq]
    refine own_go (fun tgt => XS.icmpNo X.here hx rfl (hb hby own_d5_13) rfl (teq hq).2) ?_
    show own_Fin p e below s (own_QP (some (.int (own_f5_16 v0 v1 v2))) h0) 0 0 (T.setTop (mkF m 16 #[.val (.int v0), .val (.int v1), .val (.int v2)] []))
    exact own_b5_16 X C hh v0 v1 v2
  · show own_Fin p e below s (own_QP (some (.int (own_f5_11 v0 v1 v2))) h0) 0 0 _
    rw [show (own_f5_11 v0 v1 v2) = (own_f5_25 v0 v1 v2) from if_neg hq]
    refine own_go (fun tgt => XS.icmpYes X.here hx rfl (pc0 := 13) (pc' := 25) rfl (hb hby own_d5_13) rfl (feq hq).2 (by decide) (by decide)) ?_
    show own_Fin p e below s (own_QP (some (.int (own_f5_25 v0 v1 v2))) h0) 0 0 (T.setTop (mkF m 25 #[.val (.int v0), .val (.int v1), .val (.int v2)] []))
    exact own_b5_25 X C hh v0 v1 v2
def own_f5_5 (v0 : Int32) (v1 : Int32) (v2 : Int32) : Int32 := (v0 &&& (255 : Int32))
set_option maxRecDepth 65536 in
theorem own_b5_5 {l : Launch} {p : Program} {e : Env} {below : List Frame} {s : State} {m : MethodId} {meth : Method} {c : Code} {Z : State} {a0 args : Array Value} {T : State} {h0 : Heap} (X : Stand p l e ({ frames := 0, cells := 0, slots := 0, locals := 0 } : Room) s m args below meth c T [] 0 0) (C : own_Ctx p s m meth c Z a0 tables_1 (⟨"com/example/binlogue/binlogue/binlog/FormatDescriptionEventPostHeaderLengthPinLaw", "unsignedByte", "(III)I"⟩ : MethodName) method_3_code 3 (some .int)) (hh : T.heap = h0) (v0 : Int32) (v1 : Int32) (v2 : Int32) :
    own_Fin p e below s (own_QP (some (.int (own_f5_5 v0 v1 v2))) h0) 0 0 (T.setTop (mkF m 5 #[.val (.int v0), .val (.int v1), .val (.int v2)] [])) := by
  obtain ⟨hx, hby, hml, hZ, hown, hnm, hret, hlk, hw⟩ := id C
  refine own_go (fun tgt => XS.iloadN X.here hx rfl (hb hby own_d5_5) rfl) ?_
  show own_Fin p e below s (own_QP (some (.int (own_f5_5 v0 v1 v2))) h0) 0 0 (T.setTop (mkF m 6 #[.val (.int v0), .val (.int v1), .val (.int v2)] [(.int v0)]))
  refine own_go (fun tgt => XS.sipush X.here hx rfl (hb hby own_d5_6)) ?_
  show own_Fin p e below s (own_QP (some (.int (own_f5_5 v0 v1 v2))) h0) 0 0 (T.setTop (mkF m 9 #[.val (.int v0), .val (.int v1), .val (.int v2)] [(.int (255 : Int32)), (.int v0)]))
  refine own_go (fun tgt => XS.iand X.here hx rfl (hb hby own_d5_9) rfl) ?_
  show own_Fin p e below s (own_QP (some (.int (own_f5_5 v0 v1 v2))) h0) 0 0 (T.setTop (mkF m 10 #[.val (.int v0), .val (.int v1), .val (.int v2)] [(.int (v0 &&& (255 : Int32)))]))
  exact own_ret X hlk hx (t := .int) hret rfl (Or.inl ⟨rfl, by simp, _, rfl⟩) (hb hby own_d5_10) ⟨rfl, rfl, hh⟩ (by decide) (by decide)
def own_f5_0 (v0 : Int32) (v1 : Int32) (v2 : Int32) : Int32 := if v2 = (1 : Int32) then (own_f5_5 v0 v1 v2) else (own_f5_11 v0 v1 v2)
set_option maxRecDepth 65536 in
theorem own_b5_0 {l : Launch} {p : Program} {e : Env} {below : List Frame} {s : State} {m : MethodId} {meth : Method} {c : Code} {Z : State} {a0 args : Array Value} {T : State} {h0 : Heap} (X : Stand p l e ({ frames := 0, cells := 0, slots := 0, locals := 0 } : Room) s m args below meth c T [] 0 0) (C : own_Ctx p s m meth c Z a0 tables_1 (⟨"com/example/binlogue/binlogue/binlog/FormatDescriptionEventPostHeaderLengthPinLaw", "unsignedByte", "(III)I"⟩ : MethodName) method_3_code 3 (some .int)) (hh : T.heap = h0) (v0 : Int32) (v1 : Int32) (v2 : Int32) :
    own_Fin p e below s (own_QP (some (.int (own_f5_0 v0 v1 v2))) h0) 0 0 (T.setTop (mkF m 0 #[.val (.int v0), .val (.int v1), .val (.int v2)] [])) := by
  obtain ⟨hx, hby, hml, hZ, hown, hnm, hret, hlk, hw⟩ := id C
  refine own_go (fun tgt => XS.iloadN X.here hx rfl (hb hby own_d5_0) rfl) ?_
  show own_Fin p e below s (own_QP (some (.int (own_f5_0 v0 v1 v2))) h0) 0 0 (T.setTop (mkF m 1 #[.val (.int v0), .val (.int v1), .val (.int v2)] [(.int v2)]))
  refine own_go (fun tgt => XS.iconst X.here hx rfl (hb hby own_d5_1)) ?_
  show own_Fin p e below s (own_QP (some (.int (own_f5_0 v0 v1 v2))) h0) 0 0 (T.setTop (mkF m 2 #[.val (.int v0), .val (.int v1), .val (.int v2)] [(.int (1 : Int32)), (.int v2)]))
  by_cases hq : v2 = (1 : Int32)
  · show own_Fin p e below s (own_QP (some (.int (own_f5_0 v0 v1 v2))) h0) 0 0 _
    rw [show (own_f5_0 v0 v1 v2) = (own_f5_5 v0 v1 v2) from if_pos hq]
    refine own_go (fun tgt => XS.icmpNo X.here hx rfl (hb hby own_d5_2) rfl (teq hq).2) ?_
    show own_Fin p e below s (own_QP (some (.int (own_f5_5 v0 v1 v2))) h0) 0 0 (T.setTop (mkF m 5 #[.val (.int v0), .val (.int v1), .val (.int v2)] []))
    exact own_b5_5 X C hh v0 v1 v2
  · show own_Fin p e below s (own_QP (some (.int (own_f5_0 v0 v1 v2))) h0) 0 0 _
    rw [show (own_f5_0 v0 v1 v2) = (own_f5_11 v0 v1 v2) from if_neg hq]
    refine own_go (fun tgt => XS.icmpYes X.here hx rfl (pc0 := 2) (pc' := 11) rfl (hb hby own_d5_2) rfl (feq hq).2 (by decide) (by decide)) ?_
    show own_Fin p e below s (own_QP (some (.int (own_f5_11 v0 v1 v2))) h0) 0 0 (T.setTop (mkF m 11 #[.val (.int v0), .val (.int v1), .val (.int v2)] []))
    exact own_b5_11 X C hh v0 v1 v2
theorem own_pn1 : plainName "com/example/binlogue/binlogue/binlog/FormatDescriptionEventPostHeaderLengthPinLaw" = true := by first | (simp [plainName, overriddenIn]; done) | decide +kernel
theorem own_c5 (l : Launch) (Z : State) (a0 : Array Value) (hw : ∀ d ∈ tables_1, d.before a0 Z = true) (x0 : Int32) (x1 : Int32) (x2 : Int32) (h0 : Heap) : own_Met l Z (⟨"com/example/binlogue/binlogue/binlog/FormatDescriptionEventPostHeaderLengthPinLaw", "unsignedByte", "(III)I"⟩ : MethodName) method_3_code 3 (some .int) [] ({ frames := 0, cells := 0, slots := 0, locals := 0 } : Room) #[(.int x0), (.int x1), (.int x2)] h0 (own_QP (some (.int (own_f5_0 x0 x1 x2))) h0) :=
  own_enter (plainFor_of_name own_pn1) (own_ef5 x0 x1 x2) hw (fun p e s m below meth c T X C hh => own_b5_0 X C hh x0 x1 x2)
def own_QI (Z : State) (a b : Addr) (h0 : Heap) (n0 : Nat) (v : Option Value) (h : Heap) (L : List Loc) : Prop := v = none ∧ Fr n0 L ∧ Keep h0 h [a] ∧ Exa Z h a "com/example/binlogue/binlogue/binlog/FormatDescriptionEvent" ∧ Fld Z h a "com/example/binlogue/binlogue/binlog/FormatDescriptionEvent" "postHeaderLengths" "[B" (.ref b)
theorem own_d1_0 : decode prog_21_method_1_code 0 = .ok (.aload_n 0, 1) := by decide +kernel
theorem own_d1_1 : decode prog_21_method_1_code 1 = .ok (.invokespecial 1, 3) := by decide +kernel
theorem own_d1_4 : decode prog_21_method_1_code 4 = .ok (.aload_n 0, 1) := by decide +kernel
theorem own_d1_5 : decode prog_21_method_1_code 5 = .ok (.aload_n 1, 1) := by decide +kernel
theorem own_d1_6 : decode prog_21_method_1_code 6 = .ok (.putfield 7, 3) := by decide +kernel
theorem own_d1_9 : decode prog_21_method_1_code 9 = .ok (.aload_n 0, 1) := by decide +kernel
theorem own_d1_10 : decode prog_21_method_1_code 10 = .ok (.aload_n 2, 1) := by decide +kernel
theorem own_d1_11 : decode prog_21_method_1_code 11 = .ok (.putfield 13, 3) := by decide +kernel
theorem own_d1_14 : decode prog_21_method_1_code 14 = .ok (.aload_n 0, 1) := by decide +kernel
theorem own_d1_15 : decode prog_21_method_1_code 15 = .ok (.iload_n 3, 1) := by decide +kernel
theorem own_d1_16 : decode prog_21_method_1_code 16 = .ok (.putfield 17, 3) := by decide +kernel
theorem own_d1_19 : decode prog_21_method_1_code 19 = .ok (.return_, 1) := by decide +kernel
theorem own_ef1 (x0 : Addr) (x1 : Addr) (x2 : Addr) (x3 : Int32) : ∀ m, entryFrame m #[(.ref x0), (.ref x1), (.ref x2), (.int x3)] 4 = mkF m 0 #[.val (.ref x0), .val (.ref x1), .val (.ref x2), .val (.int x3)] [] := fun m => by first | (simp [entryFrame, mkF, argsToLocals, Value.category]; done) | rfl
set_option maxRecDepth 65536 in
set_option maxHeartbeats 40000000 in
theorem own_ini_w {l : Launch} {p : Program} {e : Env} {below : List Frame} {s : State} {m : MethodId} {meth : Method} {c : Code} {Z : State} {a0 args : Array Value} {T : State} {h0 : Heap} (X : Stand p l e ({ frames := 2, cells := 0, slots := 0, locals := 24 } : Room) s m args below meth c T [] 0 0) (C : own_Ctx p s m meth c Z a0 tables_1 (⟨"com/example/binlogue/binlogue/binlog/FormatDescriptionEvent", "<init>", "(Ljava/lang/String;[BZ)V"⟩ : MethodName) prog_21_method_1_code 4 none) (hh : T.heap = h0) (x0 : Addr) (x1 : Addr) (x2 : Addr) (x3 : Int32)  (n0 : Nat) (Z0 : n0 ≤ h0.size) (g0 : n0 ≤ x0) (hE : Exa Z h0 x0 "com/example/binlogue/binlogue/binlog/FormatDescriptionEvent") (hserverVersion : Fld Z h0 x0 "com/example/binlogue/binlogue/binlog/FormatDescriptionEvent" "serverVersion" "Ljava/lang/String;" .null) (hpostHeaderLengths : Fld Z h0 x0 "com/example/binlogue/binlogue/binlog/FormatDescriptionEvent" "postHeaderLengths" "[B" .null) (hchecksummed : Fld Z h0 x0 "com/example/binlogue/binlogue/binlog/FormatDescriptionEvent" "checksummed" "Z" (.int (0 : Int32))) :
    own_Fin p e below s (own_QI Z x0 x2 h0 n0) 0 0 (T.setTop (mkF m 0 #[.val (.ref x0), .val (.ref x1), .val (.ref x2), .val (.int x3)] [])) := by
  obtain ⟨hx, hby, hml, hZ, hown, hnm, hret, hlk, hw⟩ := id C
  show own_Fin p e below s (own_QI Z x0 x2 h0 n0) 0 0 (T.setTop (mkF m 0 #[.val (.ref x0), .val (.ref x1), .val (.ref x2), .val (.int x3)] []))
  have N0 := Fr.nil n0
  have KK0 : Keep h0 h0 [x0] := Keep.refl _ _
  refine own_go (fun tgt => XS.aloadN X.here hx rfl (hb hby own_d1_0) rfl rfl) ?_
  show own_Fin p e below s (own_QI Z x0 x2 h0 n0) 0 0 (T.setTop (mkF m 1 #[.val (.ref x0), .val (.ref x1), .val (.ref x2), .val (.int x3)] [(.ref x0)]))
  obtain ⟨T1, X1, e1, st1⟩ := own_callIP X hx hZ hh (y := (⟨"java/lang/Record", "<init>", "()V"⟩ : MethodName)) rfl hown (hw _ (List.mem_of_getElem? (i := 14) rfl)) (hw _ (List.mem_of_getElem? (i := 15) rfl)) (hw _ (List.mem_of_getElem? (i := 17) rfl)) (hw _ (List.mem_of_getElem? (i := 18) rfl)) (by decide) (a := x0) (argsL := []) (rest := []) (own_rec l Z a0 hw x0 _ 0 (Nat.zero_le _)) (by decide) 0 (by decide) (by decide) (by decide) (g := (mkF m 1 #[.val (.ref x0), .val (.ref x1), .val (.ref x2), .val (.int x3)] [(.ref x0)])) rfl (by rw [hml]; rfl) (lenOf own_pd0 rfl) rfl (by show 2 * 0 + _ ≤ _; exact Nat.le_of_eq rfl) (hb hby own_d1_1)
  refine own_go st1 ?_
  show own_Fin p e below s (own_QI Z x0 x2 h0 n0) 0 0 (T1.setTop (mkF m 4 #[.val (.ref x0), .val (.ref x1), .val (.ref x2), .val (.int x3)] []))
  refine own_go (fun tgt => XS.aloadN X1.here hx rfl (hb hby own_d1_4) rfl rfl) ?_
  show own_Fin p e below s (own_QI Z x0 x2 h0 n0) 0 0 (T1.setTop (mkF m 5 #[.val (.ref x0), .val (.ref x1), .val (.ref x2), .val (.int x3)] [(.ref x0)]))
  refine own_go (fun tgt => XS.aloadN X1.here hx rfl (hb hby own_d1_5) rfl rfl) ?_
  show own_Fin p e below s (own_QI Z x0 x2 h0 n0) 0 0 (T1.setTop (mkF m 6 #[.val (.ref x0), .val (.ref x1), .val (.ref x2), .val (.int x3)] [(.ref x1), (.ref x0)]))
  obtain ⟨T2, X2, W2, st2⟩ := own_putF X1 hx hZ e1 hown (hw _ (List.mem_of_getElem? (i := 22) rfl)) hserverVersion hE (Or.inr ⟨(hw _ (List.mem_of_getElem? (i := 23) rfl)), rfl, hnm⟩) (hw _ (List.mem_of_getElem? (i := 2) rfl)) (ty := (.object "java/lang/String")) (by decide) rfl rfl (g := (mkF m 6 #[.val (.ref x0), .val (.ref x1), .val (.ref x2), .val (.int x3)] [(.ref x1), (.ref x0)])) rfl rfl (hb hby own_d1_6)
  have N2 := Fr.snoc X2 N0 g0
  have E_x0_2 := hE.wr W2
  have F_x0_serverVersion_2 := hserverVersion.same W2
  have F_x0_postHeaderLengths_2 := hpostHeaderLengths.other W2 (Or.inr (slot_ne (a0 := a0) (Or.inr (hw _ (List.mem_of_getElem? (i := 25) rfl))) (Or.inr (hw _ (List.mem_of_getElem? (i := 23) rfl))) (by decide) (t := (.array .byte)) (t' := (.object "java/lang/String")) (by decide) (by decide)))
  have F_x0_checksummed_2 := hchecksummed.other W2 (Or.inr (slot_ne (a0 := a0) (Or.inr (hw _ (List.mem_of_getElem? (i := 27) rfl))) (Or.inr (hw _ (List.mem_of_getElem? (i := 23) rfl))) (by decide) (t := .boolean) (t' := (.object "java/lang/String")) (by decide) (by decide)))
  have KK2 := KK0.wr W2 (Or.inl (List.mem_of_getElem? (i := 0) rfl))
  refine own_go st2 ?_
  show own_Fin p e below s (own_QI Z x0 x2 h0 n0) 0 0 (T2.setTop (mkF m 9 #[.val (.ref x0), .val (.ref x1), .val (.ref x2), .val (.int x3)] []))
  refine own_go (fun tgt => XS.aloadN X2.here hx rfl (hb hby own_d1_9) rfl rfl) ?_
  show own_Fin p e below s (own_QI Z x0 x2 h0 n0) 0 0 (T2.setTop (mkF m 10 #[.val (.ref x0), .val (.ref x1), .val (.ref x2), .val (.int x3)] [(.ref x0)]))
  refine own_go (fun tgt => XS.aloadN X2.here hx rfl (hb hby own_d1_10) rfl rfl) ?_
  show own_Fin p e below s (own_QI Z x0 x2 h0 n0) 0 0 (T2.setTop (mkF m 11 #[.val (.ref x0), .val (.ref x1), .val (.ref x2), .val (.int x3)] [(.ref x2), (.ref x0)]))
  obtain ⟨T3, X3, W3, st3⟩ := own_putF X2 hx hZ rfl hown (hw _ (List.mem_of_getElem? (i := 24) rfl)) F_x0_postHeaderLengths_2 E_x0_2 (Or.inr ⟨(hw _ (List.mem_of_getElem? (i := 25) rfl)), rfl, hnm⟩) (hw _ (List.mem_of_getElem? (i := 2) rfl)) (ty := (.array .byte)) (by decide) rfl rfl (g := (mkF m 11 #[.val (.ref x0), .val (.ref x1), .val (.ref x2), .val (.int x3)] [(.ref x2), (.ref x0)])) rfl rfl (hb hby own_d1_11)
  have N3 := Fr.snoc X3 N2 g0
  have E_x0_3 := E_x0_2.wr W3
  have F_x0_serverVersion_3 := F_x0_serverVersion_2.other W3 (Or.inr (slot_ne (a0 := a0) (Or.inr (hw _ (List.mem_of_getElem? (i := 23) rfl))) (Or.inr (hw _ (List.mem_of_getElem? (i := 25) rfl))) (by decide) (t := (.object "java/lang/String")) (t' := (.array .byte)) (by decide) (by decide)))
  have F_x0_postHeaderLengths_3 := F_x0_postHeaderLengths_2.same W3
  have F_x0_checksummed_3 := F_x0_checksummed_2.other W3 (Or.inr (slot_ne (a0 := a0) (Or.inr (hw _ (List.mem_of_getElem? (i := 27) rfl))) (Or.inr (hw _ (List.mem_of_getElem? (i := 25) rfl))) (by decide) (t := .boolean) (t' := (.array .byte)) (by decide) (by decide)))
  have KK3 := KK2.wr W3 (Or.inl (List.mem_of_getElem? (i := 0) rfl))
  refine own_go st3 ?_
  show own_Fin p e below s (own_QI Z x0 x2 h0 n0) 0 0 (T3.setTop (mkF m 14 #[.val (.ref x0), .val (.ref x1), .val (.ref x2), .val (.int x3)] []))
  refine own_go (fun tgt => XS.aloadN X3.here hx rfl (hb hby own_d1_14) rfl rfl) ?_
  show own_Fin p e below s (own_QI Z x0 x2 h0 n0) 0 0 (T3.setTop (mkF m 15 #[.val (.ref x0), .val (.ref x1), .val (.ref x2), .val (.int x3)] [(.ref x0)]))
  refine own_go (fun tgt => XS.iloadN X3.here hx rfl (hb hby own_d1_15) rfl) ?_
  show own_Fin p e below s (own_QI Z x0 x2 h0 n0) 0 0 (T3.setTop (mkF m 16 #[.val (.ref x0), .val (.ref x1), .val (.ref x2), .val (.int x3)] [(.int x3), (.ref x0)]))
  obtain ⟨T4, X4, W4, st4⟩ := own_putFN X3 hx hZ rfl hown (hw _ (List.mem_of_getElem? (i := 26) rfl)) F_x0_checksummed_3 E_x0_3 (Or.inr ⟨(hw _ (List.mem_of_getElem? (i := 27) rfl)), rfl, hnm⟩) (hw _ (List.mem_of_getElem? (i := 2) rfl)) (ty := .boolean) (v' := .int (nar .boolean x3)) (by decide) rfl (fits_nar_bool _) (g := (mkF m 16 #[.val (.ref x0), .val (.ref x1), .val (.ref x2), .val (.int x3)] [(.int x3), (.ref x0)])) rfl rfl (hb hby own_d1_16)
  have N4 := Fr.snoc X4 N3 g0
  have E_x0_4 := E_x0_3.wr W4
  have F_x0_serverVersion_4 := F_x0_serverVersion_3.other W4 (Or.inr (slot_ne (a0 := a0) (Or.inr (hw _ (List.mem_of_getElem? (i := 23) rfl))) (Or.inr (hw _ (List.mem_of_getElem? (i := 27) rfl))) (by decide) (t := (.object "java/lang/String")) (t' := .boolean) (by decide) (by decide)))
  have F_x0_postHeaderLengths_4 := F_x0_postHeaderLengths_3.other W4 (Or.inr (slot_ne (a0 := a0) (Or.inr (hw _ (List.mem_of_getElem? (i := 25) rfl))) (Or.inr (hw _ (List.mem_of_getElem? (i := 27) rfl))) (by decide) (t := (.array .byte)) (t' := .boolean) (by decide) (by decide)))
  have F_x0_checksummed_4 := F_x0_checksummed_3.same W4
  have KK4 := KK3.wr W4 (Or.inl (List.mem_of_getElem? (i := 0) rfl))
  refine own_go st4 ?_
  show own_Fin p e below s (own_QI Z x0 x2 h0 n0) 0 0 (T4.setTop (mkF m 19 #[.val (.ref x0), .val (.ref x1), .val (.ref x2), .val (.int x3)] []))
  exact own_ret0 X4 hlk hx hret (hb hby own_d1_19) ⟨rfl, N4, KK4, E_x0_4, F_x0_postHeaderLengths_4⟩ (by decide) (by decide)
theorem own_pn2 : plainName "com/example/binlogue/binlogue/binlog/FormatDescriptionEvent" = true := by first | (simp [plainName, overriddenIn]; done) | decide +kernel
theorem own_ini (l : Launch) (Z : State) (a0 : Array Value) (hw : ∀ d ∈ tables_1, d.before a0 Z = true) (x0 : Addr) (x1 : Addr) (x2 : Addr) (x3 : Int32)  (h0 : Heap) (n0 : Nat) (Z0 : n0 ≤ h0.size) (g0 : n0 ≤ x0) (hE : Exa Z h0 x0 "com/example/binlogue/binlogue/binlog/FormatDescriptionEvent") (hserverVersion : Fld Z h0 x0 "com/example/binlogue/binlogue/binlog/FormatDescriptionEvent" "serverVersion" "Ljava/lang/String;" .null) (hpostHeaderLengths : Fld Z h0 x0 "com/example/binlogue/binlogue/binlog/FormatDescriptionEvent" "postHeaderLengths" "[B" .null) (hchecksummed : Fld Z h0 x0 "com/example/binlogue/binlogue/binlog/FormatDescriptionEvent" "checksummed" "Z" (.int (0 : Int32))) : own_Met l Z (⟨"com/example/binlogue/binlogue/binlog/FormatDescriptionEvent", "<init>", "(Ljava/lang/String;[BZ)V"⟩ : MethodName) prog_21_method_1_code 4 none [] ({ frames := 2, cells := 0, slots := 0, locals := 24 } : Room) #[(.ref x0), (.ref x1), (.ref x2), (.int x3)] h0 (own_QI Z x0 x2 h0 n0) :=
  own_enter (plainFor_of_name own_pn2) (own_ef1 x0 x1 x2 x3) hw (fun p e s m below meth c T X C hh => own_ini_w X C hh x0 x1 x2 x3  n0 Z0 g0 hE hserverVersion hpostHeaderLengths hchecksummed)
def own_phl (t z : Int32) (f : Int32 → Int32) : Int32 := if t < (1 : Int32) then (0 : Int32) else if z < t then (0 : Int32) else ((f (t - (1 : Int32))) &&& (255 : Int32))
theorem own_d4_0 : decode prog_21_method_2_code 0 = .ok (.iload_n 1, 1) := by decide +kernel
theorem own_d4_1 : decode prog_21_method_2_code 1 = .ok (.iconst 1, 1) := by decide +kernel
theorem own_d4_2 : decode prog_21_method_2_code 2 = .ok (.if_icmp .lt 27, 3) := by decide +kernel
theorem own_d4_5 : decode prog_21_method_2_code 5 = .ok (.iload_n 1, 1) := by decide +kernel
theorem own_d4_6 : decode prog_21_method_2_code 6 = .ok (.aload_n 0, 1) := by decide +kernel
theorem own_d4_7 : decode prog_21_method_2_code 7 = .ok (.getfield 13, 3) := by decide +kernel
theorem own_d4_10 : decode prog_21_method_2_code 10 = .ok (.arraylength, 1) := by decide +kernel
theorem own_d4_11 : decode prog_21_method_2_code 11 = .ok (.if_icmp .gt 18, 3) := by decide +kernel
theorem own_d4_14 : decode prog_21_method_2_code 14 = .ok (.aload_n 0, 1) := by decide +kernel
theorem own_d4_15 : decode prog_21_method_2_code 15 = .ok (.getfield 13, 3) := by decide +kernel
theorem own_d4_18 : decode prog_21_method_2_code 18 = .ok (.iload_n 1, 1) := by decide +kernel
theorem own_d4_19 : decode prog_21_method_2_code 19 = .ok (.iconst 1, 1) := by decide +kernel
theorem own_d4_20 : decode prog_21_method_2_code 20 = .ok (.isub, 1) := by decide +kernel
theorem own_d4_21 : decode prog_21_method_2_code 21 = .ok (.baload, 1) := by decide +kernel
theorem own_d4_22 : decode prog_21_method_2_code 22 = .ok (.sipush 255, 3) := by decide +kernel
theorem own_d4_25 : decode prog_21_method_2_code 25 = .ok (.iand, 1) := by decide +kernel
theorem own_d4_26 : decode prog_21_method_2_code 26 = .ok (.goto 4, 3) := by decide +kernel
theorem own_d4_29 : decode prog_21_method_2_code 29 = .ok (.iconst 0, 1) := by decide +kernel
theorem own_d4_30 : decode prog_21_method_2_code 30 = .ok (.ireturn, 1) := by decide +kernel
theorem own_ef4 (x0 : Addr) (x1 : Int32) : ∀ m, entryFrame m #[(.ref x0), (.int x1)] 2 = mkF m 0 #[.val (.ref x0), .val (.int x1)] [] := fun m => by first | (simp [entryFrame, mkF, argsToLocals, Value.category]; done) | rfl
set_option maxRecDepth 65536 in
set_option maxHeartbeats 40000000 in
theorem own_met_w {l : Launch} {p : Program} {e : Env} {below : List Frame} {s : State} {m : MethodId} {meth : Method} {c : Code} {Z : State} {a0 args : Array Value} {T : State} {h0 : Heap} (X : Stand p l e ({ frames := 0, cells := 0, slots := 0, locals := 0 } : Room) s m args below meth c T [] 0 0) (C : own_Ctx p s m meth c Z a0 tables_1 (⟨"com/example/binlogue/binlogue/binlog/FormatDescriptionEvent", "postHeaderLength", "(I)I"⟩ : MethodName) prog_21_method_2_code 2 (some .int)) (hh : T.heap = h0) (x0 : Addr) (x1 : Int32) (b : Addr) (z : Int32) (f : Int32 → Int32) (n0 : Nat) (Z0 : n0 ≤ h0.size) (hF : Fld Z h0 x0 "com/example/binlogue/binlogue/binlog/FormatDescriptionEvent" "postHeaderLengths" "[B" (.ref b)) (hA : own_A Z h0 b .byte z f) :
    own_Fin p e below s (own_QP (some (.int (own_phl x1 z f))) h0) 0 0 (T.setTop (mkF m 0 #[.val (.ref x0), .val (.int x1)] [])) := by
  obtain ⟨hx, hby, hml, hZ, hown, hnm, hret, hlk, hw⟩ := id C
  show own_Fin p e below s (own_QP (some (.int (own_phl x1 z f))) h0) 0 0 (T.setTop (mkF m 0 #[.val (.ref x0), .val (.int x1)] []))
  refine own_go (fun tgt => XS.iloadN X.here hx rfl (hb hby own_d4_0) rfl) ?_
  show own_Fin p e below s (own_QP (some (.int (own_phl x1 z f))) h0) 0 0 (T.setTop (mkF m 1 #[.val (.ref x0), .val (.int x1)] [(.int x1)]))
  refine own_go (fun tgt => XS.iconst X.here hx rfl (hb hby own_d4_1)) ?_
  show own_Fin p e below s (own_QP (some (.int (own_phl x1 z f))) h0) 0 0 (T.setTop (mkF m 2 #[.val (.ref x0), .val (.int x1)] [(.int (1 : Int32)), (.int x1)]))
  by_cases h2 : x1 < (1 : Int32)
  · refine own_go (fun tgt => XS.icmpYes X.here hx rfl (pc0 := 2) (pc' := 29) rfl (hb hby own_d4_2) rfl (tlt h2).1 (by decide) (by decide)) ?_
    show own_Fin p e below s (own_QP (some (.int (own_phl x1 z f))) h0) 0 0 (T.setTop (mkF m 29 #[.val (.ref x0), .val (.int x1)] []))
    refine own_go (fun tgt => XS.iconst X.here hx rfl (hb hby own_d4_29)) ?_
    show own_Fin p e below s (own_QP (some (.int (own_phl x1 z f))) h0) 0 0 (T.setTop (mkF m 30 #[.val (.ref x0), .val (.int x1)] [(.int (0 : Int32))]))
    exact own_ret X hlk hx (t := .int) hret rfl (Or.inl ⟨rfl, by simp, _, rfl⟩) (hb hby own_d4_30) ⟨congrArg (fun v => some (Value.int v)) (Eq.symm (if_pos h2)), rfl, hh⟩ (by decide) (by decide)
  · refine own_go (fun tgt => XS.icmpNo X.here hx rfl (hb hby own_d4_2) rfl (flt h2).1) ?_
    show own_Fin p e below s (own_QP (some (.int (own_phl x1 z f))) h0) 0 0 (T.setTop (mkF m 5 #[.val (.ref x0), .val (.int x1)] []))
    refine own_go (fun tgt => XS.iloadN X.here hx rfl (hb hby own_d4_5) rfl) ?_
    show own_Fin p e below s (own_QP (some (.int (own_phl x1 z f))) h0) 0 0 (T.setTop (mkF m 6 #[.val (.ref x0), .val (.int x1)] [(.int x1)]))
    refine own_go (fun tgt => XS.aloadN X.here hx rfl (hb hby own_d4_6) rfl rfl) ?_
    show own_Fin p e below s (own_QP (some (.int (own_phl x1 z f))) h0) 0 0 (T.setTop (mkF m 7 #[.val (.ref x0), .val (.int x1)] [(.ref x0), (.int x1)]))
    obtain ⟨T101, X101, e101, st101⟩ := own_getF X hx hZ hh hown (hw _ (List.mem_of_getElem? (i := 24) rfl)) hF (g := (mkF m 7 #[.val (.ref x0), .val (.int x1)] [(.ref x0), (.int x1)])) rfl rfl (hb hby own_d4_7)
    refine own_go st101 ?_
    show own_Fin p e below s (own_QP (some (.int (own_phl x1 z f))) h0) 0 0 (T101.setTop (mkF m 10 #[.val (.ref x0), .val (.int x1)] [(.ref b), (.int x1)]))
    refine own_go (own_len X101 hx hZ e101 hA (g := (mkF m 10 #[.val (.ref x0), .val (.int x1)] [(.ref b), (.int x1)])) rfl rfl (hb hby own_d4_10)) ?_
    show own_Fin p e below s (own_QP (some (.int (own_phl x1 z f))) h0) 0 0 (T101.setTop (mkF m 11 #[.val (.ref x0), .val (.int x1)] [(.int z), (.int x1)]))
    by_cases h11 : z < x1
    · refine own_go (fun tgt => XS.icmpYes X101.here hx rfl (pc0 := 11) (pc' := 29) rfl (hb hby own_d4_11) rfl (tlt h11).2.2.1 (by decide) (by decide)) ?_
      show own_Fin p e below s (own_QP (some (.int (own_phl x1 z f))) h0) 0 0 (T101.setTop (mkF m 29 #[.val (.ref x0), .val (.int x1)] []))
      refine own_go (fun tgt => XS.iconst X101.here hx rfl (hb hby own_d4_29)) ?_
      show own_Fin p e below s (own_QP (some (.int (own_phl x1 z f))) h0) 0 0 (T101.setTop (mkF m 30 #[.val (.ref x0), .val (.int x1)] [(.int (0 : Int32))]))
      exact own_ret X101 hlk hx (t := .int) hret rfl (Or.inl ⟨rfl, by simp, _, rfl⟩) (hb hby own_d4_30) ⟨congrArg (fun v => some (Value.int v)) (Eq.symm ((if_neg h2).trans (if_pos h11))), rfl, e101⟩ (by decide) (by decide)
    · refine own_go (fun tgt => XS.icmpNo X101.here hx rfl (hb hby own_d4_11) rfl (flt h11).2.2.1) ?_
      show own_Fin p e below s (own_QP (some (.int (own_phl x1 z f))) h0) 0 0 (T101.setTop (mkF m 14 #[.val (.ref x0), .val (.int x1)] []))
      refine own_go (fun tgt => XS.aloadN X101.here hx rfl (hb hby own_d4_14) rfl rfl) ?_
      show own_Fin p e below s (own_QP (some (.int (own_phl x1 z f))) h0) 0 0 (T101.setTop (mkF m 15 #[.val (.ref x0), .val (.int x1)] [(.ref x0)]))
      obtain ⟨T202, X202, e202, st202⟩ := own_getF X101 hx hZ e101 hown (hw _ (List.mem_of_getElem? (i := 24) rfl)) hF (g := (mkF m 15 #[.val (.ref x0), .val (.int x1)] [(.ref x0)])) rfl rfl (hb hby own_d4_15)
      refine own_go st202 ?_
      show own_Fin p e below s (own_QP (some (.int (own_phl x1 z f))) h0) 0 0 (T202.setTop (mkF m 18 #[.val (.ref x0), .val (.int x1)] [(.ref b)]))
      refine own_go (fun tgt => XS.iloadN X202.here hx rfl (hb hby own_d4_18) rfl) ?_
      show own_Fin p e below s (own_QP (some (.int (own_phl x1 z f))) h0) 0 0 (T202.setTop (mkF m 19 #[.val (.ref x0), .val (.int x1)] [(.int x1), (.ref b)]))
      refine own_go (fun tgt => XS.iconst X202.here hx rfl (hb hby own_d4_19)) ?_
      show own_Fin p e below s (own_QP (some (.int (own_phl x1 z f))) h0) 0 0 (T202.setTop (mkF m 20 #[.val (.ref x0), .val (.int x1)] [(.int (1 : Int32)), (.int x1), (.ref b)]))
      refine own_go (fun tgt => XS.isub X202.here hx rfl (hb hby own_d4_20) rfl) ?_
      show own_Fin p e below s (own_QP (some (.int (own_phl x1 z f))) h0) 0 0 (T202.setTop (mkF m 21 #[.val (.ref x0), .val (.int x1)] [(.int (x1 - (1 : Int32))), (.ref b)]))
      have e1 : (x1 - (1 : Int32)).toInt = x1.toInt - 1 := by
        have a := c_isub x1 1
        have r := rng32 (x1 - (1 : Int32))
        have r1 := rng32 x1
        have o : (1 : Int32).toInt = 1 := by decide
        have := own_nltT h2
        omega
      have o : (1 : Int32).toInt = 1 := by decide
      have o0 : (0 : Int32).toInt = 0 := by decide
      have u1 := own_nltT h2
      have u2 := own_nltT h11
      refine own_go (own_ldB X202 hx hZ e202 hA (j := (x1 - (1 : Int32))) (own_Tnlt (by omega)) (own_Tlt (by omega)) (g := (mkF m 21 #[.val (.ref x0), .val (.int x1)] [(.int (x1 - (1 : Int32))), (.ref b)])) rfl rfl (hb hby own_d4_21)) ?_
      show own_Fin p e below s (own_QP (some (.int (own_phl x1 z f))) h0) 0 0 (T202.setTop (mkF m 22 #[.val (.ref x0), .val (.int x1)] [(.int (f (x1 - (1 : Int32))))]))
      refine own_go (fun tgt => XS.sipush X202.here hx rfl (hb hby own_d4_22)) ?_
      show own_Fin p e below s (own_QP (some (.int (own_phl x1 z f))) h0) 0 0 (T202.setTop (mkF m 25 #[.val (.ref x0), .val (.int x1)] [(.int (255 : Int32)), (.int (f (x1 - (1 : Int32))))]))
      refine own_go (fun tgt => XS.iand X202.here hx rfl (hb hby own_d4_25) rfl) ?_
      show own_Fin p e below s (own_QP (some (.int (own_phl x1 z f))) h0) 0 0 (T202.setTop (mkF m 26 #[.val (.ref x0), .val (.int x1)] [(.int ((f (x1 - (1 : Int32))) &&& (255 : Int32)))]))
      refine own_go (fun tgt => XS.goto X202.here hx rfl (pc0 := 26) (pc' := 30) rfl (hb hby own_d4_26) (by decide) (by decide)) ?_
      show own_Fin p e below s (own_QP (some (.int (own_phl x1 z f))) h0) 0 0 (T202.setTop (mkF m 30 #[.val (.ref x0), .val (.int x1)] [(.int ((f (x1 - (1 : Int32))) &&& (255 : Int32)))]))
      exact own_ret X202 hlk hx (t := .int) hret rfl (Or.inl ⟨rfl, by simp, _, rfl⟩) (hb hby own_d4_30) ⟨congrArg (fun v => some (Value.int v)) (Eq.symm ((if_neg h2).trans (if_neg h11))), rfl, e202⟩ (by decide) (by decide)
theorem own_met (l : Launch) (Z : State) (a0 : Array Value) (hw : ∀ d ∈ tables_1, d.before a0 Z = true) (x0 : Addr) (x1 : Int32) (b : Addr) (z : Int32) (f : Int32 → Int32) (h0 : Heap) (n0 : Nat) (Z0 : n0 ≤ h0.size) (hF : Fld Z h0 x0 "com/example/binlogue/binlogue/binlog/FormatDescriptionEvent" "postHeaderLengths" "[B" (.ref b)) (hA : own_A Z h0 b .byte z f) : own_Met l Z (⟨"com/example/binlogue/binlogue/binlog/FormatDescriptionEvent", "postHeaderLength", "(I)I"⟩ : MethodName) prog_21_method_2_code 2 (some .int) [] ({ frames := 0, cells := 0, slots := 0, locals := 0 } : Room) #[(.ref x0), (.int x1)] h0 (own_QP (some (.int (own_phl x1 z f))) h0) :=
  own_enter (plainFor_of_name own_pn2) (own_ef4 x0 x1) hw (fun p e s m below meth c T X C hh => own_met_w X C hh x0 x1 b z f n0 Z0 hF hA)
def own_B (a b j : Int32) : Int32 := if j = (0 : Int32) then a.toInt8.toInt32 else if j = (1 : Int32) then (a >>> ((8 : Int32) &&& 31)).toInt8.toInt32 else if j = (2 : Int32) then (a >>> ((16 : Int32) &&& 31)).toInt8.toInt32 else if j = (3 : Int32) then (a >>> ((24 : Int32) &&& 31)).toInt8.toInt32 else if j = (4 : Int32) then b.toInt8.toInt32 else if j = (5 : Int32) then (b >>> ((8 : Int32) &&& 31)).toInt8.toInt32 else if j = (6 : Int32) then (b >>> ((16 : Int32) &&& 31)).toInt8.toInt32 else (0 : Int32)
theorem own_B0 (a b : Int32) : own_B a b (0 : Int32) = a.toInt8.toInt32 := if_pos rfl
theorem own_B1 (a b : Int32) : own_B a b (1 : Int32) = (a >>> ((8 : Int32) &&& 31)).toInt8.toInt32 := (if_neg (by decide)).trans (if_pos rfl)
theorem own_B2 (a b : Int32) : own_B a b (2 : Int32) = (a >>> ((16 : Int32) &&& 31)).toInt8.toInt32 := (if_neg (by decide)).trans ((if_neg (by decide)).trans (if_pos rfl))
theorem own_B3 (a b : Int32) : own_B a b (3 : Int32) = (a >>> ((24 : Int32) &&& 31)).toInt8.toInt32 := (if_neg (by decide)).trans ((if_neg (by decide)).trans ((if_neg (by decide)).trans (if_pos rfl)))
theorem own_B4 (a b : Int32) : own_B a b (4 : Int32) = b.toInt8.toInt32 := (if_neg (by decide)).trans ((if_neg (by decide)).trans ((if_neg (by decide)).trans ((if_neg (by decide)).trans (if_pos rfl))))
theorem own_B5 (a b : Int32) : own_B a b (5 : Int32) = (b >>> ((8 : Int32) &&& 31)).toInt8.toInt32 := (if_neg (by decide)).trans ((if_neg (by decide)).trans ((if_neg (by decide)).trans ((if_neg (by decide)).trans ((if_neg (by decide)).trans (if_pos rfl)))))
theorem own_B6 (a b : Int32) : own_B a b (6 : Int32) = (b >>> ((16 : Int32) &&& 31)).toInt8.toInt32 := (if_neg (by decide)).trans ((if_neg (by decide)).trans ((if_neg (by decide)).trans ((if_neg (by decide)).trans ((if_neg (by decide)).trans ((if_neg (by decide)).trans (if_pos rfl))))))
theorem own_m8 (x : Int32) : (x &&& (255 : Int32)).toInt = x.toInt % 256 := by
  have h := c_mask x 255 8 (by decide) (by decide)
  have e : ((2 ^ 8 : Nat) : Int) = 256 := by decide
  rw [e] at h
  exact h
theorem own_m0 (x : Int32) : ((x.toInt8.toInt32) &&& (255 : Int32)) = (x &&& (255 : Int32)) := by
  refine Int32.toInt_inj.mp ?_
  rw [own_m8, own_m8]
  have := c_i2b x
  omega
theorem own_mk (x k : Int32) (K : Nat) (hk : k.toBitVec.toNat % 32 = K) (h : K = 8 ∨ K = 16 ∨ K = 24) : (((x >>> (k &&& 31)).toInt8.toInt32) &&& (255 : Int32)) = (((x.toUInt32 >>> (k &&& 31).toUInt32).toInt32) &&& (255 : Int32)) := by
  rw [own_m0]
  refine Int32.toInt_inj.mp ?_
  rw [own_m8, own_m8, c_ishr x k K hk, c_iushr x k K hk (by omega)]
  rcases h with rfl | rfl | rfl
  · have e : ((2 ^ 8 : Nat) : Int) = 256 := by decide
    rw [e]; omega
  · have e : ((2 ^ 16 : Nat) : Int) = 65536 := by decide
    rw [e]; omega
  · have e : ((2 ^ 24 : Nat) : Int) = 16777216 := by decide
    rw [e]; omega
theorem own_ubeq (a b t : Int32) (h1 : 1 ≤ t.toInt) (h2 : t.toInt ≤ 7) : ((own_B a b (t - (1 : Int32))) &&& (255 : Int32)) = own_f5_0 a b t := by
  have q : ∀ k : Int32, t.toInt = k.toInt → t = k := fun k => Int32.toInt_inj.mp
  have h3 : t.toInt = 1 ∨ t.toInt = 2 ∨ t.toInt = 3 ∨ t.toInt = 4 ∨ t.toInt = 5 ∨ t.toInt = 6 ∨ t.toInt = 7 := by omega
  rcases h3 with h | h | h | h | h | h | h
  · rw [q 1 h]
    rw [show ((1 : Int32) - (1 : Int32)) = (0 : Int32) from by decide, own_B0]
    exact Eq.trans (own_m0 a) (Eq.symm ((if_pos rfl : (own_f5_0 a b (1 : Int32)) = (own_f5_5 a b (1 : Int32)))))
  · rw [q 2 h]
    rw [show ((2 : Int32) - (1 : Int32)) = (1 : Int32) from by decide, own_B1]
    exact Eq.trans (own_mk a 8 8 (by decide) (by decide)) (Eq.symm ((if_neg (by decide) : (own_f5_0 a b (2 : Int32)) = (own_f5_11 a b (2 : Int32))).trans ((if_pos rfl : (own_f5_11 a b (2 : Int32)) = (own_f5_16 a b (2 : Int32))))))
  · rw [q 3 h]
    rw [show ((3 : Int32) - (1 : Int32)) = (2 : Int32) from by decide, own_B2]
    exact Eq.trans (own_mk a 16 16 (by decide) (by decide)) (Eq.symm ((if_neg (by decide) : (own_f5_0 a b (3 : Int32)) = (own_f5_11 a b (3 : Int32))).trans ((if_neg (by decide) : (own_f5_11 a b (3 : Int32)) = (own_f5_25 a b (3 : Int32))).trans ((if_pos rfl : (own_f5_25 a b (3 : Int32)) = (own_f5_30 a b (3 : Int32)))))))
  · rw [q 4 h]
    rw [show ((4 : Int32) - (1 : Int32)) = (3 : Int32) from by decide, own_B3]
    exact Eq.trans (own_mk a 24 24 (by decide) (by decide)) (Eq.symm ((if_neg (by decide) : (own_f5_0 a b (4 : Int32)) = (own_f5_11 a b (4 : Int32))).trans ((if_neg (by decide) : (own_f5_11 a b (4 : Int32)) = (own_f5_25 a b (4 : Int32))).trans ((if_neg (by decide) : (own_f5_25 a b (4 : Int32)) = (own_f5_39 a b (4 : Int32))).trans ((if_pos rfl : (own_f5_39 a b (4 : Int32)) = (own_f5_44 a b (4 : Int32))))))))
  · rw [q 5 h]
    rw [show ((5 : Int32) - (1 : Int32)) = (4 : Int32) from by decide, own_B4]
    exact Eq.trans (own_m0 b) (Eq.symm ((if_neg (by decide) : (own_f5_0 a b (5 : Int32)) = (own_f5_11 a b (5 : Int32))).trans ((if_neg (by decide) : (own_f5_11 a b (5 : Int32)) = (own_f5_25 a b (5 : Int32))).trans ((if_neg (by decide) : (own_f5_25 a b (5 : Int32)) = (own_f5_39 a b (5 : Int32))).trans ((if_neg (by decide) : (own_f5_39 a b (5 : Int32)) = (own_f5_53 a b (5 : Int32))).trans ((if_pos rfl : (own_f5_53 a b (5 : Int32)) = (own_f5_58 a b (5 : Int32)))))))))
  · rw [q 6 h]
    rw [show ((6 : Int32) - (1 : Int32)) = (5 : Int32) from by decide, own_B5]
    exact Eq.trans (own_mk b 8 8 (by decide) (by decide)) (Eq.symm ((if_neg (by decide) : (own_f5_0 a b (6 : Int32)) = (own_f5_11 a b (6 : Int32))).trans ((if_neg (by decide) : (own_f5_11 a b (6 : Int32)) = (own_f5_25 a b (6 : Int32))).trans ((if_neg (by decide) : (own_f5_25 a b (6 : Int32)) = (own_f5_39 a b (6 : Int32))).trans ((if_neg (by decide) : (own_f5_39 a b (6 : Int32)) = (own_f5_53 a b (6 : Int32))).trans ((if_neg (by decide) : (own_f5_53 a b (6 : Int32)) = (own_f5_64 a b (6 : Int32))).trans ((if_pos rfl : (own_f5_64 a b (6 : Int32)) = (own_f5_70 a b (6 : Int32))))))))))
  · rw [q 7 h]
    rw [show ((7 : Int32) - (1 : Int32)) = (6 : Int32) from by decide, own_B6]
    exact Eq.trans (own_mk b 16 16 (by decide) (by decide)) (Eq.symm ((if_neg (by decide) : (own_f5_0 a b (7 : Int32)) = (own_f5_11 a b (7 : Int32))).trans ((if_neg (by decide) : (own_f5_11 a b (7 : Int32)) = (own_f5_25 a b (7 : Int32))).trans ((if_neg (by decide) : (own_f5_25 a b (7 : Int32)) = (own_f5_39 a b (7 : Int32))).trans ((if_neg (by decide) : (own_f5_39 a b (7 : Int32)) = (own_f5_53 a b (7 : Int32))).trans ((if_neg (by decide) : (own_f5_53 a b (7 : Int32)) = (own_f5_64 a b (7 : Int32))).trans ((if_neg (by decide) : (own_f5_64 a b (7 : Int32)) = (own_f5_79 a b (7 : Int32))).trans ((if_pos rfl : (own_f5_79 a b (7 : Int32)) = (own_f5_85 a b (7 : Int32)))))))))))
theorem own_ef0 (x0 : Int32) (x1 : Int32) (x2 : Int32) (x3 : Int32) (x4 : Int32) : ∀ m, entryFrame m #[(.int x0), (.int x1), (.int x2), (.int x3), (.int x4)] maxLocals = mkF m 0 #[.val (.int x0), .val (.int x1), .val (.int x2), .val (.int x3), .val (.int x4), .unset, .unset, .unset, .unset, .unset, .unset] [] := fun m => by first | (simp [entryFrame, mkF, argsToLocals, Value.category, maxLocals]; done) | rfl
theorem own_pd1 : parseMethodDescriptor "(Ljava/lang/String;[BZ)V" = some ⟨[(.object "java/lang/String"), (.array .byte), .boolean], none⟩ := by decide +kernel
theorem own_pd2 : parseMethodDescriptor "(I)I" = some ⟨[.int], some .int⟩ := by decide +kernel
theorem own_pd3 : parseMethodDescriptor "(III)I" = some ⟨[.int, .int, .int], some .int⟩ := by decide +kernel
def own_Q0 (n0 : Nat) (v : Option Value) (h : Heap) (L : List Loc) : Prop := v = some (.int 1) ∧ Fr n0 L
set_option maxRecDepth 65536 in
set_option maxHeartbeats 40000000 in
theorem own_law {l : Launch} {p : Program} {e : Env} {below : List Frame} {s : State} {m : MethodId} {meth : Method} {c : Code} {Z : State} {a0 args : Array Value} {T : State} {h0 : Heap} (X : Stand p l e room_1 s m args below meth c T [] 0 0) (C : own_Ctx p s m meth c Z a0 tables_1 x code maxLocals ret) (hh : T.heap = h0) (x0 : Int32) (x1 : Int32) (x2 : Int32) (x3 : Int32) (x4 : Int32) (n0 : Nat) (Z0 : n0 ≤ h0.size) :
    own_FinW p e below s (own_Q0 n0) room_1.cells room_1.slots (T.setTop (mkF m 0 #[.val (.int x0), .val (.int x1), .val (.int x2), .val (.int x3), .val (.int x4), .unset, .unset, .unset, .unset, .unset, .unset] [])) := by
  obtain ⟨hx, hby, hml, hZ, hown, hnm, hret, hlk, hw⟩ := id C
  show own_FinW p e below s (own_Q0 n0) room_1.cells room_1.slots (T.setTop (mkF m 0 #[.val (.int x0), .val (.int x1), .val (.int x2), .val (.int x3), .val (.int x4), .unset, .unset, .unset, .unset, .unset, .unset] []))
  have N0 := Fr.nil n0
  have KK0 : Keep h0 h0 [] := Keep.refl _ _
  refine own_goW (fun tgt => XS.iloadN X.here hx rfl (hb hby at_0) rfl) ?_
  show own_FinW p e below s (own_Q0 n0) room_1.cells room_1.slots (T.setTop (mkF m 1 #[.val (.int x0), .val (.int x1), .val (.int x2), .val (.int x3), .val (.int x4), .unset, .unset, .unset, .unset, .unset, .unset] [(.int x0)]))
  refine own_goW (fun tgt => XS.bipush X.here hx rfl (hb hby at_1)) ?_
  show own_FinW p e below s (own_Q0 n0) room_1.cells room_1.slots (T.setTop (mkF m 3 #[.val (.int x0), .val (.int x1), .val (.int x2), .val (.int x3), .val (.int x4), .unset, .unset, .unset, .unset, .unset, .unset] [(.int (7 : Int32)), (.int x0)]))
  refine own_goW (fun tgt => XS.iand X.here hx rfl (hb hby at_3) rfl) ?_
  show own_FinW p e below s (own_Q0 n0) room_1.cells room_1.slots (T.setTop (mkF m 4 #[.val (.int x0), .val (.int x1), .val (.int x2), .val (.int x3), .val (.int x4), .unset, .unset, .unset, .unset, .unset, .unset] [(.int (x0 &&& (7 : Int32)))]))
  have hn := own_maskpos x0 7 3 (by decide) (by decide) 8 (by decide) (by decide)
  generalize (x0 &&& (7 : Int32)) = n at hn ⊢
  show own_FinW p e below s (own_Q0 n0) room_1.cells room_1.slots (T.setTop (mkF m 4 #[.val (.int x0), .val (.int x1), .val (.int x2), .val (.int x3), .val (.int x4), .unset, .unset, .unset, .unset, .unset, .unset] [(.int n)]))
  refine own_goW (fun tgt => XS.istore X.here hx rfl (hb hby at_4) rfl (l' := #[.val (.int x0), .val (.int x1), .val (.int x2), .val (.int x3), .val (.int x4), .val (.int n), .unset, .unset, .unset, .unset, .unset]) rfl) ?_
  show own_FinW p e below s (own_Q0 n0) room_1.cells room_1.slots (T.setTop (mkF m 6 #[.val (.int x0), .val (.int x1), .val (.int x2), .val (.int x3), .val (.int x4), .val (.int n), .unset, .unset, .unset, .unset, .unset] []))
  refine own_goW (fun tgt => XS.iload X.here hx rfl (hb hby at_6) rfl) ?_
  show own_FinW p e below s (own_Q0 n0) room_1.cells room_1.slots (T.setTop (mkF m 8 #[.val (.int x0), .val (.int x1), .val (.int x2), .val (.int x3), .val (.int x4), .val (.int n), .unset, .unset, .unset, .unset, .unset] [(.int n)]))
  obtain ⟨T1, b1, X1, E1, g1, A1, st1⟩ := own_newB X hx hZ hh (hw _ (List.mem_of_getElem? (i := 0) rfl)) (g := (mkF m 8 #[.val (.int x0), .val (.int x1), .val (.int x2), .val (.int x3), .val (.int x4), .val (.int n), .unset, .unset, .unset, .unset, .unset] [(.int n)])) rfl (hb hby at_8) rfl (own_nlt 0 (by decide) hn.1) 7 (own_clamp _ 7 (by omega)) (by decide) (by decide) (by decide)
  have sz_b1 : Array.size h0 ≤ b1 := by rw [g1]; exact KK0.1
  have G_b1 : n0 ≤ b1 := Nat.le_trans Z0 sz_b1
  have KK1 := KK0.ext E1
  refine own_goW st1 ?_
  show own_FinW p e below s (own_Q0 n0) room_1.cells room_1.slots (T1.setTop (mkF m 10 #[.val (.int x0), .val (.int x1), .val (.int x2), .val (.int x3), .val (.int x4), .val (.int n), .unset, .unset, .unset, .unset, .unset] [(.ref b1)]))
  refine own_goW (fun tgt => XS.astore X1.here hx rfl (hb hby at_10) rfl rfl (l' := #[.val (.int x0), .val (.int x1), .val (.int x2), .val (.int x3), .val (.int x4), .val (.int n), .val (.ref b1), .unset, .unset, .unset, .unset]) rfl) ?_
  show own_FinW p e below s (own_Q0 n0) room_1.cells room_1.slots (T1.setTop (mkF m 12 #[.val (.int x0), .val (.int x1), .val (.int x2), .val (.int x3), .val (.int x4), .val (.int n), .val (.ref b1), .unset, .unset, .unset, .unset] []))
  have o0 : (0 : Int32).toInt = 0 := by decide
  have J7 : ∀ (U : State) (L : List Loc) (g : Int32 → Int32), Stand p l e room_1 s m args below meth c U L 1 7 → Fr n0 L → Keep h0 U.heap [] → own_A Z U.heap b1 .byte n g → (∀ j : Int32, ¬ j < 0 → j < n → j.toInt < 7 → g j = own_B x1 x2 j) → own_FinW p e below s (own_Q0 n0) room_1.cells room_1.slots (U.setTop (mkF m 112 #[.val (.int x0), .val (.int x1), .val (.int x2), .val (.int x3), .val (.int x4), .val (.int n), .val (.ref b1), .unset, .unset, .unset, .unset] [])) := by
    intro U L g Y N K A hg
    show own_FinW p e below s (own_Q0 n0) room_1.cells room_1.slots (U.setTop (mkF m 112 #[.val (.int x0), .val (.int x1), .val (.int x2), .val (.int x3), .val (.int x4), .val (.int n), .val (.ref b1), .unset, .unset, .unset, .unset] []))
    refine own_goW (fun tgt => XS.iload Y.here hx rfl (hb hby at_112) rfl) ?_
    show own_FinW p e below s (own_Q0 n0) room_1.cells room_1.slots (U.setTop (mkF m 114 #[.val (.int x0), .val (.int x1), .val (.int x2), .val (.int x3), .val (.int x4), .val (.int n), .val (.ref b1), .unset, .unset, .unset, .unset] [(.int x4)]))
    refine own_goW (fun tgt => XS.iconst Y.here hx rfl (hb hby at_114)) ?_
    show own_FinW p e below s (own_Q0 n0) room_1.cells room_1.slots (U.setTop (mkF m 115 #[.val (.int x0), .val (.int x1), .val (.int x2), .val (.int x3), .val (.int x4), .val (.int n), .val (.ref b1), .unset, .unset, .unset, .unset] [(.int (1 : Int32)), (.int x4)]))
    refine own_goW (fun tgt => XS.iand Y.here hx rfl (hb hby at_115) rfl) ?_
    show own_FinW p e below s (own_Q0 n0) room_1.cells room_1.slots (U.setTop (mkF m 116 #[.val (.int x0), .val (.int x1), .val (.int x2), .val (.int x3), .val (.int x4), .val (.int n), .val (.ref b1), .unset, .unset, .unset, .unset] [(.int (x4 &&& (1 : Int32)))]))
    have Jt : ∀ t : Int32, own_FinW p e below s (own_Q0 n0) room_1.cells room_1.slots (U.setTop (mkF m 129 #[.val (.int x0), .val (.int x1), .val (.int x2), .val (.int x3), .val (.int x4), .val (.int n), .val (.ref b1), .val (.int t), .unset, .unset, .unset] [])) := by
      intro t
      show own_FinW p e below s (own_Q0 n0) room_1.cells room_1.slots (U.setTop (mkF m 129 #[.val (.int x0), .val (.int x1), .val (.int x2), .val (.int x3), .val (.int x4), .val (.int n), .val (.ref b1), .val (.int t), .unset, .unset, .unset] []))
      obtain ⟨T302i7, h302i7, X302i7, e302i7, E302i7, A302i7, D302i7, -, st302i7⟩ := newO Y hx hZ hown (hw _ (List.mem_of_getElem? (i := 1) rfl)) (hw _ (List.mem_of_getElem? (i := 2) rfl)) (hw _ (List.mem_of_getElem? (i := 3) rfl)) rfl (g := (mkF m 129 #[.val (.int x0), .val (.int x1), .val (.int x2), .val (.int x3), .val (.int x4), .val (.int n), .val (.ref b1), .val (.int t), .unset, .unset, .unset] [])) rfl (hb hby at_129) (by decide) (by decide)
      obtain ⟨b302i7, g302i7⟩ : ∃ z, z = Array.size U.heap := ⟨_, rfl⟩
      rw [← g302i7] at A302i7 D302i7 st302i7
      have F302i7_serverVersion : Fld Z h302i7 b302i7 "com/example/binlogue/binlogue/binlog/FormatDescriptionEvent" "serverVersion" "Ljava/lang/String;" .null := D302i7 (Or.inr (hw _ (List.mem_of_getElem? (i := 23) rfl))) (ty := (.object "java/lang/String")) (by decide)
      have F302i7_postHeaderLengths : Fld Z h302i7 b302i7 "com/example/binlogue/binlogue/binlog/FormatDescriptionEvent" "postHeaderLengths" "[B" .null := D302i7 (Or.inr (hw _ (List.mem_of_getElem? (i := 25) rfl))) (ty := (.array .byte)) (by decide)
      have F302i7_checksummed : Fld Z h302i7 b302i7 "com/example/binlogue/binlogue/binlog/FormatDescriptionEvent" "checksummed" "Z" (.int (0 : Int32)) := D302i7 (Or.inr (hw _ (List.mem_of_getElem? (i := 27) rfl))) (ty := .boolean) (by decide)
      have sz_b302i7 : Array.size h0 ≤ b302i7 := by rw [g302i7]; exact K.1
      have G_b302i7 : n0 ≤ b302i7 := Nat.le_trans Z0 sz_b302i7
      have ne_b1_b302i7 : b1 ≠ b302i7 := by rw [g302i7]; exact Nat.ne_of_lt A.lt
      have A_b1_302i7 := A.ext E302i7
      have KK302i7 := K.ext E302i7
      refine own_goW (fun tgt => st302i7 tgt) ?_
      show own_FinW p e below s (own_Q0 n0) room_1.cells room_1.slots (T302i7.setTop (mkF m 132 #[.val (.int x0), .val (.int x1), .val (.int x2), .val (.int x3), .val (.int x4), .val (.int n), .val (.ref b1), .val (.int t), .unset, .unset, .unset] [(.ref b302i7)]))
      refine own_goW (fun tgt => XS.dup X302i7.here hx rfl (hb hby at_132) rfl rfl) ?_
      show own_FinW p e below s (own_Q0 n0) room_1.cells room_1.slots (T302i7.setTop (mkF m 133 #[.val (.int x0), .val (.int x1), .val (.int x2), .val (.int x3), .val (.int x4), .val (.int n), .val (.ref b1), .val (.int t), .unset, .unset, .unset] [(.ref b302i7), (.ref b302i7)]))
      have wS : ∀ a ∈ Bundle.stringAtoms, a.before a0 Z = true := fun a ha => by
        simp only [Bundle.stringAtoms, List.mem_cons, List.not_mem_nil, or_false] at ha
        rcases ha with rfl | rfl | rfl | rfl | rfl | rfl | rfl
        · exact (hw _ (List.mem_of_getElem? (i := 5) rfl))
        · exact (hw _ (List.mem_of_getElem? (i := 6) rfl))
        · exact (hw _ (List.mem_of_getElem? (i := 0) rfl))
        · exact (hw _ (List.mem_of_getElem? (i := 7) rfl))
        · exact (hw _ (List.mem_of_getElem? (i := 8) rfl))
        · exact (hw _ (List.mem_of_getElem? (i := 9) rfl))
        · exact (hw _ (List.mem_of_getElem? (i := 10) rfl))
      obtain ⟨sa, T303i7, h303i7, k1, X303i7, e303i7, E303i7, hS, hk1, hZ, hown, st303i7⟩ := ldcS (s := s) (vm0 := s.vm) X302i7 hx hZ hown (hw _ (List.mem_of_getElem? (i := 4) rfl)) wS e302i7 ((State.WarmedH.refl s).since 0) (Nat.zero_le _) (g := (mkF m 133 #[.val (.int x0), .val (.int x1), .val (.int x2), .val (.int x3), .val (.int x4), .val (.int n), .val (.ref b1), .val (.int t), .unset, .unset, .unset] [(.ref b302i7), (.ref b302i7)])) rfl (hb hby at_133) (n := 12) (by decide) (by decide) (by decide) (by decide)
      have A_b1_303i7 := A_b1_302i7.ext E303i7
      have E_b302i7_303i7 := A302i7.ext E303i7
      have F_b302i7_serverVersion_303i7 := F302i7_serverVersion.ext E303i7
      have F_b302i7_postHeaderLengths_303i7 := F302i7_postHeaderLengths.ext E303i7
      have F_b302i7_checksummed_303i7 := F302i7_checksummed.ext E303i7
      have KK303i7 := KK302i7.ext E303i7
      refine own_goW st303i7 ?_
      show own_FinW p e below s (own_Q0 n0) room_1.cells room_1.slots (T303i7.setTop (mkF m 135 #[.val (.int x0), .val (.int x1), .val (.int x2), .val (.int x3), .val (.int x4), .val (.int n), .val (.ref b1), .val (.int t), .unset, .unset, .unset] [(.ref sa), (.ref b302i7), (.ref b302i7)]))
      refine own_goW (fun tgt => XS.aload X303i7.here hx rfl (hb hby at_135) rfl rfl) ?_
      show own_FinW p e below s (own_Q0 n0) room_1.cells room_1.slots (T303i7.setTop (mkF m 137 #[.val (.int x0), .val (.int x1), .val (.int x2), .val (.int x3), .val (.int x4), .val (.int n), .val (.ref b1), .val (.int t), .unset, .unset, .unset] [(.ref b1), (.ref sa), (.ref b302i7), (.ref b302i7)]))
      refine own_goW (fun tgt => XS.iload X303i7.here hx rfl (hb hby at_137) rfl) ?_
      show own_FinW p e below s (own_Q0 n0) room_1.cells room_1.slots (T303i7.setTop (mkF m 139 #[.val (.int x0), .val (.int x1), .val (.int x2), .val (.int x3), .val (.int x4), .val (.int n), .val (.ref b1), .val (.int t), .unset, .unset, .unset] [(.int x4), (.ref b1), (.ref sa), (.ref b302i7), (.ref b302i7)]))
      refine own_goW (fun tgt => XS.iconst X303i7.here hx rfl (hb hby at_139)) ?_
      show own_FinW p e below s (own_Q0 n0) room_1.cells room_1.slots (T303i7.setTop (mkF m 140 #[.val (.int x0), .val (.int x1), .val (.int x2), .val (.int x3), .val (.int x4), .val (.int n), .val (.ref b1), .val (.int t), .unset, .unset, .unset] [(.int (2 : Int32)), (.int x4), (.ref b1), (.ref sa), (.ref b302i7), (.ref b302i7)]))
      refine own_goW (fun tgt => XS.iand X303i7.here hx rfl (hb hby at_140) rfl) ?_
      show own_FinW p e below s (own_Q0 n0) room_1.cells room_1.slots (T303i7.setTop (mkF m 141 #[.val (.int x0), .val (.int x1), .val (.int x2), .val (.int x3), .val (.int x4), .val (.int n), .val (.ref b1), .val (.int t), .unset, .unset, .unset] [(.int (x4 &&& (2 : Int32))), (.ref b1), (.ref sa), (.ref b302i7), (.ref b302i7)]))
      by_cases h141 : (x4 &&& (2 : Int32)) = (0 : Int32)
      · refine own_goW (fun tgt => XS.ifYes X303i7.here hx rfl (pc0 := 141) (pc' := 148) rfl (hb hby at_141) rfl ((if0 _ _).trans (teq h141).1) (by decide) (by decide)) ?_
        show own_FinW p e below s (own_Q0 n0) room_1.cells room_1.slots (T303i7.setTop (mkF m 148 #[.val (.int x0), .val (.int x1), .val (.int x2), .val (.int x3), .val (.int x4), .val (.int n), .val (.ref b1), .val (.int t), .unset, .unset, .unset] [(.ref b1), (.ref sa), (.ref b302i7), (.ref b302i7)]))
        refine own_goW (fun tgt => XS.iconst X303i7.here hx rfl (hb hby at_148)) ?_
        show own_FinW p e below s (own_Q0 n0) room_1.cells room_1.slots (T303i7.setTop (mkF m 149 #[.val (.int x0), .val (.int x1), .val (.int x2), .val (.int x3), .val (.int x4), .val (.int n), .val (.ref b1), .val (.int t), .unset, .unset, .unset] [(.int (0 : Int32)), (.ref b1), (.ref sa), (.ref b302i7), (.ref b302i7)]))
        obtain ⟨_, T404i7, L404i7, X404i7, ⟨rfl, Nq404i7, K404i7, hE404i7, hF404i7⟩, st404i7⟩ := own_callI X303i7 hx hZ e303i7 (y := (⟨"com/example/binlogue/binlogue/binlog/FormatDescriptionEvent", "<init>", "(Ljava/lang/String;[BZ)V"⟩ : MethodName)) rfl hown (hw _ (List.mem_of_getElem? (i := 11) rfl)) (hw _ (List.mem_of_getElem? (i := 12) rfl)) (hw _ (List.mem_of_getElem? (i := 3) rfl)) (hw _ (List.mem_of_getElem? (i := 13) rfl)) (by decide) (a := b302i7) (argsL := [(.ref sa), (.ref b1), (.int (0 : Int32))]) (rest := [(.ref b302i7)]) (own_ini l Z a0 hw b302i7 sa b1 (0 : Int32) h303i7 n0 (Nat.le_trans Z0 KK303i7.1) G_b302i7 E_b302i7_303i7 F_b302i7_serverVersion_303i7 F_b302i7_postHeaderLengths_303i7 F_b302i7_checksummed_303i7) (by decide) 1 (by decide) (by decide) (by decide) (g := (mkF m 149 #[.val (.int x0), .val (.int x1), .val (.int x2), .val (.int x3), .val (.int x4), .val (.int n), .val (.ref b1), .val (.int t), .unset, .unset, .unset] [(.int (0 : Int32)), (.ref b1), (.ref sa), (.ref b302i7), (.ref b302i7)])) rfl (by rw [hml]; rfl) (lenOf own_pd1 rfl) rfl (by show 2 * 0 + _ ≤ _; exact Nat.le_of_eq rfl) (hb hby at_149)
        have N404i7 := Fr.app N Nq404i7
        have A_b1_404i7 := A_b1_303i7.keep K404i7 (ninS ne_b1_b302i7 nin0)
        have E_b302i7_404i7 := E_b302i7_303i7.keep K404i7
        have KK404i7 := KK303i7.trans K404i7 (allS (Or.inr sz_b302i7) all0)
        refine own_goW st404i7 ?_
        show own_FinW p e below s (own_Q0 n0) room_1.cells room_1.slots (T404i7.setTop (mkF m 152 #[.val (.int x0), .val (.int x1), .val (.int x2), .val (.int x3), .val (.int x4), .val (.int n), .val (.ref b1), .val (.int t), .unset, .unset, .unset] [(.ref b302i7)]))
        have hk2 : k1 ≤ Array.size T404i7.heap := Nat.le_trans hk1 K404i7.1
        refine own_goW (fun tgt => XS.astore X404i7.here hx rfl (hb hby at_152) rfl rfl (l' := #[.val (.int x0), .val (.int x1), .val (.int x2), .val (.int x3), .val (.int x4), .val (.int n), .val (.ref b1), .val (.int t), .val (.ref b302i7), .unset, .unset]) rfl) ?_
        show own_FinW p e below s (own_Q0 n0) room_1.cells room_1.slots (T404i7.setTop (mkF m 154 #[.val (.int x0), .val (.int x1), .val (.int x2), .val (.int x3), .val (.int x4), .val (.int n), .val (.ref b1), .val (.int t), .val (.ref b302i7), .unset, .unset] []))
        refine own_goW (fun tgt => XS.aload X404i7.here hx rfl (hb hby at_154) rfl rfl) ?_
        show own_FinW p e below s (own_Q0 n0) room_1.cells room_1.slots (T404i7.setTop (mkF m 156 #[.val (.int x0), .val (.int x1), .val (.int x2), .val (.int x3), .val (.int x4), .val (.int n), .val (.ref b1), .val (.int t), .val (.ref b302i7), .unset, .unset] [(.ref b302i7)]))
        refine own_goW (fun tgt => XS.iload X404i7.here hx rfl (hb hby at_156) rfl) ?_
        show own_FinW p e below s (own_Q0 n0) room_1.cells room_1.slots (T404i7.setTop (mkF m 158 #[.val (.int x0), .val (.int x1), .val (.int x2), .val (.int x3), .val (.int x4), .val (.int n), .val (.ref b1), .val (.int t), .val (.ref b302i7), .unset, .unset] [(.int t), (.ref b302i7)]))
        obtain ⟨T405i7, X405i7, e405i7, st405i7⟩ := own_callVP X404i7 hx hZ rfl (y := (⟨"com/example/binlogue/binlogue/binlog/FormatDescriptionEvent", "postHeaderLength", "(I)I"⟩ : MethodName)) hown (hw _ (List.mem_of_getElem? (i := 28) rfl)) (hw _ (List.mem_of_getElem? (i := 29) rfl)) (hw _ (List.mem_of_getElem? (i := 31) rfl)) (hw _ (List.mem_of_getElem? (i := 30) rfl)) (hw _ (List.mem_of_getElem? (i := 3) rfl)) (hw _ (List.mem_of_getElem? (i := 32) rfl)) (by decide) (a := b302i7) hE404i7 (argsL := [(.int t)]) (rest := []) (own_met l Z a0 hw b302i7 t b1 n g T404i7.heap 0 (Nat.zero_le _) hF404i7 A_b1_404i7) (by decide) 0 (by decide) (by decide) (by decide) (g := (mkF m 158 #[.val (.int x0), .val (.int x1), .val (.int x2), .val (.int x3), .val (.int x4), .val (.int n), .val (.ref b1), .val (.int t), .val (.ref b302i7), .unset, .unset] [(.int t), (.ref b302i7)])) rfl (by rw [hml]; rfl) (lenOf own_pd2 rfl) rfl (by show 2 * 0 + _ ≤ _; exact Nat.le_of_eq rfl) (hb hby at_158)
        refine own_goW st405i7 ?_
        show own_FinW p e below s (own_Q0 n0) room_1.cells room_1.slots (T405i7.setTop (mkF m 161 #[.val (.int x0), .val (.int x1), .val (.int x2), .val (.int x3), .val (.int x4), .val (.int n), .val (.ref b1), .val (.int t), .val (.ref b302i7), .unset, .unset] [(.int (own_phl t n g))]))
        refine own_goW (fun tgt => XS.istore X405i7.here hx rfl (hb hby at_161) rfl (l' := #[.val (.int x0), .val (.int x1), .val (.int x2), .val (.int x3), .val (.int x4), .val (.int n), .val (.ref b1), .val (.int t), .val (.ref b302i7), .val (.int (own_phl t n g)), .unset]) rfl) ?_
        show own_FinW p e below s (own_Q0 n0) room_1.cells room_1.slots (T405i7.setTop (mkF m 163 #[.val (.int x0), .val (.int x1), .val (.int x2), .val (.int x3), .val (.int x4), .val (.int n), .val (.ref b1), .val (.int t), .val (.ref b302i7), .val (.int (own_phl t n g)), .unset] []))
        refine own_goW (fun tgt => XS.iconst X405i7.here hx rfl (hb hby at_163)) ?_
        show own_FinW p e below s (own_Q0 n0) room_1.cells room_1.slots (T405i7.setTop (mkF m 164 #[.val (.int x0), .val (.int x1), .val (.int x2), .val (.int x3), .val (.int x4), .val (.int n), .val (.ref b1), .val (.int t), .val (.ref b302i7), .val (.int (own_phl t n g)), .unset] [(.int (0 : Int32))]))
        refine own_goW (fun tgt => XS.istore X405i7.here hx rfl (hb hby at_164) rfl (l' := #[.val (.int x0), .val (.int x1), .val (.int x2), .val (.int x3), .val (.int x4), .val (.int n), .val (.ref b1), .val (.int t), .val (.ref b302i7), .val (.int (own_phl t n g)), .val (.int (0 : Int32))]) rfl) ?_
        show own_FinW p e below s (own_Q0 n0) room_1.cells room_1.slots (T405i7.setTop (mkF m 166 #[.val (.int x0), .val (.int x1), .val (.int x2), .val (.int x3), .val (.int x4), .val (.int n), .val (.ref b1), .val (.int t), .val (.ref b302i7), .val (.int (own_phl t n g)), .val (.int (0 : Int32))] []))
        refine own_goW (fun tgt => XS.iload X405i7.here hx rfl (hb hby at_166) rfl) ?_
        show own_FinW p e below s (own_Q0 n0) room_1.cells room_1.slots (T405i7.setTop (mkF m 168 #[.val (.int x0), .val (.int x1), .val (.int x2), .val (.int x3), .val (.int x4), .val (.int n), .val (.ref b1), .val (.int t), .val (.ref b302i7), .val (.int (own_phl t n g)), .val (.int (0 : Int32))] [(.int t)]))
        refine own_goW (fun tgt => XS.iconst X405i7.here hx rfl (hb hby at_168)) ?_
        show own_FinW p e below s (own_Q0 n0) room_1.cells room_1.slots (T405i7.setTop (mkF m 169 #[.val (.int x0), .val (.int x1), .val (.int x2), .val (.int x3), .val (.int x4), .val (.int n), .val (.ref b1), .val (.int t), .val (.ref b302i7), .val (.int (own_phl t n g)), .val (.int (0 : Int32))] [(.int (1 : Int32)), (.int t)]))
        by_cases h169 : t < (1 : Int32)
        · refine own_goW (fun tgt => XS.icmpYes X405i7.here hx rfl (pc0 := 169) (pc' := 188) rfl (hb hby at_169) rfl (tlt h169).1 (by decide) (by decide)) ?_
          show own_FinW p e below s (own_Q0 n0) room_1.cells room_1.slots (T405i7.setTop (mkF m 188 #[.val (.int x0), .val (.int x1), .val (.int x2), .val (.int x3), .val (.int x4), .val (.int n), .val (.ref b1), .val (.int t), .val (.ref b302i7), .val (.int (own_phl t n g)), .val (.int (0 : Int32))] []))
          refine own_goW (fun tgt => XS.iload X405i7.here hx rfl (hb hby at_188) rfl) ?_
          show own_FinW p e below s (own_Q0 n0) room_1.cells room_1.slots (T405i7.setTop (mkF m 190 #[.val (.int x0), .val (.int x1), .val (.int x2), .val (.int x3), .val (.int x4), .val (.int n), .val (.ref b1), .val (.int t), .val (.ref b302i7), .val (.int (own_phl t n g)), .val (.int (0 : Int32))] [(.int (own_phl t n g))]))
          refine own_goW (fun tgt => XS.iload X405i7.here hx rfl (hb hby at_190) rfl) ?_
          show own_FinW p e below s (own_Q0 n0) room_1.cells room_1.slots (T405i7.setTop (mkF m 192 #[.val (.int x0), .val (.int x1), .val (.int x2), .val (.int x3), .val (.int x4), .val (.int n), .val (.ref b1), .val (.int t), .val (.ref b302i7), .val (.int (own_phl t n g)), .val (.int (0 : Int32))] [(.int (0 : Int32)), (.int (own_phl t n g))]))
          refine own_goW (fun tgt => XS.icmpNo X405i7.here hx rfl (hb hby at_192) rfl (teq (if_pos h169)).2) ?_
          show own_FinW p e below s (own_Q0 n0) room_1.cells room_1.slots (T405i7.setTop (mkF m 195 #[.val (.int x0), .val (.int x1), .val (.int x2), .val (.int x3), .val (.int x4), .val (.int n), .val (.ref b1), .val (.int t), .val (.ref b302i7), .val (.int (own_phl t n g)), .val (.int (0 : Int32))] []))
          refine own_goW (fun tgt => XS.iconst X405i7.here hx rfl (hb hby at_195)) ?_
          show own_FinW p e below s (own_Q0 n0) room_1.cells room_1.slots (T405i7.setTop (mkF m 196 #[.val (.int x0), .val (.int x1), .val (.int x2), .val (.int x3), .val (.int x4), .val (.int n), .val (.ref b1), .val (.int t), .val (.ref b302i7), .val (.int (own_phl t n g)), .val (.int (0 : Int32))] [(.int (1 : Int32))]))
          refine own_goW (fun tgt => XS.goto X405i7.here hx rfl (pc0 := 196) (pc' := 200) rfl (hb hby at_196) (by decide) (by decide)) ?_
          show own_FinW p e below s (own_Q0 n0) room_1.cells room_1.slots (T405i7.setTop (mkF m 200 #[.val (.int x0), .val (.int x1), .val (.int x2), .val (.int x3), .val (.int x4), .val (.int n), .val (.ref b1), .val (.int t), .val (.ref b302i7), .val (.int (own_phl t n g)), .val (.int (0 : Int32))] [(.int (1 : Int32))]))
          exact own_retW X405i7 hS (by rw [e405i7]; exact hk2) hlk hx (t := .boolean) hret rfl (Or.inl ⟨rfl, by simp, _, rfl⟩) (hb hby at_200) ⟨rfl, N404i7⟩ (by decide) (by decide)
        · refine own_goW (fun tgt => XS.icmpNo X405i7.here hx rfl (hb hby at_169) rfl (flt h169).1) ?_
          show own_FinW p e below s (own_Q0 n0) room_1.cells room_1.slots (T405i7.setTop (mkF m 172 #[.val (.int x0), .val (.int x1), .val (.int x2), .val (.int x3), .val (.int x4), .val (.int n), .val (.ref b1), .val (.int t), .val (.ref b302i7), .val (.int (own_phl t n g)), .val (.int (0 : Int32))] []))
          refine own_goW (fun tgt => XS.iload X405i7.here hx rfl (hb hby at_172) rfl) ?_
          show own_FinW p e below s (own_Q0 n0) room_1.cells room_1.slots (T405i7.setTop (mkF m 174 #[.val (.int x0), .val (.int x1), .val (.int x2), .val (.int x3), .val (.int x4), .val (.int n), .val (.ref b1), .val (.int t), .val (.ref b302i7), .val (.int (own_phl t n g)), .val (.int (0 : Int32))] [(.int t)]))
          refine own_goW (fun tgt => XS.iload X405i7.here hx rfl (hb hby at_174) rfl) ?_
          show own_FinW p e below s (own_Q0 n0) room_1.cells room_1.slots (T405i7.setTop (mkF m 176 #[.val (.int x0), .val (.int x1), .val (.int x2), .val (.int x3), .val (.int x4), .val (.int n), .val (.ref b1), .val (.int t), .val (.ref b302i7), .val (.int (own_phl t n g)), .val (.int (0 : Int32))] [(.int n), (.int t)]))
          by_cases h176 : n < t
          · refine own_goW (fun tgt => XS.icmpYes X405i7.here hx rfl (pc0 := 176) (pc' := 188) rfl (hb hby at_176) rfl (tlt h176).2.2.1 (by decide) (by decide)) ?_
            show own_FinW p e below s (own_Q0 n0) room_1.cells room_1.slots (T405i7.setTop (mkF m 188 #[.val (.int x0), .val (.int x1), .val (.int x2), .val (.int x3), .val (.int x4), .val (.int n), .val (.ref b1), .val (.int t), .val (.ref b302i7), .val (.int (own_phl t n g)), .val (.int (0 : Int32))] []))
            refine own_goW (fun tgt => XS.iload X405i7.here hx rfl (hb hby at_188) rfl) ?_
            show own_FinW p e below s (own_Q0 n0) room_1.cells room_1.slots (T405i7.setTop (mkF m 190 #[.val (.int x0), .val (.int x1), .val (.int x2), .val (.int x3), .val (.int x4), .val (.int n), .val (.ref b1), .val (.int t), .val (.ref b302i7), .val (.int (own_phl t n g)), .val (.int (0 : Int32))] [(.int (own_phl t n g))]))
            refine own_goW (fun tgt => XS.iload X405i7.here hx rfl (hb hby at_190) rfl) ?_
            show own_FinW p e below s (own_Q0 n0) room_1.cells room_1.slots (T405i7.setTop (mkF m 192 #[.val (.int x0), .val (.int x1), .val (.int x2), .val (.int x3), .val (.int x4), .val (.int n), .val (.ref b1), .val (.int t), .val (.ref b302i7), .val (.int (own_phl t n g)), .val (.int (0 : Int32))] [(.int (0 : Int32)), (.int (own_phl t n g))]))
            refine own_goW (fun tgt => XS.icmpNo X405i7.here hx rfl (hb hby at_192) rfl (teq ((if_neg h169).trans (if_pos h176))).2) ?_
            show own_FinW p e below s (own_Q0 n0) room_1.cells room_1.slots (T405i7.setTop (mkF m 195 #[.val (.int x0), .val (.int x1), .val (.int x2), .val (.int x3), .val (.int x4), .val (.int n), .val (.ref b1), .val (.int t), .val (.ref b302i7), .val (.int (own_phl t n g)), .val (.int (0 : Int32))] []))
            refine own_goW (fun tgt => XS.iconst X405i7.here hx rfl (hb hby at_195)) ?_
            show own_FinW p e below s (own_Q0 n0) room_1.cells room_1.slots (T405i7.setTop (mkF m 196 #[.val (.int x0), .val (.int x1), .val (.int x2), .val (.int x3), .val (.int x4), .val (.int n), .val (.ref b1), .val (.int t), .val (.ref b302i7), .val (.int (own_phl t n g)), .val (.int (0 : Int32))] [(.int (1 : Int32))]))
            refine own_goW (fun tgt => XS.goto X405i7.here hx rfl (pc0 := 196) (pc' := 200) rfl (hb hby at_196) (by decide) (by decide)) ?_
            show own_FinW p e below s (own_Q0 n0) room_1.cells room_1.slots (T405i7.setTop (mkF m 200 #[.val (.int x0), .val (.int x1), .val (.int x2), .val (.int x3), .val (.int x4), .val (.int n), .val (.ref b1), .val (.int t), .val (.ref b302i7), .val (.int (own_phl t n g)), .val (.int (0 : Int32))] [(.int (1 : Int32))]))
            exact own_retW X405i7 hS (by rw [e405i7]; exact hk2) hlk hx (t := .boolean) hret rfl (Or.inl ⟨rfl, by simp, _, rfl⟩) (hb hby at_200) ⟨rfl, N404i7⟩ (by decide) (by decide)
          · refine own_goW (fun tgt => XS.icmpNo X405i7.here hx rfl (hb hby at_176) rfl (flt h176).2.2.1) ?_
            show own_FinW p e below s (own_Q0 n0) room_1.cells room_1.slots (T405i7.setTop (mkF m 179 #[.val (.int x0), .val (.int x1), .val (.int x2), .val (.int x3), .val (.int x4), .val (.int n), .val (.ref b1), .val (.int t), .val (.ref b302i7), .val (.int (own_phl t n g)), .val (.int (0 : Int32))] []))
            refine own_goW (fun tgt => XS.iloadN X405i7.here hx rfl (hb hby at_179) rfl) ?_
            show own_FinW p e below s (own_Q0 n0) room_1.cells room_1.slots (T405i7.setTop (mkF m 180 #[.val (.int x0), .val (.int x1), .val (.int x2), .val (.int x3), .val (.int x4), .val (.int n), .val (.ref b1), .val (.int t), .val (.ref b302i7), .val (.int (own_phl t n g)), .val (.int (0 : Int32))] [(.int x1)]))
            refine own_goW (fun tgt => XS.iloadN X405i7.here hx rfl (hb hby at_180) rfl) ?_
            show own_FinW p e below s (own_Q0 n0) room_1.cells room_1.slots (T405i7.setTop (mkF m 181 #[.val (.int x0), .val (.int x1), .val (.int x2), .val (.int x3), .val (.int x4), .val (.int n), .val (.ref b1), .val (.int t), .val (.ref b302i7), .val (.int (own_phl t n g)), .val (.int (0 : Int32))] [(.int x2), (.int x1)]))
            refine own_goW (fun tgt => XS.iload X405i7.here hx rfl (hb hby at_181) rfl) ?_
            show own_FinW p e below s (own_Q0 n0) room_1.cells room_1.slots (T405i7.setTop (mkF m 183 #[.val (.int x0), .val (.int x1), .val (.int x2), .val (.int x3), .val (.int x4), .val (.int n), .val (.ref b1), .val (.int t), .val (.ref b302i7), .val (.int (own_phl t n g)), .val (.int (0 : Int32))] [(.int t), (.int x2), (.int x1)]))
            obtain ⟨T606i7, X606i7, e606i7, st606i7⟩ := own_callP X405i7 hx hZ e405i7 (y := (⟨"com/example/binlogue/binlogue/binlog/FormatDescriptionEventPostHeaderLengthPinLaw", "unsignedByte", "(III)I"⟩ : MethodName)) hown (hw _ (List.mem_of_getElem? (i := 33) rfl)) (hw _ (List.mem_of_getElem? (i := 34) rfl)) (hw _ (List.mem_of_getElem? (i := 35) rfl)) (hw _ (List.mem_of_getElem? (i := 36) rfl)) (by decide) (argsL := [(.int x1), (.int x2), (.int t)]) (rest := []) (own_c5 l Z a0 hw x1 x2 t _) (by decide) 0 (by decide) (by decide) (by decide) (g := (mkF m 183 #[.val (.int x0), .val (.int x1), .val (.int x2), .val (.int x3), .val (.int x4), .val (.int n), .val (.ref b1), .val (.int t), .val (.ref b302i7), .val (.int (own_phl t n g)), .val (.int (0 : Int32))] [(.int t), (.int x2), (.int x1)])) rfl (by rw [hml]; rfl) (lenOf own_pd3 rfl) rfl (by show 2 * 0 + _ ≤ _; exact Nat.le_of_eq rfl) (hb hby at_183)
            refine own_goW st606i7 ?_
            show own_FinW p e below s (own_Q0 n0) room_1.cells room_1.slots (T606i7.setTop (mkF m 186 #[.val (.int x0), .val (.int x1), .val (.int x2), .val (.int x3), .val (.int x4), .val (.int n), .val (.ref b1), .val (.int t), .val (.ref b302i7), .val (.int (own_phl t n g)), .val (.int (0 : Int32))] [(.int (own_f5_0 x1 x2 t))]))
            refine own_goW (fun tgt => XS.istore X606i7.here hx rfl (hb hby at_186) rfl (l' := #[.val (.int x0), .val (.int x1), .val (.int x2), .val (.int x3), .val (.int x4), .val (.int n), .val (.ref b1), .val (.int t), .val (.ref b302i7), .val (.int (own_phl t n g)), .val (.int (own_f5_0 x1 x2 t))]) rfl) ?_
            show own_FinW p e below s (own_Q0 n0) room_1.cells room_1.slots (T606i7.setTop (mkF m 188 #[.val (.int x0), .val (.int x1), .val (.int x2), .val (.int x3), .val (.int x4), .val (.int n), .val (.ref b1), .val (.int t), .val (.ref b302i7), .val (.int (own_phl t n g)), .val (.int (own_f5_0 x1 x2 t))] []))
            refine own_goW (fun tgt => XS.iload X606i7.here hx rfl (hb hby at_188) rfl) ?_
            show own_FinW p e below s (own_Q0 n0) room_1.cells room_1.slots (T606i7.setTop (mkF m 190 #[.val (.int x0), .val (.int x1), .val (.int x2), .val (.int x3), .val (.int x4), .val (.int n), .val (.ref b1), .val (.int t), .val (.ref b302i7), .val (.int (own_phl t n g)), .val (.int (own_f5_0 x1 x2 t))] [(.int (own_phl t n g))]))
            refine own_goW (fun tgt => XS.iload X606i7.here hx rfl (hb hby at_190) rfl) ?_
            show own_FinW p e below s (own_Q0 n0) room_1.cells room_1.slots (T606i7.setTop (mkF m 192 #[.val (.int x0), .val (.int x1), .val (.int x2), .val (.int x3), .val (.int x4), .val (.int n), .val (.ref b1), .val (.int t), .val (.ref b302i7), .val (.int (own_phl t n g)), .val (.int (own_f5_0 x1 x2 t))] [(.int (own_f5_0 x1 x2 t)), (.int (own_phl t n g))]))
            have u1 := own_nltT h169
            have u2 := own_nltT h176
            have o1 : (1 : Int32).toInt = 1 := by decide
            have e1 : (t - (1 : Int32)).toInt = t.toInt - 1 := by
              have a := c_isub t 1
              have r := rng32 (t - (1 : Int32))
              have r1 := rng32 t
              omega
            refine own_goW (fun tgt => XS.icmpNo X606i7.here hx rfl (hb hby at_192) rfl (teq ((if_neg h169).trans ((if_neg h176).trans ((congrArg (fun v => v &&& (255 : Int32)) (hg (t - (1 : Int32)) (own_Tnlt (by omega)) (own_Tlt (by omega)) (by omega))).trans (own_ubeq x1 x2 t (by omega) (by omega)))))).2) ?_
            show own_FinW p e below s (own_Q0 n0) room_1.cells room_1.slots (T606i7.setTop (mkF m 195 #[.val (.int x0), .val (.int x1), .val (.int x2), .val (.int x3), .val (.int x4), .val (.int n), .val (.ref b1), .val (.int t), .val (.ref b302i7), .val (.int (own_phl t n g)), .val (.int (own_f5_0 x1 x2 t))] []))
            refine own_goW (fun tgt => XS.iconst X606i7.here hx rfl (hb hby at_195)) ?_
            show own_FinW p e below s (own_Q0 n0) room_1.cells room_1.slots (T606i7.setTop (mkF m 196 #[.val (.int x0), .val (.int x1), .val (.int x2), .val (.int x3), .val (.int x4), .val (.int n), .val (.ref b1), .val (.int t), .val (.ref b302i7), .val (.int (own_phl t n g)), .val (.int (own_f5_0 x1 x2 t))] [(.int (1 : Int32))]))
            refine own_goW (fun tgt => XS.goto X606i7.here hx rfl (pc0 := 196) (pc' := 200) rfl (hb hby at_196) (by decide) (by decide)) ?_
            show own_FinW p e below s (own_Q0 n0) room_1.cells room_1.slots (T606i7.setTop (mkF m 200 #[.val (.int x0), .val (.int x1), .val (.int x2), .val (.int x3), .val (.int x4), .val (.int n), .val (.ref b1), .val (.int t), .val (.ref b302i7), .val (.int (own_phl t n g)), .val (.int (own_f5_0 x1 x2 t))] [(.int (1 : Int32))]))
            exact own_retW X606i7 hS (by rw [e606i7]; exact hk2) hlk hx (t := .boolean) hret rfl (Or.inl ⟨rfl, by simp, _, rfl⟩) (hb hby at_200) ⟨rfl, N404i7⟩ (by decide) (by decide)
      · refine own_goW (fun tgt => XS.ifNo X303i7.here hx rfl (hb hby at_141) rfl ((if0 _ _).trans (feq h141).1)) ?_
        show own_FinW p e below s (own_Q0 n0) room_1.cells room_1.slots (T303i7.setTop (mkF m 144 #[.val (.int x0), .val (.int x1), .val (.int x2), .val (.int x3), .val (.int x4), .val (.int n), .val (.ref b1), .val (.int t), .unset, .unset, .unset] [(.ref b1), (.ref sa), (.ref b302i7), (.ref b302i7)]))
        refine own_goW (fun tgt => XS.iconst X303i7.here hx rfl (hb hby at_144)) ?_
        show own_FinW p e below s (own_Q0 n0) room_1.cells room_1.slots (T303i7.setTop (mkF m 145 #[.val (.int x0), .val (.int x1), .val (.int x2), .val (.int x3), .val (.int x4), .val (.int n), .val (.ref b1), .val (.int t), .unset, .unset, .unset] [(.int (1 : Int32)), (.ref b1), (.ref sa), (.ref b302i7), (.ref b302i7)]))
        refine own_goW (fun tgt => XS.goto X303i7.here hx rfl (pc0 := 145) (pc' := 149) rfl (hb hby at_145) (by decide) (by decide)) ?_
        show own_FinW p e below s (own_Q0 n0) room_1.cells room_1.slots (T303i7.setTop (mkF m 149 #[.val (.int x0), .val (.int x1), .val (.int x2), .val (.int x3), .val (.int x4), .val (.int n), .val (.ref b1), .val (.int t), .unset, .unset, .unset] [(.int (1 : Int32)), (.ref b1), (.ref sa), (.ref b302i7), (.ref b302i7)]))
        obtain ⟨_, T404i7, L404i7, X404i7, ⟨rfl, Nq404i7, K404i7, hE404i7, hF404i7⟩, st404i7⟩ := own_callI X303i7 hx hZ e303i7 (y := (⟨"com/example/binlogue/binlogue/binlog/FormatDescriptionEvent", "<init>", "(Ljava/lang/String;[BZ)V"⟩ : MethodName)) rfl hown (hw _ (List.mem_of_getElem? (i := 11) rfl)) (hw _ (List.mem_of_getElem? (i := 12) rfl)) (hw _ (List.mem_of_getElem? (i := 3) rfl)) (hw _ (List.mem_of_getElem? (i := 13) rfl)) (by decide) (a := b302i7) (argsL := [(.ref sa), (.ref b1), (.int (1 : Int32))]) (rest := [(.ref b302i7)]) (own_ini l Z a0 hw b302i7 sa b1 (1 : Int32) h303i7 n0 (Nat.le_trans Z0 KK303i7.1) G_b302i7 E_b302i7_303i7 F_b302i7_serverVersion_303i7 F_b302i7_postHeaderLengths_303i7 F_b302i7_checksummed_303i7) (by decide) 1 (by decide) (by decide) (by decide) (g := (mkF m 149 #[.val (.int x0), .val (.int x1), .val (.int x2), .val (.int x3), .val (.int x4), .val (.int n), .val (.ref b1), .val (.int t), .unset, .unset, .unset] [(.int (1 : Int32)), (.ref b1), (.ref sa), (.ref b302i7), (.ref b302i7)])) rfl (by rw [hml]; rfl) (lenOf own_pd1 rfl) rfl (by show 2 * 0 + _ ≤ _; exact Nat.le_of_eq rfl) (hb hby at_149)
        have N404i7 := Fr.app N Nq404i7
        have A_b1_404i7 := A_b1_303i7.keep K404i7 (ninS ne_b1_b302i7 nin0)
        have E_b302i7_404i7 := E_b302i7_303i7.keep K404i7
        have KK404i7 := KK303i7.trans K404i7 (allS (Or.inr sz_b302i7) all0)
        refine own_goW st404i7 ?_
        show own_FinW p e below s (own_Q0 n0) room_1.cells room_1.slots (T404i7.setTop (mkF m 152 #[.val (.int x0), .val (.int x1), .val (.int x2), .val (.int x3), .val (.int x4), .val (.int n), .val (.ref b1), .val (.int t), .unset, .unset, .unset] [(.ref b302i7)]))
        have hk2 : k1 ≤ Array.size T404i7.heap := Nat.le_trans hk1 K404i7.1
        refine own_goW (fun tgt => XS.astore X404i7.here hx rfl (hb hby at_152) rfl rfl (l' := #[.val (.int x0), .val (.int x1), .val (.int x2), .val (.int x3), .val (.int x4), .val (.int n), .val (.ref b1), .val (.int t), .val (.ref b302i7), .unset, .unset]) rfl) ?_
        show own_FinW p e below s (own_Q0 n0) room_1.cells room_1.slots (T404i7.setTop (mkF m 154 #[.val (.int x0), .val (.int x1), .val (.int x2), .val (.int x3), .val (.int x4), .val (.int n), .val (.ref b1), .val (.int t), .val (.ref b302i7), .unset, .unset] []))
        refine own_goW (fun tgt => XS.aload X404i7.here hx rfl (hb hby at_154) rfl rfl) ?_
        show own_FinW p e below s (own_Q0 n0) room_1.cells room_1.slots (T404i7.setTop (mkF m 156 #[.val (.int x0), .val (.int x1), .val (.int x2), .val (.int x3), .val (.int x4), .val (.int n), .val (.ref b1), .val (.int t), .val (.ref b302i7), .unset, .unset] [(.ref b302i7)]))
        refine own_goW (fun tgt => XS.iload X404i7.here hx rfl (hb hby at_156) rfl) ?_
        show own_FinW p e below s (own_Q0 n0) room_1.cells room_1.slots (T404i7.setTop (mkF m 158 #[.val (.int x0), .val (.int x1), .val (.int x2), .val (.int x3), .val (.int x4), .val (.int n), .val (.ref b1), .val (.int t), .val (.ref b302i7), .unset, .unset] [(.int t), (.ref b302i7)]))
        obtain ⟨T405i7, X405i7, e405i7, st405i7⟩ := own_callVP X404i7 hx hZ rfl (y := (⟨"com/example/binlogue/binlogue/binlog/FormatDescriptionEvent", "postHeaderLength", "(I)I"⟩ : MethodName)) hown (hw _ (List.mem_of_getElem? (i := 28) rfl)) (hw _ (List.mem_of_getElem? (i := 29) rfl)) (hw _ (List.mem_of_getElem? (i := 31) rfl)) (hw _ (List.mem_of_getElem? (i := 30) rfl)) (hw _ (List.mem_of_getElem? (i := 3) rfl)) (hw _ (List.mem_of_getElem? (i := 32) rfl)) (by decide) (a := b302i7) hE404i7 (argsL := [(.int t)]) (rest := []) (own_met l Z a0 hw b302i7 t b1 n g T404i7.heap 0 (Nat.zero_le _) hF404i7 A_b1_404i7) (by decide) 0 (by decide) (by decide) (by decide) (g := (mkF m 158 #[.val (.int x0), .val (.int x1), .val (.int x2), .val (.int x3), .val (.int x4), .val (.int n), .val (.ref b1), .val (.int t), .val (.ref b302i7), .unset, .unset] [(.int t), (.ref b302i7)])) rfl (by rw [hml]; rfl) (lenOf own_pd2 rfl) rfl (by show 2 * 0 + _ ≤ _; exact Nat.le_of_eq rfl) (hb hby at_158)
        refine own_goW st405i7 ?_
        show own_FinW p e below s (own_Q0 n0) room_1.cells room_1.slots (T405i7.setTop (mkF m 161 #[.val (.int x0), .val (.int x1), .val (.int x2), .val (.int x3), .val (.int x4), .val (.int n), .val (.ref b1), .val (.int t), .val (.ref b302i7), .unset, .unset] [(.int (own_phl t n g))]))
        refine own_goW (fun tgt => XS.istore X405i7.here hx rfl (hb hby at_161) rfl (l' := #[.val (.int x0), .val (.int x1), .val (.int x2), .val (.int x3), .val (.int x4), .val (.int n), .val (.ref b1), .val (.int t), .val (.ref b302i7), .val (.int (own_phl t n g)), .unset]) rfl) ?_
        show own_FinW p e below s (own_Q0 n0) room_1.cells room_1.slots (T405i7.setTop (mkF m 163 #[.val (.int x0), .val (.int x1), .val (.int x2), .val (.int x3), .val (.int x4), .val (.int n), .val (.ref b1), .val (.int t), .val (.ref b302i7), .val (.int (own_phl t n g)), .unset] []))
        refine own_goW (fun tgt => XS.iconst X405i7.here hx rfl (hb hby at_163)) ?_
        show own_FinW p e below s (own_Q0 n0) room_1.cells room_1.slots (T405i7.setTop (mkF m 164 #[.val (.int x0), .val (.int x1), .val (.int x2), .val (.int x3), .val (.int x4), .val (.int n), .val (.ref b1), .val (.int t), .val (.ref b302i7), .val (.int (own_phl t n g)), .unset] [(.int (0 : Int32))]))
        refine own_goW (fun tgt => XS.istore X405i7.here hx rfl (hb hby at_164) rfl (l' := #[.val (.int x0), .val (.int x1), .val (.int x2), .val (.int x3), .val (.int x4), .val (.int n), .val (.ref b1), .val (.int t), .val (.ref b302i7), .val (.int (own_phl t n g)), .val (.int (0 : Int32))]) rfl) ?_
        show own_FinW p e below s (own_Q0 n0) room_1.cells room_1.slots (T405i7.setTop (mkF m 166 #[.val (.int x0), .val (.int x1), .val (.int x2), .val (.int x3), .val (.int x4), .val (.int n), .val (.ref b1), .val (.int t), .val (.ref b302i7), .val (.int (own_phl t n g)), .val (.int (0 : Int32))] []))
        refine own_goW (fun tgt => XS.iload X405i7.here hx rfl (hb hby at_166) rfl) ?_
        show own_FinW p e below s (own_Q0 n0) room_1.cells room_1.slots (T405i7.setTop (mkF m 168 #[.val (.int x0), .val (.int x1), .val (.int x2), .val (.int x3), .val (.int x4), .val (.int n), .val (.ref b1), .val (.int t), .val (.ref b302i7), .val (.int (own_phl t n g)), .val (.int (0 : Int32))] [(.int t)]))
        refine own_goW (fun tgt => XS.iconst X405i7.here hx rfl (hb hby at_168)) ?_
        show own_FinW p e below s (own_Q0 n0) room_1.cells room_1.slots (T405i7.setTop (mkF m 169 #[.val (.int x0), .val (.int x1), .val (.int x2), .val (.int x3), .val (.int x4), .val (.int n), .val (.ref b1), .val (.int t), .val (.ref b302i7), .val (.int (own_phl t n g)), .val (.int (0 : Int32))] [(.int (1 : Int32)), (.int t)]))
        by_cases h169 : t < (1 : Int32)
        · refine own_goW (fun tgt => XS.icmpYes X405i7.here hx rfl (pc0 := 169) (pc' := 188) rfl (hb hby at_169) rfl (tlt h169).1 (by decide) (by decide)) ?_
          show own_FinW p e below s (own_Q0 n0) room_1.cells room_1.slots (T405i7.setTop (mkF m 188 #[.val (.int x0), .val (.int x1), .val (.int x2), .val (.int x3), .val (.int x4), .val (.int n), .val (.ref b1), .val (.int t), .val (.ref b302i7), .val (.int (own_phl t n g)), .val (.int (0 : Int32))] []))
          refine own_goW (fun tgt => XS.iload X405i7.here hx rfl (hb hby at_188) rfl) ?_
          show own_FinW p e below s (own_Q0 n0) room_1.cells room_1.slots (T405i7.setTop (mkF m 190 #[.val (.int x0), .val (.int x1), .val (.int x2), .val (.int x3), .val (.int x4), .val (.int n), .val (.ref b1), .val (.int t), .val (.ref b302i7), .val (.int (own_phl t n g)), .val (.int (0 : Int32))] [(.int (own_phl t n g))]))
          refine own_goW (fun tgt => XS.iload X405i7.here hx rfl (hb hby at_190) rfl) ?_
          show own_FinW p e below s (own_Q0 n0) room_1.cells room_1.slots (T405i7.setTop (mkF m 192 #[.val (.int x0), .val (.int x1), .val (.int x2), .val (.int x3), .val (.int x4), .val (.int n), .val (.ref b1), .val (.int t), .val (.ref b302i7), .val (.int (own_phl t n g)), .val (.int (0 : Int32))] [(.int (0 : Int32)), (.int (own_phl t n g))]))
          refine own_goW (fun tgt => XS.icmpNo X405i7.here hx rfl (hb hby at_192) rfl (teq (if_pos h169)).2) ?_
          show own_FinW p e below s (own_Q0 n0) room_1.cells room_1.slots (T405i7.setTop (mkF m 195 #[.val (.int x0), .val (.int x1), .val (.int x2), .val (.int x3), .val (.int x4), .val (.int n), .val (.ref b1), .val (.int t), .val (.ref b302i7), .val (.int (own_phl t n g)), .val (.int (0 : Int32))] []))
          refine own_goW (fun tgt => XS.iconst X405i7.here hx rfl (hb hby at_195)) ?_
          show own_FinW p e below s (own_Q0 n0) room_1.cells room_1.slots (T405i7.setTop (mkF m 196 #[.val (.int x0), .val (.int x1), .val (.int x2), .val (.int x3), .val (.int x4), .val (.int n), .val (.ref b1), .val (.int t), .val (.ref b302i7), .val (.int (own_phl t n g)), .val (.int (0 : Int32))] [(.int (1 : Int32))]))
          refine own_goW (fun tgt => XS.goto X405i7.here hx rfl (pc0 := 196) (pc' := 200) rfl (hb hby at_196) (by decide) (by decide)) ?_
          show own_FinW p e below s (own_Q0 n0) room_1.cells room_1.slots (T405i7.setTop (mkF m 200 #[.val (.int x0), .val (.int x1), .val (.int x2), .val (.int x3), .val (.int x4), .val (.int n), .val (.ref b1), .val (.int t), .val (.ref b302i7), .val (.int (own_phl t n g)), .val (.int (0 : Int32))] [(.int (1 : Int32))]))
          exact own_retW X405i7 hS (by rw [e405i7]; exact hk2) hlk hx (t := .boolean) hret rfl (Or.inl ⟨rfl, by simp, _, rfl⟩) (hb hby at_200) ⟨rfl, N404i7⟩ (by decide) (by decide)
        · refine own_goW (fun tgt => XS.icmpNo X405i7.here hx rfl (hb hby at_169) rfl (flt h169).1) ?_
          show own_FinW p e below s (own_Q0 n0) room_1.cells room_1.slots (T405i7.setTop (mkF m 172 #[.val (.int x0), .val (.int x1), .val (.int x2), .val (.int x3), .val (.int x4), .val (.int n), .val (.ref b1), .val (.int t), .val (.ref b302i7), .val (.int (own_phl t n g)), .val (.int (0 : Int32))] []))
          refine own_goW (fun tgt => XS.iload X405i7.here hx rfl (hb hby at_172) rfl) ?_
          show own_FinW p e below s (own_Q0 n0) room_1.cells room_1.slots (T405i7.setTop (mkF m 174 #[.val (.int x0), .val (.int x1), .val (.int x2), .val (.int x3), .val (.int x4), .val (.int n), .val (.ref b1), .val (.int t), .val (.ref b302i7), .val (.int (own_phl t n g)), .val (.int (0 : Int32))] [(.int t)]))
          refine own_goW (fun tgt => XS.iload X405i7.here hx rfl (hb hby at_174) rfl) ?_
          show own_FinW p e below s (own_Q0 n0) room_1.cells room_1.slots (T405i7.setTop (mkF m 176 #[.val (.int x0), .val (.int x1), .val (.int x2), .val (.int x3), .val (.int x4), .val (.int n), .val (.ref b1), .val (.int t), .val (.ref b302i7), .val (.int (own_phl t n g)), .val (.int (0 : Int32))] [(.int n), (.int t)]))
          by_cases h176 : n < t
          · refine own_goW (fun tgt => XS.icmpYes X405i7.here hx rfl (pc0 := 176) (pc' := 188) rfl (hb hby at_176) rfl (tlt h176).2.2.1 (by decide) (by decide)) ?_
            show own_FinW p e below s (own_Q0 n0) room_1.cells room_1.slots (T405i7.setTop (mkF m 188 #[.val (.int x0), .val (.int x1), .val (.int x2), .val (.int x3), .val (.int x4), .val (.int n), .val (.ref b1), .val (.int t), .val (.ref b302i7), .val (.int (own_phl t n g)), .val (.int (0 : Int32))] []))
            refine own_goW (fun tgt => XS.iload X405i7.here hx rfl (hb hby at_188) rfl) ?_
            show own_FinW p e below s (own_Q0 n0) room_1.cells room_1.slots (T405i7.setTop (mkF m 190 #[.val (.int x0), .val (.int x1), .val (.int x2), .val (.int x3), .val (.int x4), .val (.int n), .val (.ref b1), .val (.int t), .val (.ref b302i7), .val (.int (own_phl t n g)), .val (.int (0 : Int32))] [(.int (own_phl t n g))]))
            refine own_goW (fun tgt => XS.iload X405i7.here hx rfl (hb hby at_190) rfl) ?_
            show own_FinW p e below s (own_Q0 n0) room_1.cells room_1.slots (T405i7.setTop (mkF m 192 #[.val (.int x0), .val (.int x1), .val (.int x2), .val (.int x3), .val (.int x4), .val (.int n), .val (.ref b1), .val (.int t), .val (.ref b302i7), .val (.int (own_phl t n g)), .val (.int (0 : Int32))] [(.int (0 : Int32)), (.int (own_phl t n g))]))
            refine own_goW (fun tgt => XS.icmpNo X405i7.here hx rfl (hb hby at_192) rfl (teq ((if_neg h169).trans (if_pos h176))).2) ?_
            show own_FinW p e below s (own_Q0 n0) room_1.cells room_1.slots (T405i7.setTop (mkF m 195 #[.val (.int x0), .val (.int x1), .val (.int x2), .val (.int x3), .val (.int x4), .val (.int n), .val (.ref b1), .val (.int t), .val (.ref b302i7), .val (.int (own_phl t n g)), .val (.int (0 : Int32))] []))
            refine own_goW (fun tgt => XS.iconst X405i7.here hx rfl (hb hby at_195)) ?_
            show own_FinW p e below s (own_Q0 n0) room_1.cells room_1.slots (T405i7.setTop (mkF m 196 #[.val (.int x0), .val (.int x1), .val (.int x2), .val (.int x3), .val (.int x4), .val (.int n), .val (.ref b1), .val (.int t), .val (.ref b302i7), .val (.int (own_phl t n g)), .val (.int (0 : Int32))] [(.int (1 : Int32))]))
            refine own_goW (fun tgt => XS.goto X405i7.here hx rfl (pc0 := 196) (pc' := 200) rfl (hb hby at_196) (by decide) (by decide)) ?_
            show own_FinW p e below s (own_Q0 n0) room_1.cells room_1.slots (T405i7.setTop (mkF m 200 #[.val (.int x0), .val (.int x1), .val (.int x2), .val (.int x3), .val (.int x4), .val (.int n), .val (.ref b1), .val (.int t), .val (.ref b302i7), .val (.int (own_phl t n g)), .val (.int (0 : Int32))] [(.int (1 : Int32))]))
            exact own_retW X405i7 hS (by rw [e405i7]; exact hk2) hlk hx (t := .boolean) hret rfl (Or.inl ⟨rfl, by simp, _, rfl⟩) (hb hby at_200) ⟨rfl, N404i7⟩ (by decide) (by decide)
          · refine own_goW (fun tgt => XS.icmpNo X405i7.here hx rfl (hb hby at_176) rfl (flt h176).2.2.1) ?_
            show own_FinW p e below s (own_Q0 n0) room_1.cells room_1.slots (T405i7.setTop (mkF m 179 #[.val (.int x0), .val (.int x1), .val (.int x2), .val (.int x3), .val (.int x4), .val (.int n), .val (.ref b1), .val (.int t), .val (.ref b302i7), .val (.int (own_phl t n g)), .val (.int (0 : Int32))] []))
            refine own_goW (fun tgt => XS.iloadN X405i7.here hx rfl (hb hby at_179) rfl) ?_
            show own_FinW p e below s (own_Q0 n0) room_1.cells room_1.slots (T405i7.setTop (mkF m 180 #[.val (.int x0), .val (.int x1), .val (.int x2), .val (.int x3), .val (.int x4), .val (.int n), .val (.ref b1), .val (.int t), .val (.ref b302i7), .val (.int (own_phl t n g)), .val (.int (0 : Int32))] [(.int x1)]))
            refine own_goW (fun tgt => XS.iloadN X405i7.here hx rfl (hb hby at_180) rfl) ?_
            show own_FinW p e below s (own_Q0 n0) room_1.cells room_1.slots (T405i7.setTop (mkF m 181 #[.val (.int x0), .val (.int x1), .val (.int x2), .val (.int x3), .val (.int x4), .val (.int n), .val (.ref b1), .val (.int t), .val (.ref b302i7), .val (.int (own_phl t n g)), .val (.int (0 : Int32))] [(.int x2), (.int x1)]))
            refine own_goW (fun tgt => XS.iload X405i7.here hx rfl (hb hby at_181) rfl) ?_
            show own_FinW p e below s (own_Q0 n0) room_1.cells room_1.slots (T405i7.setTop (mkF m 183 #[.val (.int x0), .val (.int x1), .val (.int x2), .val (.int x3), .val (.int x4), .val (.int n), .val (.ref b1), .val (.int t), .val (.ref b302i7), .val (.int (own_phl t n g)), .val (.int (0 : Int32))] [(.int t), (.int x2), (.int x1)]))
            obtain ⟨T606i7, X606i7, e606i7, st606i7⟩ := own_callP X405i7 hx hZ e405i7 (y := (⟨"com/example/binlogue/binlogue/binlog/FormatDescriptionEventPostHeaderLengthPinLaw", "unsignedByte", "(III)I"⟩ : MethodName)) hown (hw _ (List.mem_of_getElem? (i := 33) rfl)) (hw _ (List.mem_of_getElem? (i := 34) rfl)) (hw _ (List.mem_of_getElem? (i := 35) rfl)) (hw _ (List.mem_of_getElem? (i := 36) rfl)) (by decide) (argsL := [(.int x1), (.int x2), (.int t)]) (rest := []) (own_c5 l Z a0 hw x1 x2 t _) (by decide) 0 (by decide) (by decide) (by decide) (g := (mkF m 183 #[.val (.int x0), .val (.int x1), .val (.int x2), .val (.int x3), .val (.int x4), .val (.int n), .val (.ref b1), .val (.int t), .val (.ref b302i7), .val (.int (own_phl t n g)), .val (.int (0 : Int32))] [(.int t), (.int x2), (.int x1)])) rfl (by rw [hml]; rfl) (lenOf own_pd3 rfl) rfl (by show 2 * 0 + _ ≤ _; exact Nat.le_of_eq rfl) (hb hby at_183)
            refine own_goW st606i7 ?_
            show own_FinW p e below s (own_Q0 n0) room_1.cells room_1.slots (T606i7.setTop (mkF m 186 #[.val (.int x0), .val (.int x1), .val (.int x2), .val (.int x3), .val (.int x4), .val (.int n), .val (.ref b1), .val (.int t), .val (.ref b302i7), .val (.int (own_phl t n g)), .val (.int (0 : Int32))] [(.int (own_f5_0 x1 x2 t))]))
            refine own_goW (fun tgt => XS.istore X606i7.here hx rfl (hb hby at_186) rfl (l' := #[.val (.int x0), .val (.int x1), .val (.int x2), .val (.int x3), .val (.int x4), .val (.int n), .val (.ref b1), .val (.int t), .val (.ref b302i7), .val (.int (own_phl t n g)), .val (.int (own_f5_0 x1 x2 t))]) rfl) ?_
            show own_FinW p e below s (own_Q0 n0) room_1.cells room_1.slots (T606i7.setTop (mkF m 188 #[.val (.int x0), .val (.int x1), .val (.int x2), .val (.int x3), .val (.int x4), .val (.int n), .val (.ref b1), .val (.int t), .val (.ref b302i7), .val (.int (own_phl t n g)), .val (.int (own_f5_0 x1 x2 t))] []))
            refine own_goW (fun tgt => XS.iload X606i7.here hx rfl (hb hby at_188) rfl) ?_
            show own_FinW p e below s (own_Q0 n0) room_1.cells room_1.slots (T606i7.setTop (mkF m 190 #[.val (.int x0), .val (.int x1), .val (.int x2), .val (.int x3), .val (.int x4), .val (.int n), .val (.ref b1), .val (.int t), .val (.ref b302i7), .val (.int (own_phl t n g)), .val (.int (own_f5_0 x1 x2 t))] [(.int (own_phl t n g))]))
            refine own_goW (fun tgt => XS.iload X606i7.here hx rfl (hb hby at_190) rfl) ?_
            show own_FinW p e below s (own_Q0 n0) room_1.cells room_1.slots (T606i7.setTop (mkF m 192 #[.val (.int x0), .val (.int x1), .val (.int x2), .val (.int x3), .val (.int x4), .val (.int n), .val (.ref b1), .val (.int t), .val (.ref b302i7), .val (.int (own_phl t n g)), .val (.int (own_f5_0 x1 x2 t))] [(.int (own_f5_0 x1 x2 t)), (.int (own_phl t n g))]))
            have u1 := own_nltT h169
            have u2 := own_nltT h176
            have o1 : (1 : Int32).toInt = 1 := by decide
            have e1 : (t - (1 : Int32)).toInt = t.toInt - 1 := by
              have a := c_isub t 1
              have r := rng32 (t - (1 : Int32))
              have r1 := rng32 t
              omega
            refine own_goW (fun tgt => XS.icmpNo X606i7.here hx rfl (hb hby at_192) rfl (teq ((if_neg h169).trans ((if_neg h176).trans ((congrArg (fun v => v &&& (255 : Int32)) (hg (t - (1 : Int32)) (own_Tnlt (by omega)) (own_Tlt (by omega)) (by omega))).trans (own_ubeq x1 x2 t (by omega) (by omega)))))).2) ?_
            show own_FinW p e below s (own_Q0 n0) room_1.cells room_1.slots (T606i7.setTop (mkF m 195 #[.val (.int x0), .val (.int x1), .val (.int x2), .val (.int x3), .val (.int x4), .val (.int n), .val (.ref b1), .val (.int t), .val (.ref b302i7), .val (.int (own_phl t n g)), .val (.int (own_f5_0 x1 x2 t))] []))
            refine own_goW (fun tgt => XS.iconst X606i7.here hx rfl (hb hby at_195)) ?_
            show own_FinW p e below s (own_Q0 n0) room_1.cells room_1.slots (T606i7.setTop (mkF m 196 #[.val (.int x0), .val (.int x1), .val (.int x2), .val (.int x3), .val (.int x4), .val (.int n), .val (.ref b1), .val (.int t), .val (.ref b302i7), .val (.int (own_phl t n g)), .val (.int (own_f5_0 x1 x2 t))] [(.int (1 : Int32))]))
            refine own_goW (fun tgt => XS.goto X606i7.here hx rfl (pc0 := 196) (pc' := 200) rfl (hb hby at_196) (by decide) (by decide)) ?_
            show own_FinW p e below s (own_Q0 n0) room_1.cells room_1.slots (T606i7.setTop (mkF m 200 #[.val (.int x0), .val (.int x1), .val (.int x2), .val (.int x3), .val (.int x4), .val (.int n), .val (.ref b1), .val (.int t), .val (.ref b302i7), .val (.int (own_phl t n g)), .val (.int (own_f5_0 x1 x2 t))] [(.int (1 : Int32))]))
            exact own_retW X606i7 hS (by rw [e606i7]; exact hk2) hlk hx (t := .boolean) hret rfl (Or.inl ⟨rfl, by simp, _, rfl⟩) (hb hby at_200) ⟨rfl, N404i7⟩ (by decide) (by decide)
    by_cases h116 : (x4 &&& (1 : Int32)) = (0 : Int32)
    · refine own_goW (fun tgt => XS.ifYes Y.here hx rfl (pc0 := 116) (pc' := 123) rfl (hb hby at_116) rfl ((if0 _ _).trans (teq h116).1) (by decide) (by decide)) ?_
      show own_FinW p e below s (own_Q0 n0) room_1.cells room_1.slots (U.setTop (mkF m 123 #[.val (.int x0), .val (.int x1), .val (.int x2), .val (.int x3), .val (.int x4), .val (.int n), .val (.ref b1), .unset, .unset, .unset, .unset] []))
      refine own_goW (fun tgt => XS.iloadN Y.here hx rfl (hb hby at_123) rfl) ?_
      show own_FinW p e below s (own_Q0 n0) room_1.cells room_1.slots (U.setTop (mkF m 124 #[.val (.int x0), .val (.int x1), .val (.int x2), .val (.int x3), .val (.int x4), .val (.int n), .val (.ref b1), .unset, .unset, .unset, .unset] [(.int x3)]))
      refine own_goW (fun tgt => XS.bipush Y.here hx rfl (hb hby at_124)) ?_
      show own_FinW p e below s (own_Q0 n0) room_1.cells room_1.slots (U.setTop (mkF m 126 #[.val (.int x0), .val (.int x1), .val (.int x2), .val (.int x3), .val (.int x4), .val (.int n), .val (.ref b1), .unset, .unset, .unset, .unset] [(.int (10 : Int32)), (.int x3)]))
      refine own_goW (fun tgt => Jvm.RoadKit.iremM Y hx rfl (hb hby at_126) rfl (by decide)) ?_
      show own_FinW p e below s (own_Q0 n0) room_1.cells room_1.slots (U.setTop (mkF m 127 #[.val (.int x0), .val (.int x1), .val (.int x2), .val (.int x3), .val (.int x4), .val (.int n), .val (.ref b1), .unset, .unset, .unset, .unset] [(.int (x3 % (10 : Int32)))]))
      refine own_goW (fun tgt => XS.istore Y.here hx rfl (hb hby at_127) rfl (l' := #[.val (.int x0), .val (.int x1), .val (.int x2), .val (.int x3), .val (.int x4), .val (.int n), .val (.ref b1), .val (.int (x3 % (10 : Int32))), .unset, .unset, .unset]) rfl) ?_
      show own_FinW p e below s (own_Q0 n0) room_1.cells room_1.slots (U.setTop (mkF m 129 #[.val (.int x0), .val (.int x1), .val (.int x2), .val (.int x3), .val (.int x4), .val (.int n), .val (.ref b1), .val (.int (x3 % (10 : Int32))), .unset, .unset, .unset] []))
      exact Jt _
    · refine own_goW (fun tgt => XS.ifNo Y.here hx rfl (hb hby at_116) rfl ((if0 _ _).trans (feq h116).1)) ?_
      show own_FinW p e below s (own_Q0 n0) room_1.cells room_1.slots (U.setTop (mkF m 119 #[.val (.int x0), .val (.int x1), .val (.int x2), .val (.int x3), .val (.int x4), .val (.int n), .val (.ref b1), .unset, .unset, .unset, .unset] []))
      refine own_goW (fun tgt => XS.iloadN Y.here hx rfl (hb hby at_119) rfl) ?_
      show own_FinW p e below s (own_Q0 n0) room_1.cells room_1.slots (U.setTop (mkF m 120 #[.val (.int x0), .val (.int x1), .val (.int x2), .val (.int x3), .val (.int x4), .val (.int n), .val (.ref b1), .unset, .unset, .unset, .unset] [(.int x3)]))
      refine own_goW (fun tgt => XS.goto Y.here hx rfl (pc0 := 120) (pc' := 127) rfl (hb hby at_120) (by decide) (by decide)) ?_
      show own_FinW p e below s (own_Q0 n0) room_1.cells room_1.slots (U.setTop (mkF m 127 #[.val (.int x0), .val (.int x1), .val (.int x2), .val (.int x3), .val (.int x4), .val (.int n), .val (.ref b1), .unset, .unset, .unset, .unset] [(.int x3)]))
      refine own_goW (fun tgt => XS.istore Y.here hx rfl (hb hby at_127) rfl (l' := #[.val (.int x0), .val (.int x1), .val (.int x2), .val (.int x3), .val (.int x4), .val (.int n), .val (.ref b1), .val (.int x3), .unset, .unset, .unset]) rfl) ?_
      show own_FinW p e below s (own_Q0 n0) room_1.cells room_1.slots (U.setTop (mkF m 129 #[.val (.int x0), .val (.int x1), .val (.int x2), .val (.int x3), .val (.int x4), .val (.int n), .val (.ref b1), .val (.int x3), .unset, .unset, .unset] []))
      exact Jt _
  have J6 : ∀ (U : State) (L : List Loc) (g : Int32 → Int32), Stand p l e room_1 s m args below meth c U L 1 7 → Fr n0 L → Keep h0 U.heap [] → own_A Z U.heap b1 .byte n g → (∀ j : Int32, ¬ j < 0 → j < n → j.toInt < 6 → g j = own_B x1 x2 j) → own_FinW p e below s (own_Q0 n0) room_1.cells room_1.slots (U.setTop (mkF m 95 #[.val (.int x0), .val (.int x1), .val (.int x2), .val (.int x3), .val (.int x4), .val (.int n), .val (.ref b1), .unset, .unset, .unset, .unset] [])) := by
    intro U L g Y N K A hg
    show own_FinW p e below s (own_Q0 n0) room_1.cells room_1.slots (U.setTop (mkF m 95 #[.val (.int x0), .val (.int x1), .val (.int x2), .val (.int x3), .val (.int x4), .val (.int n), .val (.ref b1), .unset, .unset, .unset, .unset] []))
    refine own_goW (fun tgt => XS.iload Y.here hx rfl (hb hby at_95) rfl) ?_
    show own_FinW p e below s (own_Q0 n0) room_1.cells room_1.slots (U.setTop (mkF m 97 #[.val (.int x0), .val (.int x1), .val (.int x2), .val (.int x3), .val (.int x4), .val (.int n), .val (.ref b1), .unset, .unset, .unset, .unset] [(.int n)]))
    refine own_goW (fun tgt => XS.bipush Y.here hx rfl (hb hby at_97)) ?_
    show own_FinW p e below s (own_Q0 n0) room_1.cells room_1.slots (U.setTop (mkF m 99 #[.val (.int x0), .val (.int x1), .val (.int x2), .val (.int x3), .val (.int x4), .val (.int n), .val (.ref b1), .unset, .unset, .unset, .unset] [(.int (6 : Int32)), (.int n)]))
    by_cases hbr : (6 : Int32) < n
    · refine own_goW (fun tgt => XS.icmpNo Y.here hx rfl (hb hby at_99) rfl (tlt hbr).2.2.2) ?_
      show own_FinW p e below s (own_Q0 n0) room_1.cells room_1.slots (U.setTop (mkF m 102 #[.val (.int x0), .val (.int x1), .val (.int x2), .val (.int x3), .val (.int x4), .val (.int n), .val (.ref b1), .unset, .unset, .unset, .unset] []))
      refine own_goW (fun tgt => XS.aload Y.here hx rfl (hb hby at_102) rfl rfl) ?_
      show own_FinW p e below s (own_Q0 n0) room_1.cells room_1.slots (U.setTop (mkF m 104 #[.val (.int x0), .val (.int x1), .val (.int x2), .val (.int x3), .val (.int x4), .val (.int n), .val (.ref b1), .unset, .unset, .unset, .unset] [(.ref b1)]))
      refine own_goW (fun tgt => XS.bipush Y.here hx rfl (hb hby at_104)) ?_
      show own_FinW p e below s (own_Q0 n0) room_1.cells room_1.slots (U.setTop (mkF m 106 #[.val (.int x0), .val (.int x1), .val (.int x2), .val (.int x3), .val (.int x4), .val (.int n), .val (.ref b1), .unset, .unset, .unset, .unset] [(.int (6 : Int32)), (.ref b1)]))
      refine own_goW (fun tgt => XS.iloadN Y.here hx rfl (hb hby at_106) rfl) ?_
      show own_FinW p e below s (own_Q0 n0) room_1.cells room_1.slots (U.setTop (mkF m 107 #[.val (.int x0), .val (.int x1), .val (.int x2), .val (.int x3), .val (.int x4), .val (.int n), .val (.ref b1), .unset, .unset, .unset, .unset] [(.int x2), (.int (6 : Int32)), (.ref b1)]))
      refine own_goW (fun tgt => XS.bipush Y.here hx rfl (hb hby at_107)) ?_
      show own_FinW p e below s (own_Q0 n0) room_1.cells room_1.slots (U.setTop (mkF m 109 #[.val (.int x0), .val (.int x1), .val (.int x2), .val (.int x3), .val (.int x4), .val (.int n), .val (.ref b1), .unset, .unset, .unset, .unset] [(.int (16 : Int32)), (.int x2), (.int (6 : Int32)), (.ref b1)]))
      refine own_goW (fun tgt => XS.ishr Y.here hx rfl (hb hby at_109) rfl) ?_
      show own_FinW p e below s (own_Q0 n0) room_1.cells room_1.slots (U.setTop (mkF m 110 #[.val (.int x0), .val (.int x1), .val (.int x2), .val (.int x3), .val (.int x4), .val (.int n), .val (.ref b1), .unset, .unset, .unset, .unset] [(.int (x2 >>> ((16 : Int32) &&& 31))), (.int (6 : Int32)), (.ref b1)]))
      refine own_goW (fun tgt => XS.i2b Y.here hx rfl (hb hby at_110) rfl) ?_
      show own_FinW p e below s (own_Q0 n0) room_1.cells room_1.slots (U.setTop (mkF m 111 #[.val (.int x0), .val (.int x1), .val (.int x2), .val (.int x3), .val (.int x4), .val (.int n), .val (.ref b1), .unset, .unset, .unset, .unset] [(.int ((x2 >>> ((16 : Int32) &&& 31)).toInt8.toInt32)), (.int (6 : Int32)), (.ref b1)]))
      obtain ⟨T302i6, X302i6, W302i6, A302i6, st302i6⟩ := own_stB Y hx hZ rfl A (by decide) hbr (g := (mkF m 111 #[.val (.int x0), .val (.int x1), .val (.int x2), .val (.int x3), .val (.int x4), .val (.int n), .val (.ref b1), .unset, .unset, .unset, .unset] [(.int ((x2 >>> ((16 : Int32) &&& 31)).toInt8.toInt32)), (.int (6 : Int32)), (.ref b1)])) rfl rfl (hb hby at_111)
      have N302i6 := Fr.snoc X302i6 N G_b1
      have KK302i6 := K.wr W302i6 (Or.inr sz_b1)
      refine own_goW st302i6 ?_
      show own_FinW p e below s (own_Q0 n0) room_1.cells room_1.slots (T302i6.setTop (mkF m 112 #[.val (.int x0), .val (.int x1), .val (.int x2), .val (.int x3), .val (.int x4), .val (.int n), .val (.ref b1), .unset, .unset, .unset, .unset] []))
      exact J7 _ _ _ X302i6 N302i6 KK302i6 A302i6 (fun j h1 h2 h3 => by
        by_cases q : j = (6 : Int32)
        · show (if j = (6 : Int32) then _ else _) = _
          rw [if_pos q, q, own_B6]; exact own_bb _
        · show (if j = (6 : Int32) then _ else _) = _
          rw [if_neg q]; exact hg j h1 h2 (by have := own_neT q; have k : (6 : Int32).toInt = 6 := (by decide); omega))
    · refine own_goW (fun tgt => XS.icmpYes Y.here hx rfl (pc0 := 99) (pc' := 112) rfl (hb hby at_99) rfl (flt hbr).2.2.2 (by decide) (by decide)) ?_
      show own_FinW p e below s (own_Q0 n0) room_1.cells room_1.slots (U.setTop (mkF m 112 #[.val (.int x0), .val (.int x1), .val (.int x2), .val (.int x3), .val (.int x4), .val (.int n), .val (.ref b1), .unset, .unset, .unset, .unset] []))
      exact J7 _ _ _ Y N K A (fun j h1 h2 h3 => hg j h1 h2 (by have := own_ltT h2; have := own_nltT hbr; have k : (6 : Int32).toInt = 6 := (by decide); omega))
  have J5 : ∀ (U : State) (L : List Loc) (g : Int32 → Int32), Stand p l e room_1 s m args below meth c U L 1 7 → Fr n0 L → Keep h0 U.heap [] → own_A Z U.heap b1 .byte n g → (∀ j : Int32, ¬ j < 0 → j < n → j.toInt < 5 → g j = own_B x1 x2 j) → own_FinW p e below s (own_Q0 n0) room_1.cells room_1.slots (U.setTop (mkF m 80 #[.val (.int x0), .val (.int x1), .val (.int x2), .val (.int x3), .val (.int x4), .val (.int n), .val (.ref b1), .unset, .unset, .unset, .unset] [])) := by
    intro U L g Y N K A hg
    show own_FinW p e below s (own_Q0 n0) room_1.cells room_1.slots (U.setTop (mkF m 80 #[.val (.int x0), .val (.int x1), .val (.int x2), .val (.int x3), .val (.int x4), .val (.int n), .val (.ref b1), .unset, .unset, .unset, .unset] []))
    refine own_goW (fun tgt => XS.iload Y.here hx rfl (hb hby at_80) rfl) ?_
    show own_FinW p e below s (own_Q0 n0) room_1.cells room_1.slots (U.setTop (mkF m 82 #[.val (.int x0), .val (.int x1), .val (.int x2), .val (.int x3), .val (.int x4), .val (.int n), .val (.ref b1), .unset, .unset, .unset, .unset] [(.int n)]))
    refine own_goW (fun tgt => XS.iconst Y.here hx rfl (hb hby at_82)) ?_
    show own_FinW p e below s (own_Q0 n0) room_1.cells room_1.slots (U.setTop (mkF m 83 #[.val (.int x0), .val (.int x1), .val (.int x2), .val (.int x3), .val (.int x4), .val (.int n), .val (.ref b1), .unset, .unset, .unset, .unset] [(.int (5 : Int32)), (.int n)]))
    by_cases hbr : (5 : Int32) < n
    · refine own_goW (fun tgt => XS.icmpNo Y.here hx rfl (hb hby at_83) rfl (tlt hbr).2.2.2) ?_
      show own_FinW p e below s (own_Q0 n0) room_1.cells room_1.slots (U.setTop (mkF m 86 #[.val (.int x0), .val (.int x1), .val (.int x2), .val (.int x3), .val (.int x4), .val (.int n), .val (.ref b1), .unset, .unset, .unset, .unset] []))
      refine own_goW (fun tgt => XS.aload Y.here hx rfl (hb hby at_86) rfl rfl) ?_
      show own_FinW p e below s (own_Q0 n0) room_1.cells room_1.slots (U.setTop (mkF m 88 #[.val (.int x0), .val (.int x1), .val (.int x2), .val (.int x3), .val (.int x4), .val (.int n), .val (.ref b1), .unset, .unset, .unset, .unset] [(.ref b1)]))
      refine own_goW (fun tgt => XS.iconst Y.here hx rfl (hb hby at_88)) ?_
      show own_FinW p e below s (own_Q0 n0) room_1.cells room_1.slots (U.setTop (mkF m 89 #[.val (.int x0), .val (.int x1), .val (.int x2), .val (.int x3), .val (.int x4), .val (.int n), .val (.ref b1), .unset, .unset, .unset, .unset] [(.int (5 : Int32)), (.ref b1)]))
      refine own_goW (fun tgt => XS.iloadN Y.here hx rfl (hb hby at_89) rfl) ?_
      show own_FinW p e below s (own_Q0 n0) room_1.cells room_1.slots (U.setTop (mkF m 90 #[.val (.int x0), .val (.int x1), .val (.int x2), .val (.int x3), .val (.int x4), .val (.int n), .val (.ref b1), .unset, .unset, .unset, .unset] [(.int x2), (.int (5 : Int32)), (.ref b1)]))
      refine own_goW (fun tgt => XS.bipush Y.here hx rfl (hb hby at_90)) ?_
      show own_FinW p e below s (own_Q0 n0) room_1.cells room_1.slots (U.setTop (mkF m 92 #[.val (.int x0), .val (.int x1), .val (.int x2), .val (.int x3), .val (.int x4), .val (.int n), .val (.ref b1), .unset, .unset, .unset, .unset] [(.int (8 : Int32)), (.int x2), (.int (5 : Int32)), (.ref b1)]))
      refine own_goW (fun tgt => XS.ishr Y.here hx rfl (hb hby at_92) rfl) ?_
      show own_FinW p e below s (own_Q0 n0) room_1.cells room_1.slots (U.setTop (mkF m 93 #[.val (.int x0), .val (.int x1), .val (.int x2), .val (.int x3), .val (.int x4), .val (.int n), .val (.ref b1), .unset, .unset, .unset, .unset] [(.int (x2 >>> ((8 : Int32) &&& 31))), (.int (5 : Int32)), (.ref b1)]))
      refine own_goW (fun tgt => XS.i2b Y.here hx rfl (hb hby at_93) rfl) ?_
      show own_FinW p e below s (own_Q0 n0) room_1.cells room_1.slots (U.setTop (mkF m 94 #[.val (.int x0), .val (.int x1), .val (.int x2), .val (.int x3), .val (.int x4), .val (.int n), .val (.ref b1), .unset, .unset, .unset, .unset] [(.int ((x2 >>> ((8 : Int32) &&& 31)).toInt8.toInt32)), (.int (5 : Int32)), (.ref b1)]))
      obtain ⟨T302i5, X302i5, W302i5, A302i5, st302i5⟩ := own_stB Y hx hZ rfl A (by decide) hbr (g := (mkF m 94 #[.val (.int x0), .val (.int x1), .val (.int x2), .val (.int x3), .val (.int x4), .val (.int n), .val (.ref b1), .unset, .unset, .unset, .unset] [(.int ((x2 >>> ((8 : Int32) &&& 31)).toInt8.toInt32)), (.int (5 : Int32)), (.ref b1)])) rfl rfl (hb hby at_94)
      have N302i5 := Fr.snoc X302i5 N G_b1
      have KK302i5 := K.wr W302i5 (Or.inr sz_b1)
      refine own_goW st302i5 ?_
      show own_FinW p e below s (own_Q0 n0) room_1.cells room_1.slots (T302i5.setTop (mkF m 95 #[.val (.int x0), .val (.int x1), .val (.int x2), .val (.int x3), .val (.int x4), .val (.int n), .val (.ref b1), .unset, .unset, .unset, .unset] []))
      exact J6 _ _ _ X302i5 N302i5 KK302i5 A302i5 (fun j h1 h2 h3 => by
        by_cases q : j = (5 : Int32)
        · show (if j = (5 : Int32) then _ else _) = _
          rw [if_pos q, q, own_B5]; exact own_bb _
        · show (if j = (5 : Int32) then _ else _) = _
          rw [if_neg q]; exact hg j h1 h2 (by have := own_neT q; have k : (5 : Int32).toInt = 5 := (by decide); omega))
    · refine own_goW (fun tgt => XS.icmpYes Y.here hx rfl (pc0 := 83) (pc' := 95) rfl (hb hby at_83) rfl (flt hbr).2.2.2 (by decide) (by decide)) ?_
      show own_FinW p e below s (own_Q0 n0) room_1.cells room_1.slots (U.setTop (mkF m 95 #[.val (.int x0), .val (.int x1), .val (.int x2), .val (.int x3), .val (.int x4), .val (.int n), .val (.ref b1), .unset, .unset, .unset, .unset] []))
      exact J6 _ _ _ Y N K A (fun j h1 h2 h3 => hg j h1 h2 (by have := own_ltT h2; have := own_nltT hbr; have k : (5 : Int32).toInt = 5 := (by decide); omega))
  have J4 : ∀ (U : State) (L : List Loc) (g : Int32 → Int32), Stand p l e room_1 s m args below meth c U L 1 7 → Fr n0 L → Keep h0 U.heap [] → own_A Z U.heap b1 .byte n g → (∀ j : Int32, ¬ j < 0 → j < n → j.toInt < 4 → g j = own_B x1 x2 j) → own_FinW p e below s (own_Q0 n0) room_1.cells room_1.slots (U.setTop (mkF m 68 #[.val (.int x0), .val (.int x1), .val (.int x2), .val (.int x3), .val (.int x4), .val (.int n), .val (.ref b1), .unset, .unset, .unset, .unset] [])) := by
    intro U L g Y N K A hg
    show own_FinW p e below s (own_Q0 n0) room_1.cells room_1.slots (U.setTop (mkF m 68 #[.val (.int x0), .val (.int x1), .val (.int x2), .val (.int x3), .val (.int x4), .val (.int n), .val (.ref b1), .unset, .unset, .unset, .unset] []))
    refine own_goW (fun tgt => XS.iload Y.here hx rfl (hb hby at_68) rfl) ?_
    show own_FinW p e below s (own_Q0 n0) room_1.cells room_1.slots (U.setTop (mkF m 70 #[.val (.int x0), .val (.int x1), .val (.int x2), .val (.int x3), .val (.int x4), .val (.int n), .val (.ref b1), .unset, .unset, .unset, .unset] [(.int n)]))
    refine own_goW (fun tgt => XS.iconst Y.here hx rfl (hb hby at_70)) ?_
    show own_FinW p e below s (own_Q0 n0) room_1.cells room_1.slots (U.setTop (mkF m 71 #[.val (.int x0), .val (.int x1), .val (.int x2), .val (.int x3), .val (.int x4), .val (.int n), .val (.ref b1), .unset, .unset, .unset, .unset] [(.int (4 : Int32)), (.int n)]))
    by_cases hbr : (4 : Int32) < n
    · refine own_goW (fun tgt => XS.icmpNo Y.here hx rfl (hb hby at_71) rfl (tlt hbr).2.2.2) ?_
      show own_FinW p e below s (own_Q0 n0) room_1.cells room_1.slots (U.setTop (mkF m 74 #[.val (.int x0), .val (.int x1), .val (.int x2), .val (.int x3), .val (.int x4), .val (.int n), .val (.ref b1), .unset, .unset, .unset, .unset] []))
      refine own_goW (fun tgt => XS.aload Y.here hx rfl (hb hby at_74) rfl rfl) ?_
      show own_FinW p e below s (own_Q0 n0) room_1.cells room_1.slots (U.setTop (mkF m 76 #[.val (.int x0), .val (.int x1), .val (.int x2), .val (.int x3), .val (.int x4), .val (.int n), .val (.ref b1), .unset, .unset, .unset, .unset] [(.ref b1)]))
      refine own_goW (fun tgt => XS.iconst Y.here hx rfl (hb hby at_76)) ?_
      show own_FinW p e below s (own_Q0 n0) room_1.cells room_1.slots (U.setTop (mkF m 77 #[.val (.int x0), .val (.int x1), .val (.int x2), .val (.int x3), .val (.int x4), .val (.int n), .val (.ref b1), .unset, .unset, .unset, .unset] [(.int (4 : Int32)), (.ref b1)]))
      refine own_goW (fun tgt => XS.iloadN Y.here hx rfl (hb hby at_77) rfl) ?_
      show own_FinW p e below s (own_Q0 n0) room_1.cells room_1.slots (U.setTop (mkF m 78 #[.val (.int x0), .val (.int x1), .val (.int x2), .val (.int x3), .val (.int x4), .val (.int n), .val (.ref b1), .unset, .unset, .unset, .unset] [(.int x2), (.int (4 : Int32)), (.ref b1)]))
      refine own_goW (fun tgt => XS.i2b Y.here hx rfl (hb hby at_78) rfl) ?_
      show own_FinW p e below s (own_Q0 n0) room_1.cells room_1.slots (U.setTop (mkF m 79 #[.val (.int x0), .val (.int x1), .val (.int x2), .val (.int x3), .val (.int x4), .val (.int n), .val (.ref b1), .unset, .unset, .unset, .unset] [(.int (x2.toInt8.toInt32)), (.int (4 : Int32)), (.ref b1)]))
      obtain ⟨T302i4, X302i4, W302i4, A302i4, st302i4⟩ := own_stB Y hx hZ rfl A (by decide) hbr (g := (mkF m 79 #[.val (.int x0), .val (.int x1), .val (.int x2), .val (.int x3), .val (.int x4), .val (.int n), .val (.ref b1), .unset, .unset, .unset, .unset] [(.int (x2.toInt8.toInt32)), (.int (4 : Int32)), (.ref b1)])) rfl rfl (hb hby at_79)
      have N302i4 := Fr.snoc X302i4 N G_b1
      have KK302i4 := K.wr W302i4 (Or.inr sz_b1)
      refine own_goW st302i4 ?_
      show own_FinW p e below s (own_Q0 n0) room_1.cells room_1.slots (T302i4.setTop (mkF m 80 #[.val (.int x0), .val (.int x1), .val (.int x2), .val (.int x3), .val (.int x4), .val (.int n), .val (.ref b1), .unset, .unset, .unset, .unset] []))
      exact J5 _ _ _ X302i4 N302i4 KK302i4 A302i4 (fun j h1 h2 h3 => by
        by_cases q : j = (4 : Int32)
        · show (if j = (4 : Int32) then _ else _) = _
          rw [if_pos q, q, own_B4]; exact own_bb _
        · show (if j = (4 : Int32) then _ else _) = _
          rw [if_neg q]; exact hg j h1 h2 (by have := own_neT q; have k : (4 : Int32).toInt = 4 := (by decide); omega))
    · refine own_goW (fun tgt => XS.icmpYes Y.here hx rfl (pc0 := 71) (pc' := 80) rfl (hb hby at_71) rfl (flt hbr).2.2.2 (by decide) (by decide)) ?_
      show own_FinW p e below s (own_Q0 n0) room_1.cells room_1.slots (U.setTop (mkF m 80 #[.val (.int x0), .val (.int x1), .val (.int x2), .val (.int x3), .val (.int x4), .val (.int n), .val (.ref b1), .unset, .unset, .unset, .unset] []))
      exact J5 _ _ _ Y N K A (fun j h1 h2 h3 => hg j h1 h2 (by have := own_ltT h2; have := own_nltT hbr; have k : (4 : Int32).toInt = 4 := (by decide); omega))
  have J3 : ∀ (U : State) (L : List Loc) (g : Int32 → Int32), Stand p l e room_1 s m args below meth c U L 1 7 → Fr n0 L → Keep h0 U.heap [] → own_A Z U.heap b1 .byte n g → (∀ j : Int32, ¬ j < 0 → j < n → j.toInt < 3 → g j = own_B x1 x2 j) → own_FinW p e below s (own_Q0 n0) room_1.cells room_1.slots (U.setTop (mkF m 53 #[.val (.int x0), .val (.int x1), .val (.int x2), .val (.int x3), .val (.int x4), .val (.int n), .val (.ref b1), .unset, .unset, .unset, .unset] [])) := by
    intro U L g Y N K A hg
    show own_FinW p e below s (own_Q0 n0) room_1.cells room_1.slots (U.setTop (mkF m 53 #[.val (.int x0), .val (.int x1), .val (.int x2), .val (.int x3), .val (.int x4), .val (.int n), .val (.ref b1), .unset, .unset, .unset, .unset] []))
    refine own_goW (fun tgt => XS.iload Y.here hx rfl (hb hby at_53) rfl) ?_
    show own_FinW p e below s (own_Q0 n0) room_1.cells room_1.slots (U.setTop (mkF m 55 #[.val (.int x0), .val (.int x1), .val (.int x2), .val (.int x3), .val (.int x4), .val (.int n), .val (.ref b1), .unset, .unset, .unset, .unset] [(.int n)]))
    refine own_goW (fun tgt => XS.iconst Y.here hx rfl (hb hby at_55)) ?_
    show own_FinW p e below s (own_Q0 n0) room_1.cells room_1.slots (U.setTop (mkF m 56 #[.val (.int x0), .val (.int x1), .val (.int x2), .val (.int x3), .val (.int x4), .val (.int n), .val (.ref b1), .unset, .unset, .unset, .unset] [(.int (3 : Int32)), (.int n)]))
    by_cases hbr : (3 : Int32) < n
    · refine own_goW (fun tgt => XS.icmpNo Y.here hx rfl (hb hby at_56) rfl (tlt hbr).2.2.2) ?_
      show own_FinW p e below s (own_Q0 n0) room_1.cells room_1.slots (U.setTop (mkF m 59 #[.val (.int x0), .val (.int x1), .val (.int x2), .val (.int x3), .val (.int x4), .val (.int n), .val (.ref b1), .unset, .unset, .unset, .unset] []))
      refine own_goW (fun tgt => XS.aload Y.here hx rfl (hb hby at_59) rfl rfl) ?_
      show own_FinW p e below s (own_Q0 n0) room_1.cells room_1.slots (U.setTop (mkF m 61 #[.val (.int x0), .val (.int x1), .val (.int x2), .val (.int x3), .val (.int x4), .val (.int n), .val (.ref b1), .unset, .unset, .unset, .unset] [(.ref b1)]))
      refine own_goW (fun tgt => XS.iconst Y.here hx rfl (hb hby at_61)) ?_
      show own_FinW p e below s (own_Q0 n0) room_1.cells room_1.slots (U.setTop (mkF m 62 #[.val (.int x0), .val (.int x1), .val (.int x2), .val (.int x3), .val (.int x4), .val (.int n), .val (.ref b1), .unset, .unset, .unset, .unset] [(.int (3 : Int32)), (.ref b1)]))
      refine own_goW (fun tgt => XS.iloadN Y.here hx rfl (hb hby at_62) rfl) ?_
      show own_FinW p e below s (own_Q0 n0) room_1.cells room_1.slots (U.setTop (mkF m 63 #[.val (.int x0), .val (.int x1), .val (.int x2), .val (.int x3), .val (.int x4), .val (.int n), .val (.ref b1), .unset, .unset, .unset, .unset] [(.int x1), (.int (3 : Int32)), (.ref b1)]))
      refine own_goW (fun tgt => XS.bipush Y.here hx rfl (hb hby at_63)) ?_
      show own_FinW p e below s (own_Q0 n0) room_1.cells room_1.slots (U.setTop (mkF m 65 #[.val (.int x0), .val (.int x1), .val (.int x2), .val (.int x3), .val (.int x4), .val (.int n), .val (.ref b1), .unset, .unset, .unset, .unset] [(.int (24 : Int32)), (.int x1), (.int (3 : Int32)), (.ref b1)]))
      refine own_goW (fun tgt => XS.ishr Y.here hx rfl (hb hby at_65) rfl) ?_
      show own_FinW p e below s (own_Q0 n0) room_1.cells room_1.slots (U.setTop (mkF m 66 #[.val (.int x0), .val (.int x1), .val (.int x2), .val (.int x3), .val (.int x4), .val (.int n), .val (.ref b1), .unset, .unset, .unset, .unset] [(.int (x1 >>> ((24 : Int32) &&& 31))), (.int (3 : Int32)), (.ref b1)]))
      refine own_goW (fun tgt => XS.i2b Y.here hx rfl (hb hby at_66) rfl) ?_
      show own_FinW p e below s (own_Q0 n0) room_1.cells room_1.slots (U.setTop (mkF m 67 #[.val (.int x0), .val (.int x1), .val (.int x2), .val (.int x3), .val (.int x4), .val (.int n), .val (.ref b1), .unset, .unset, .unset, .unset] [(.int ((x1 >>> ((24 : Int32) &&& 31)).toInt8.toInt32)), (.int (3 : Int32)), (.ref b1)]))
      obtain ⟨T302i3, X302i3, W302i3, A302i3, st302i3⟩ := own_stB Y hx hZ rfl A (by decide) hbr (g := (mkF m 67 #[.val (.int x0), .val (.int x1), .val (.int x2), .val (.int x3), .val (.int x4), .val (.int n), .val (.ref b1), .unset, .unset, .unset, .unset] [(.int ((x1 >>> ((24 : Int32) &&& 31)).toInt8.toInt32)), (.int (3 : Int32)), (.ref b1)])) rfl rfl (hb hby at_67)
      have N302i3 := Fr.snoc X302i3 N G_b1
      have KK302i3 := K.wr W302i3 (Or.inr sz_b1)
      refine own_goW st302i3 ?_
      show own_FinW p e below s (own_Q0 n0) room_1.cells room_1.slots (T302i3.setTop (mkF m 68 #[.val (.int x0), .val (.int x1), .val (.int x2), .val (.int x3), .val (.int x4), .val (.int n), .val (.ref b1), .unset, .unset, .unset, .unset] []))
      exact J4 _ _ _ X302i3 N302i3 KK302i3 A302i3 (fun j h1 h2 h3 => by
        by_cases q : j = (3 : Int32)
        · show (if j = (3 : Int32) then _ else _) = _
          rw [if_pos q, q, own_B3]; exact own_bb _
        · show (if j = (3 : Int32) then _ else _) = _
          rw [if_neg q]; exact hg j h1 h2 (by have := own_neT q; have k : (3 : Int32).toInt = 3 := (by decide); omega))
    · refine own_goW (fun tgt => XS.icmpYes Y.here hx rfl (pc0 := 56) (pc' := 68) rfl (hb hby at_56) rfl (flt hbr).2.2.2 (by decide) (by decide)) ?_
      show own_FinW p e below s (own_Q0 n0) room_1.cells room_1.slots (U.setTop (mkF m 68 #[.val (.int x0), .val (.int x1), .val (.int x2), .val (.int x3), .val (.int x4), .val (.int n), .val (.ref b1), .unset, .unset, .unset, .unset] []))
      exact J4 _ _ _ Y N K A (fun j h1 h2 h3 => hg j h1 h2 (by have := own_ltT h2; have := own_nltT hbr; have k : (3 : Int32).toInt = 3 := (by decide); omega))
  have J2 : ∀ (U : State) (L : List Loc) (g : Int32 → Int32), Stand p l e room_1 s m args below meth c U L 1 7 → Fr n0 L → Keep h0 U.heap [] → own_A Z U.heap b1 .byte n g → (∀ j : Int32, ¬ j < 0 → j < n → j.toInt < 2 → g j = own_B x1 x2 j) → own_FinW p e below s (own_Q0 n0) room_1.cells room_1.slots (U.setTop (mkF m 38 #[.val (.int x0), .val (.int x1), .val (.int x2), .val (.int x3), .val (.int x4), .val (.int n), .val (.ref b1), .unset, .unset, .unset, .unset] [])) := by
    intro U L g Y N K A hg
    show own_FinW p e below s (own_Q0 n0) room_1.cells room_1.slots (U.setTop (mkF m 38 #[.val (.int x0), .val (.int x1), .val (.int x2), .val (.int x3), .val (.int x4), .val (.int n), .val (.ref b1), .unset, .unset, .unset, .unset] []))
    refine own_goW (fun tgt => XS.iload Y.here hx rfl (hb hby at_38) rfl) ?_
    show own_FinW p e below s (own_Q0 n0) room_1.cells room_1.slots (U.setTop (mkF m 40 #[.val (.int x0), .val (.int x1), .val (.int x2), .val (.int x3), .val (.int x4), .val (.int n), .val (.ref b1), .unset, .unset, .unset, .unset] [(.int n)]))
    refine own_goW (fun tgt => XS.iconst Y.here hx rfl (hb hby at_40)) ?_
    show own_FinW p e below s (own_Q0 n0) room_1.cells room_1.slots (U.setTop (mkF m 41 #[.val (.int x0), .val (.int x1), .val (.int x2), .val (.int x3), .val (.int x4), .val (.int n), .val (.ref b1), .unset, .unset, .unset, .unset] [(.int (2 : Int32)), (.int n)]))
    by_cases hbr : (2 : Int32) < n
    · refine own_goW (fun tgt => XS.icmpNo Y.here hx rfl (hb hby at_41) rfl (tlt hbr).2.2.2) ?_
      show own_FinW p e below s (own_Q0 n0) room_1.cells room_1.slots (U.setTop (mkF m 44 #[.val (.int x0), .val (.int x1), .val (.int x2), .val (.int x3), .val (.int x4), .val (.int n), .val (.ref b1), .unset, .unset, .unset, .unset] []))
      refine own_goW (fun tgt => XS.aload Y.here hx rfl (hb hby at_44) rfl rfl) ?_
      show own_FinW p e below s (own_Q0 n0) room_1.cells room_1.slots (U.setTop (mkF m 46 #[.val (.int x0), .val (.int x1), .val (.int x2), .val (.int x3), .val (.int x4), .val (.int n), .val (.ref b1), .unset, .unset, .unset, .unset] [(.ref b1)]))
      refine own_goW (fun tgt => XS.iconst Y.here hx rfl (hb hby at_46)) ?_
      show own_FinW p e below s (own_Q0 n0) room_1.cells room_1.slots (U.setTop (mkF m 47 #[.val (.int x0), .val (.int x1), .val (.int x2), .val (.int x3), .val (.int x4), .val (.int n), .val (.ref b1), .unset, .unset, .unset, .unset] [(.int (2 : Int32)), (.ref b1)]))
      refine own_goW (fun tgt => XS.iloadN Y.here hx rfl (hb hby at_47) rfl) ?_
      show own_FinW p e below s (own_Q0 n0) room_1.cells room_1.slots (U.setTop (mkF m 48 #[.val (.int x0), .val (.int x1), .val (.int x2), .val (.int x3), .val (.int x4), .val (.int n), .val (.ref b1), .unset, .unset, .unset, .unset] [(.int x1), (.int (2 : Int32)), (.ref b1)]))
      refine own_goW (fun tgt => XS.bipush Y.here hx rfl (hb hby at_48)) ?_
      show own_FinW p e below s (own_Q0 n0) room_1.cells room_1.slots (U.setTop (mkF m 50 #[.val (.int x0), .val (.int x1), .val (.int x2), .val (.int x3), .val (.int x4), .val (.int n), .val (.ref b1), .unset, .unset, .unset, .unset] [(.int (16 : Int32)), (.int x1), (.int (2 : Int32)), (.ref b1)]))
      refine own_goW (fun tgt => XS.ishr Y.here hx rfl (hb hby at_50) rfl) ?_
      show own_FinW p e below s (own_Q0 n0) room_1.cells room_1.slots (U.setTop (mkF m 51 #[.val (.int x0), .val (.int x1), .val (.int x2), .val (.int x3), .val (.int x4), .val (.int n), .val (.ref b1), .unset, .unset, .unset, .unset] [(.int (x1 >>> ((16 : Int32) &&& 31))), (.int (2 : Int32)), (.ref b1)]))
      refine own_goW (fun tgt => XS.i2b Y.here hx rfl (hb hby at_51) rfl) ?_
      show own_FinW p e below s (own_Q0 n0) room_1.cells room_1.slots (U.setTop (mkF m 52 #[.val (.int x0), .val (.int x1), .val (.int x2), .val (.int x3), .val (.int x4), .val (.int n), .val (.ref b1), .unset, .unset, .unset, .unset] [(.int ((x1 >>> ((16 : Int32) &&& 31)).toInt8.toInt32)), (.int (2 : Int32)), (.ref b1)]))
      obtain ⟨T302i2, X302i2, W302i2, A302i2, st302i2⟩ := own_stB Y hx hZ rfl A (by decide) hbr (g := (mkF m 52 #[.val (.int x0), .val (.int x1), .val (.int x2), .val (.int x3), .val (.int x4), .val (.int n), .val (.ref b1), .unset, .unset, .unset, .unset] [(.int ((x1 >>> ((16 : Int32) &&& 31)).toInt8.toInt32)), (.int (2 : Int32)), (.ref b1)])) rfl rfl (hb hby at_52)
      have N302i2 := Fr.snoc X302i2 N G_b1
      have KK302i2 := K.wr W302i2 (Or.inr sz_b1)
      refine own_goW st302i2 ?_
      show own_FinW p e below s (own_Q0 n0) room_1.cells room_1.slots (T302i2.setTop (mkF m 53 #[.val (.int x0), .val (.int x1), .val (.int x2), .val (.int x3), .val (.int x4), .val (.int n), .val (.ref b1), .unset, .unset, .unset, .unset] []))
      exact J3 _ _ _ X302i2 N302i2 KK302i2 A302i2 (fun j h1 h2 h3 => by
        by_cases q : j = (2 : Int32)
        · show (if j = (2 : Int32) then _ else _) = _
          rw [if_pos q, q, own_B2]; exact own_bb _
        · show (if j = (2 : Int32) then _ else _) = _
          rw [if_neg q]; exact hg j h1 h2 (by have := own_neT q; have k : (2 : Int32).toInt = 2 := (by decide); omega))
    · refine own_goW (fun tgt => XS.icmpYes Y.here hx rfl (pc0 := 41) (pc' := 53) rfl (hb hby at_41) rfl (flt hbr).2.2.2 (by decide) (by decide)) ?_
      show own_FinW p e below s (own_Q0 n0) room_1.cells room_1.slots (U.setTop (mkF m 53 #[.val (.int x0), .val (.int x1), .val (.int x2), .val (.int x3), .val (.int x4), .val (.int n), .val (.ref b1), .unset, .unset, .unset, .unset] []))
      exact J3 _ _ _ Y N K A (fun j h1 h2 h3 => hg j h1 h2 (by have := own_ltT h2; have := own_nltT hbr; have k : (2 : Int32).toInt = 2 := (by decide); omega))
  have J1 : ∀ (U : State) (L : List Loc) (g : Int32 → Int32), Stand p l e room_1 s m args below meth c U L 1 7 → Fr n0 L → Keep h0 U.heap [] → own_A Z U.heap b1 .byte n g → (∀ j : Int32, ¬ j < 0 → j < n → j.toInt < 1 → g j = own_B x1 x2 j) → own_FinW p e below s (own_Q0 n0) room_1.cells room_1.slots (U.setTop (mkF m 23 #[.val (.int x0), .val (.int x1), .val (.int x2), .val (.int x3), .val (.int x4), .val (.int n), .val (.ref b1), .unset, .unset, .unset, .unset] [])) := by
    intro U L g Y N K A hg
    show own_FinW p e below s (own_Q0 n0) room_1.cells room_1.slots (U.setTop (mkF m 23 #[.val (.int x0), .val (.int x1), .val (.int x2), .val (.int x3), .val (.int x4), .val (.int n), .val (.ref b1), .unset, .unset, .unset, .unset] []))
    refine own_goW (fun tgt => XS.iload Y.here hx rfl (hb hby at_23) rfl) ?_
    show own_FinW p e below s (own_Q0 n0) room_1.cells room_1.slots (U.setTop (mkF m 25 #[.val (.int x0), .val (.int x1), .val (.int x2), .val (.int x3), .val (.int x4), .val (.int n), .val (.ref b1), .unset, .unset, .unset, .unset] [(.int n)]))
    refine own_goW (fun tgt => XS.iconst Y.here hx rfl (hb hby at_25)) ?_
    show own_FinW p e below s (own_Q0 n0) room_1.cells room_1.slots (U.setTop (mkF m 26 #[.val (.int x0), .val (.int x1), .val (.int x2), .val (.int x3), .val (.int x4), .val (.int n), .val (.ref b1), .unset, .unset, .unset, .unset] [(.int (1 : Int32)), (.int n)]))
    by_cases hbr : (1 : Int32) < n
    · refine own_goW (fun tgt => XS.icmpNo Y.here hx rfl (hb hby at_26) rfl (tlt hbr).2.2.2) ?_
      show own_FinW p e below s (own_Q0 n0) room_1.cells room_1.slots (U.setTop (mkF m 29 #[.val (.int x0), .val (.int x1), .val (.int x2), .val (.int x3), .val (.int x4), .val (.int n), .val (.ref b1), .unset, .unset, .unset, .unset] []))
      refine own_goW (fun tgt => XS.aload Y.here hx rfl (hb hby at_29) rfl rfl) ?_
      show own_FinW p e below s (own_Q0 n0) room_1.cells room_1.slots (U.setTop (mkF m 31 #[.val (.int x0), .val (.int x1), .val (.int x2), .val (.int x3), .val (.int x4), .val (.int n), .val (.ref b1), .unset, .unset, .unset, .unset] [(.ref b1)]))
      refine own_goW (fun tgt => XS.iconst Y.here hx rfl (hb hby at_31)) ?_
      show own_FinW p e below s (own_Q0 n0) room_1.cells room_1.slots (U.setTop (mkF m 32 #[.val (.int x0), .val (.int x1), .val (.int x2), .val (.int x3), .val (.int x4), .val (.int n), .val (.ref b1), .unset, .unset, .unset, .unset] [(.int (1 : Int32)), (.ref b1)]))
      refine own_goW (fun tgt => XS.iloadN Y.here hx rfl (hb hby at_32) rfl) ?_
      show own_FinW p e below s (own_Q0 n0) room_1.cells room_1.slots (U.setTop (mkF m 33 #[.val (.int x0), .val (.int x1), .val (.int x2), .val (.int x3), .val (.int x4), .val (.int n), .val (.ref b1), .unset, .unset, .unset, .unset] [(.int x1), (.int (1 : Int32)), (.ref b1)]))
      refine own_goW (fun tgt => XS.bipush Y.here hx rfl (hb hby at_33)) ?_
      show own_FinW p e below s (own_Q0 n0) room_1.cells room_1.slots (U.setTop (mkF m 35 #[.val (.int x0), .val (.int x1), .val (.int x2), .val (.int x3), .val (.int x4), .val (.int n), .val (.ref b1), .unset, .unset, .unset, .unset] [(.int (8 : Int32)), (.int x1), (.int (1 : Int32)), (.ref b1)]))
      refine own_goW (fun tgt => XS.ishr Y.here hx rfl (hb hby at_35) rfl) ?_
      show own_FinW p e below s (own_Q0 n0) room_1.cells room_1.slots (U.setTop (mkF m 36 #[.val (.int x0), .val (.int x1), .val (.int x2), .val (.int x3), .val (.int x4), .val (.int n), .val (.ref b1), .unset, .unset, .unset, .unset] [(.int (x1 >>> ((8 : Int32) &&& 31))), (.int (1 : Int32)), (.ref b1)]))
      refine own_goW (fun tgt => XS.i2b Y.here hx rfl (hb hby at_36) rfl) ?_
      show own_FinW p e below s (own_Q0 n0) room_1.cells room_1.slots (U.setTop (mkF m 37 #[.val (.int x0), .val (.int x1), .val (.int x2), .val (.int x3), .val (.int x4), .val (.int n), .val (.ref b1), .unset, .unset, .unset, .unset] [(.int ((x1 >>> ((8 : Int32) &&& 31)).toInt8.toInt32)), (.int (1 : Int32)), (.ref b1)]))
      obtain ⟨T302i1, X302i1, W302i1, A302i1, st302i1⟩ := own_stB Y hx hZ rfl A (by decide) hbr (g := (mkF m 37 #[.val (.int x0), .val (.int x1), .val (.int x2), .val (.int x3), .val (.int x4), .val (.int n), .val (.ref b1), .unset, .unset, .unset, .unset] [(.int ((x1 >>> ((8 : Int32) &&& 31)).toInt8.toInt32)), (.int (1 : Int32)), (.ref b1)])) rfl rfl (hb hby at_37)
      have N302i1 := Fr.snoc X302i1 N G_b1
      have KK302i1 := K.wr W302i1 (Or.inr sz_b1)
      refine own_goW st302i1 ?_
      show own_FinW p e below s (own_Q0 n0) room_1.cells room_1.slots (T302i1.setTop (mkF m 38 #[.val (.int x0), .val (.int x1), .val (.int x2), .val (.int x3), .val (.int x4), .val (.int n), .val (.ref b1), .unset, .unset, .unset, .unset] []))
      exact J2 _ _ _ X302i1 N302i1 KK302i1 A302i1 (fun j h1 h2 h3 => by
        by_cases q : j = (1 : Int32)
        · show (if j = (1 : Int32) then _ else _) = _
          rw [if_pos q, q, own_B1]; exact own_bb _
        · show (if j = (1 : Int32) then _ else _) = _
          rw [if_neg q]; exact hg j h1 h2 (by have := own_neT q; have k : (1 : Int32).toInt = 1 := (by decide); omega))
    · refine own_goW (fun tgt => XS.icmpYes Y.here hx rfl (pc0 := 26) (pc' := 38) rfl (hb hby at_26) rfl (flt hbr).2.2.2 (by decide) (by decide)) ?_
      show own_FinW p e below s (own_Q0 n0) room_1.cells room_1.slots (U.setTop (mkF m 38 #[.val (.int x0), .val (.int x1), .val (.int x2), .val (.int x3), .val (.int x4), .val (.int n), .val (.ref b1), .unset, .unset, .unset, .unset] []))
      exact J2 _ _ _ Y N K A (fun j h1 h2 h3 => hg j h1 h2 (by have := own_ltT h2; have := own_nltT hbr; have k : (1 : Int32).toInt = 1 := (by decide); omega))
  have J0 : ∀ (U : State) (L : List Loc) (g : Int32 → Int32), Stand p l e room_1 s m args below meth c U L 1 7 → Fr n0 L → Keep h0 U.heap [] → own_A Z U.heap b1 .byte n g → (∀ j : Int32, ¬ j < 0 → j < n → j.toInt < 0 → g j = own_B x1 x2 j) → own_FinW p e below s (own_Q0 n0) room_1.cells room_1.slots (U.setTop (mkF m 12 #[.val (.int x0), .val (.int x1), .val (.int x2), .val (.int x3), .val (.int x4), .val (.int n), .val (.ref b1), .unset, .unset, .unset, .unset] [])) := by
    intro U L g Y N K A hg
    show own_FinW p e below s (own_Q0 n0) room_1.cells room_1.slots (U.setTop (mkF m 12 #[.val (.int x0), .val (.int x1), .val (.int x2), .val (.int x3), .val (.int x4), .val (.int n), .val (.ref b1), .unset, .unset, .unset, .unset] []))
    refine own_goW (fun tgt => XS.iload Y.here hx rfl (hb hby at_12) rfl) ?_
    show own_FinW p e below s (own_Q0 n0) room_1.cells room_1.slots (U.setTop (mkF m 14 #[.val (.int x0), .val (.int x1), .val (.int x2), .val (.int x3), .val (.int x4), .val (.int n), .val (.ref b1), .unset, .unset, .unset, .unset] [(.int n)]))
    by_cases hbr : (0 : Int32) < n
    · refine own_goW (fun tgt => XS.ifNo Y.here hx rfl (hb hby at_14) rfl ((if0 _ _).trans (tlt hbr).2.2.2)) ?_
      show own_FinW p e below s (own_Q0 n0) room_1.cells room_1.slots (U.setTop (mkF m 17 #[.val (.int x0), .val (.int x1), .val (.int x2), .val (.int x3), .val (.int x4), .val (.int n), .val (.ref b1), .unset, .unset, .unset, .unset] []))
      refine own_goW (fun tgt => XS.aload Y.here hx rfl (hb hby at_17) rfl rfl) ?_
      show own_FinW p e below s (own_Q0 n0) room_1.cells room_1.slots (U.setTop (mkF m 19 #[.val (.int x0), .val (.int x1), .val (.int x2), .val (.int x3), .val (.int x4), .val (.int n), .val (.ref b1), .unset, .unset, .unset, .unset] [(.ref b1)]))
      refine own_goW (fun tgt => XS.iconst Y.here hx rfl (hb hby at_19)) ?_
      show own_FinW p e below s (own_Q0 n0) room_1.cells room_1.slots (U.setTop (mkF m 20 #[.val (.int x0), .val (.int x1), .val (.int x2), .val (.int x3), .val (.int x4), .val (.int n), .val (.ref b1), .unset, .unset, .unset, .unset] [(.int (0 : Int32)), (.ref b1)]))
      refine own_goW (fun tgt => XS.iloadN Y.here hx rfl (hb hby at_20) rfl) ?_
      show own_FinW p e below s (own_Q0 n0) room_1.cells room_1.slots (U.setTop (mkF m 21 #[.val (.int x0), .val (.int x1), .val (.int x2), .val (.int x3), .val (.int x4), .val (.int n), .val (.ref b1), .unset, .unset, .unset, .unset] [(.int x1), (.int (0 : Int32)), (.ref b1)]))
      refine own_goW (fun tgt => XS.i2b Y.here hx rfl (hb hby at_21) rfl) ?_
      show own_FinW p e below s (own_Q0 n0) room_1.cells room_1.slots (U.setTop (mkF m 22 #[.val (.int x0), .val (.int x1), .val (.int x2), .val (.int x3), .val (.int x4), .val (.int n), .val (.ref b1), .unset, .unset, .unset, .unset] [(.int (x1.toInt8.toInt32)), (.int (0 : Int32)), (.ref b1)]))
      obtain ⟨T302i0, X302i0, W302i0, A302i0, st302i0⟩ := own_stB Y hx hZ rfl A (by decide) hbr (g := (mkF m 22 #[.val (.int x0), .val (.int x1), .val (.int x2), .val (.int x3), .val (.int x4), .val (.int n), .val (.ref b1), .unset, .unset, .unset, .unset] [(.int (x1.toInt8.toInt32)), (.int (0 : Int32)), (.ref b1)])) rfl rfl (hb hby at_22)
      have N302i0 := Fr.snoc X302i0 N G_b1
      have KK302i0 := K.wr W302i0 (Or.inr sz_b1)
      refine own_goW st302i0 ?_
      show own_FinW p e below s (own_Q0 n0) room_1.cells room_1.slots (T302i0.setTop (mkF m 23 #[.val (.int x0), .val (.int x1), .val (.int x2), .val (.int x3), .val (.int x4), .val (.int n), .val (.ref b1), .unset, .unset, .unset, .unset] []))
      exact J1 _ _ _ X302i0 N302i0 KK302i0 A302i0 (fun j h1 h2 h3 => by
        by_cases q : j = (0 : Int32)
        · show (if j = (0 : Int32) then _ else _) = _
          rw [if_pos q, q, own_B0]; exact own_bb _
        · show (if j = (0 : Int32) then _ else _) = _
          rw [if_neg q]; exact hg j h1 h2 (by have := own_neT q; have k : (0 : Int32).toInt = 0 := (by decide); omega))
    · refine own_goW (fun tgt => XS.ifYes Y.here hx rfl (pc0 := 14) (pc' := 23) rfl (hb hby at_14) rfl ((if0 _ _).trans (flt hbr).2.2.2) (by decide) (by decide)) ?_
      show own_FinW p e below s (own_Q0 n0) room_1.cells room_1.slots (U.setTop (mkF m 23 #[.val (.int x0), .val (.int x1), .val (.int x2), .val (.int x3), .val (.int x4), .val (.int n), .val (.ref b1), .unset, .unset, .unset, .unset] []))
      exact J1 _ _ _ Y N K A (fun j h1 h2 h3 => hg j h1 h2 (by have := own_ltT h2; have := own_nltT hbr; have k : (0 : Int32).toInt = 0 := (by decide); omega))
  exact J0 _ _ _ X1 N0 KK1 A1 (fun j h1 h2 h3 => absurd h3 (by have := own_nltT h1; omega))
theorem own_rm0 (l : Launch) (Z : State) (a0 : Array Value) (hw : ∀ d ∈ tables_1, d.before a0 Z = true) (ws : List Jvm.Cond) (x0 : Int32) (x1 : Int32) (x2 : Int32) (x3 : Int32) (x4 : Int32) (h0 : Heap) (n0 : Nat) (Z0 : n0 ≤ h0.size) : MetFree l x (head1 (Jvm.Cond.code x code maxLocals ret :: ws) room_1) (fun a U => a = #[(.int x0), (.int x1), (.int x2), (.int x3), (.int x4)] ∧ Z.Warmed39 U.vm ∧ U.heap = h0) (fun _ _ _ _ _ => True) (fun _ U o U' => ∃ v L, o = .returned v ∧ own_Q0 n0 v U'.heap L ∧ ReturnedEndW U o U' L room_1.cells room_1.slots) :=
  own_enterW (plainFor_of_name own_pn1) (own_ef0 x0 x1 x2 x3 x4) hw (fun p e s m below meth c T X C hh => own_law X C hh x0 x1 x2 x3 x4 n0 Z0)
set_option maxRecDepth 65536 in
set_option maxHeartbeats 40000000 in
theorem own_comes {Post : Tables → Env → Array Value → State → Outcome → State → Prop} (hpost : ∀ tb e args s v u, (limb_1_1.after args s (.returned v) u = true ∧ limb_1_2.after args s (.returned v) u = true ∧ True) → ReturnedEndW s (.returned v) u (Jvm.fieldLocs frame_1_writes args s ++ Jvm.arrayLocs frame_1_arrays args s ++ Jvm.staticLocs frame_1_statics s) 16 1152 → Post tb e args s (.returned v) u) :
    ArmFor flags0 classFile x code maxLocals ret World_1 tables_1 room_1 Calls_1 rest_1 Pre_1 Post := by
  intro l hfl _ _ p e ha hc hk s m args below hf hA hF happ hP
  obtain ⟨hcalls, hrest, hpre⟩ := hP
  obtain ⟨-, -, -, hnamed, -, -, -, hat⟩ := (Spec.applies_iff hf).mp happ
  obtain ⟨hg, hn⟩ := and_e (Cond.before_iff.mp (show (Jvm.Cond.and given_1 narrow_1).before args s = true from hpre))
  obtain ⟨g0, r0⟩ := and_e hg
  obtain ⟨g1, r1⟩ := and_e r0
  obtain ⟨g2, r2⟩ := and_e r1
  obtain ⟨g3, r3⟩ := and_e r2
  obtain ⟨g4, r4⟩ := and_e r3
  obtain ⟨w0, w1, w2, w3, w4, rfl⟩ : ∃ w0 w1 w2 w3 w4 : Value, args = #[w0, w1, w2, w3, w4] := by
    have hs : args.size = 5 := by simpa [Cond.value, given_1] using g0
    obtain ⟨L⟩ := args
    match L, hs with
    | [w0, w1, w2, w3, w4], _ => exact ⟨w0, w1, w2, w3, w4, rfl⟩
  have hw := fun d (hd : d ∈ tables_1) => atoms_spec (ws := Jvm.Cond.code x code maxLocals ret :: tables_1) hat d (List.mem_cons_of_mem _ hd)
  obtain ⟨i0, ei0⟩ := is_v g1
  obtain rfl : w0 = (.int i0) := Option.some.inj ei0
  obtain ⟨i1, ei1⟩ := is_v g2
  obtain rfl : w1 = (.int i1) := Option.some.inj ei1
  obtain ⟨i2, ei2⟩ := is_v g3
  obtain rfl : w2 = (.int i2) := Option.some.inj ei2
  obtain ⟨i3, ei3⟩ := is_v g4
  obtain rfl : w3 = (.int i3) := Option.some.inj ei3
  obtain ⟨i4, ei4⟩ := is_v r4
  obtain rfl : w4 = (.int i4) := Option.some.inj ei4
  obtain ⟨n, o, h1, h2, h3, _, L, rfl, ⟨rfl, N⟩, hq⟩ := own_rm0 l s _ hw tables_1 i0 i1 i2 i3 i4 s.heap s.heap.size (Nat.le_refl _) p e ha hc hk s m _ below hf ((Spec.applies_iff_loose hf).mp happ).1 ⟨rfl, State.Warmed39.refl s, rfl⟩ trivial
  refine ⟨n, _, h1, h2, h3, hpost _ _ _ _ _ _ ⟨Cond.after_iff.mpr rfl, Cond.after_iff.mpr (eq_i res_at (Term.int_eval (1)) rfl), trivial⟩ ⟨hq.1, hq.2.1, hq.2.2.1, (hq.2.2.2.sift fun y hy => Or.inr (N y hy)).mono (by decide) (by decide)⟩⟩
theorem main_1_1 : Claimed_1_1 := own_comes fun _ _ _ _ _ _ h hF => ⟨h.1, hF⟩
theorem main_1_2 : Claimed_1_2 := own_comes fun _ _ _ _ _ _ h hF => ⟨h.2.1, hF⟩
end Jvm.Pilot.@@N@@
namespace Jvm.Pilot.@@N@@
open Jvm Jvm.ClassFile Sem Op Lib Jvm.Free Jvm.Stand Jvm.Pilot.@@N@@.Jvm.D
/-! MADE BY PROGRAM (witnessworld.py) out of the Statement's table words and the real class files: 16 classes; the members and pool entries that the words name. The judged class is class 1, her method 1. -/
namespace start1
open Jvm.ClassFile
def u (s : String) : CpInfo := .utf8 (stringToUtf16 s)
/-- a pool by its gaps: so many unusable entries, then the entry; so many at the end -/
def gap : Nat → List CpInfo → List CpInfo
  | 0, r => r
  | n + 1, r => .unusable :: gap n r
def poolList (es : List (Nat × CpInfo)) (last : Nat) : List CpInfo := es.foldr (fun e r => gap e.1 (e.2 :: r)) (gap last [])
def pool (es : List (Nat × CpInfo)) (last : Nat) : Array CpInfo := ⟨poolList es last⟩
def fileOf (pool : Array CpInfo) (this : Nat) (attrs : Array Attribute := #[]) (ms : Array MethodInfo := #[]) (fl : Nat := 33) (sup : Nat := 0) (ifs : Array Nat := #[]) (fds : Array FieldInfo := #[]) : ClassFile where
  minorVersion := 0
  majorVersion := 65
  constantPool := pool
  accessFlags := fl
  thisClass := this
  superClass := sup
  interfaces := ifs
  fields := fds
  methods := ms
  attributes := attrs
def plain (name : String) (sup : Option ClassId) : Class where
  name := name
  kind := .ordinary
  loader := none
  accessFlags := 33
  super := sup
  interfaces := #[]
  cf := none
  fields := #[]
  methods := #[]
  instanceTypes := #[]
  staticTypes := #[]
  resolved := #[]
  callSites := []
  init := .initialized
  statics := none
  mirror := none

def pool0 : Array CpInfo := pool [(5, u "<init>"), (0, u "()V"), (1, .class_ 10), (1, u "java/lang/Object")] 113

def k0c0 : Code := { maxStack := 0, maxLocals := 1, code := object_method_1_code, exceptionTable := #[], attributes := #[] }
def k0m0 : Method := { name := "<init>", desc := "()V", sig := { parameters := [], returnType := none }, accessFlags := 1, code := some k0c0 }
/-- java/lang/Object -/
def k0 : Class := { plain "java/lang/Object" none with
  accessFlags := 33
  interfaces := #[]
  cf := some (fileOf pool0 8 #[] #[{ accessFlags := 1, nameIndex := 5, descriptorIndex := 6, attributes := #[] }] 33 0 #[] #[])
  fields := #[]
  methods := #[k0m0]
  instanceTypes := #[]
  staticTypes := #[]
  resolved := Array.replicate 124 none
  statics := none }

def pool1 : Array CpInfo := pool [(2, .class_ 4), (1, u "java/lang/Object"), (0, u "<init>"), (0, u "()V"), (0, .class_ 8), (0, u "com/example/binlogue/binlogue/binlog/FormatDescriptionEvent"), (0, .string 10), (0, u "8.0"), (0, .methodref 7 12), (0, .nameAndType 5 13), (0, u "(Ljava/lang/String;[BZ)V"), (0, .methodref 7 15), (0, .nameAndType 16 17), (0, u "postHeaderLength"), (0, u "(I)I"), (0, .methodref 19 20), (0, .class_ 21), (0, .nameAndType 22 23), (0, u "com/example/binlogue/binlogue/binlog/FormatDescriptionEventPostHeaderLengthPinLaw"), (0, u "unsignedByte"), (0, u "(III)I"), (2, u "law"), (0, u "(IIIII)Z")] 7

def k1m0 : Method := { name := "<init>", desc := "()V", sig := { parameters := [], returnType := none }, accessFlags := 1, code := none }
def k1c1 : Code := { maxStack := 6, maxLocals := 11, code := code, exceptionTable := #[], attributes := #[] }
def k1m1 : Method := { name := "law", desc := "(IIIII)Z", sig := { parameters := [.int, .int, .int, .int, .int], returnType := some .boolean }, accessFlags := 9, code := some k1c1 }
def k1c2 : Code := { maxStack := 2, maxLocals := 3, code := method_3_code, exceptionTable := #[], attributes := #[] }
def k1m2 : Method := { name := "unsignedByte", desc := "(III)I", sig := { parameters := [.int, .int, .int], returnType := some .int }, accessFlags := 10, code := some k1c2 }
/-- com/example/binlogue/binlogue/binlog/FormatDescriptionEventPostHeaderLengthPinLaw -/
def k1 : Class := { plain "com/example/binlogue/binlogue/binlog/FormatDescriptionEventPostHeaderLengthPinLaw" (some 0) with
  accessFlags := 49
  interfaces := #[]
  cf := some (fileOf pool1 19 #[] #[{ accessFlags := 1, nameIndex := 5, descriptorIndex := 6, attributes := #[] }, { accessFlags := 9, nameIndex := 26, descriptorIndex := 27, attributes := #[] }, { accessFlags := 10, nameIndex := 22, descriptorIndex := 23, attributes := #[] }] 49 2 #[] #[])
  fields := #[]
  methods := #[k1m0, k1m1, k1m2]
  instanceTypes := #[]
  staticTypes := #[]
  resolved := Array.replicate 35 none
  statics := none }

def pool2 : Array CpInfo := pool [(1, .methodref 2 3), (0, .class_ 4), (0, .nameAndType 5 6), (0, u "java/lang/Object"), (0, u "<init>"), (0, u "()V"), (0, .class_ 8), (0, u "java/lang/Record")] 13

def k2c0 : Code := { maxStack := 1, maxLocals := 1, code := jdk_30_method_1_code, exceptionTable := #[], attributes := #[] }
def k2m0 : Method := { name := "<init>", desc := "()V", sig := { parameters := [], returnType := none }, accessFlags := 4, code := some k2c0 }
/-- java/lang/Record -/
def k2 : Class := { plain "java/lang/Record" (some 0) with
  accessFlags := 1057
  interfaces := #[]
  cf := some (fileOf pool2 7 #[] #[{ accessFlags := 4, nameIndex := 5, descriptorIndex := 6, attributes := #[] }] 1057 2 #[] #[])
  fields := #[]
  methods := #[k2m0]
  instanceTypes := #[]
  staticTypes := #[]
  resolved := Array.replicate 22 none
  statics := none }

def pool3 : Array CpInfo := pool [(1, .class_ 2), (0, u "com/example/binlogue/binlogue/binlog/EventData"), (0, .class_ 4), (0, u "java/lang/Object")] 19

/-- com/example/binlogue/binlogue/binlog/EventData -/
def k3 : Class := { plain "com/example/binlogue/binlogue/binlog/EventData" (some 0) with
  accessFlags := 1537
  interfaces := #[]
  cf := some (fileOf pool3 1 #[] #[] 1537 3 #[] #[])
  fields := #[]
  methods := #[]
  instanceTypes := #[]
  staticTypes := #[]
  resolved := Array.replicate 24 none
  statics := none }

def pool4 : Array CpInfo := pool [(1, .methodref 2 3), (0, .class_ 4), (0, .nameAndType 5 6), (0, u "java/lang/Record"), (0, u "<init>"), (0, u "()V"), (0, .fieldref 8 9), (0, .class_ 10), (0, .nameAndType 11 12), (0, u "com/example/binlogue/binlogue/binlog/FormatDescriptionEvent"), (0, u "serverVersion"), (0, u "Ljava/lang/String;"), (0, .fieldref 8 14), (0, .nameAndType 15 16), (0, u "postHeaderLengths"), (0, u "[B"), (0, .fieldref 8 18), (0, .nameAndType 19 20), (0, u "checksummed"), (0, u "Z"), (12, .class_ 34), (0, u "com/example/binlogue/binlogue/binlog/EventData"), (0, u "(Ljava/lang/String;[BZ)V"), (3, u "postHeaderLength"), (0, u "(I)I")] 28

def k4c0 : Code := { maxStack := 2, maxLocals := 4, code := prog_21_method_1_code, exceptionTable := #[], attributes := #[] }
def k4m0 : Method := { name := "<init>", desc := "(Ljava/lang/String;[BZ)V", sig := { parameters := [(.object "java/lang/String"), (.array .byte), .boolean], returnType := none }, accessFlags := 1, code := some k4c0 }
def k4c1 : Code := { maxStack := 3, maxLocals := 2, code := prog_21_method_2_code, exceptionTable := #[], attributes := #[] }
def k4m1 : Method := { name := "postHeaderLength", desc := "(I)I", sig := { parameters := [.int], returnType := some .int }, accessFlags := 1, code := some k4c1 }
/-- com/example/binlogue/binlogue/binlog/FormatDescriptionEvent -/
def k4 : Class := { plain "com/example/binlogue/binlogue/binlog/FormatDescriptionEvent" (some 2) with
  accessFlags := 49
  interfaces := #[3]
  cf := some (fileOf pool4 8 #[] #[{ accessFlags := 1, nameIndex := 5, descriptorIndex := 35, attributes := #[] }, { accessFlags := 1, nameIndex := 39, descriptorIndex := 40, attributes := #[] }] 49 2 #[33] #[{ accessFlags := 18, nameIndex := 11, descriptorIndex := 12, attributes := #[] }, { accessFlags := 18, nameIndex := 15, descriptorIndex := 16, attributes := #[] }, { accessFlags := 18, nameIndex := 19, descriptorIndex := 20, attributes := #[] }])
  fields := #[{ name := "serverVersion", type := (.object "java/lang/String"), accessFlags := 18, slot := 0, constantValue := 0 }, { name := "postHeaderLengths", type := (.array .byte), accessFlags := 18, slot := 1, constantValue := 0 }, { name := "checksummed", type := .boolean, accessFlags := 18, slot := 2, constantValue := 0 }]
  methods := #[k4m0, k4m1]
  instanceTypes := #[(.object "java/lang/String"), (.array .byte), .boolean]
  staticTypes := #[]
  resolved := Array.replicate 69 none
  statics := none }

def pool5 : Array CpInfo := pool [(1, .class_ 2), (0, u "java/io/Serializable"), (0, .class_ 4), (0, u "java/lang/Object")] 2

/-- java/io/Serializable -/
def k5 : Class := { plain "java/io/Serializable" (some 0) with
  accessFlags := 1537
  interfaces := #[]
  cf := some (fileOf pool5 1 #[] #[] 1537 3 #[] #[])
  fields := #[]
  methods := #[]
  instanceTypes := #[]
  staticTypes := #[]
  resolved := Array.replicate 7 none
  statics := none }

def pool6 : Array CpInfo := pool [(1, .class_ 2), (0, u "java/lang/Comparable"), (0, .class_ 4), (0, u "java/lang/Object")] 7

/-- java/lang/Comparable -/
def k6 : Class := { plain "java/lang/Comparable" (some 0) with
  accessFlags := 1537
  interfaces := #[]
  cf := some (fileOf pool6 1 #[] #[] 1537 3 #[] #[])
  fields := #[]
  methods := #[]
  instanceTypes := #[]
  staticTypes := #[]
  resolved := Array.replicate 12 none
  statics := none }

def pool7 : Array CpInfo := pool [(2, .class_ 4), (1, u "java/lang/CharSequence"), (42, .class_ 48), (0, u "java/lang/CharSequence$1CodePointIterator"), (10, .class_ 60), (0, u "java/lang/CharSequence$1CharIterator"), (5, .class_ 67), (0, u "java/lang/Object")] 63

/-- java/lang/CharSequence -/
def k7 : Class := { plain "java/lang/CharSequence" (some 0) with
  accessFlags := 1537
  interfaces := #[]
  cf := some (fileOf pool7 2 #[.nestMembers #[47, 59]] #[] 1537 66 #[] #[])
  fields := #[]
  methods := #[]
  instanceTypes := #[]
  staticTypes := #[]
  resolved := Array.replicate 131 none
  statics := none }

def pool8 : Array CpInfo := pool [(1, .class_ 2), (0, u "java/lang/constant/Constable"), (0, .class_ 4), (0, u "java/lang/Object")] 6

/-- java/lang/constant/Constable -/
def k8 : Class := { plain "java/lang/constant/Constable" (some 0) with
  accessFlags := 1537
  interfaces := #[]
  cf := some (fileOf pool8 1 #[] #[] 1537 3 #[] #[])
  fields := #[]
  methods := #[]
  instanceTypes := #[]
  staticTypes := #[]
  resolved := Array.replicate 11 none
  statics := none }

def pool9 : Array CpInfo := pool [(1, .class_ 2), (0, u "java/lang/constant/ConstantDesc"), (0, .class_ 4), (0, u "java/lang/Object")] 32

/-- java/lang/constant/ConstantDesc -/
def k9 : Class := { plain "java/lang/constant/ConstantDesc" (some 0) with
  accessFlags := 1537
  interfaces := #[]
  cf := some (fileOf pool9 1 #[] #[] 1537 3 #[] #[])
  fields := #[]
  methods := #[]
  instanceTypes := #[]
  staticTypes := #[]
  resolved := Array.replicate 37 none
  statics := none }

def pool10 : Array CpInfo := pool [(2, .class_ 4), (1, u "java/lang/Object"), (0, u "<init>"), (0, u "()V"), (3, .class_ 12), (1, u "java/lang/String"), (0, u "value"), (0, u "[B"), (2, u "coder"), (0, u "B"), (2, u "hash"), (0, u "I"), (2, u "hashIsZero"), (0, u "Z"), (13, u "COMPACT_STRINGS"), (534, .class_ 576), (0, u "java/lang/CharSequence"), (22, u "CASE_INSENSITIVE_ORDER"), (0, u "Ljava/util/Comparator;"), (500, u "serialPersistentFields"), (0, u "[Ljava/io/ObjectStreamField;"), (0, .class_ 1104), (0, u "java/lang/String$CaseInsensitiveComparator"), (1, .class_ 1107), (0, u "java/io/Serializable"), (0, .class_ 1109), (0, u "java/lang/Comparable"), (0, .class_ 1111), (0, u "java/lang/constant/Constable"), (0, .class_ 1113), (0, u "java/lang/constant/ConstantDesc"), (2, u "serialVersionUID"), (0, u "J"), (3, u "REPL"), (0, u "C"), (2, u "LATIN1"), (1, u "UTF16")] 323

def k10m0 : Method := { name := "<init>", desc := "()V", sig := { parameters := [], returnType := none }, accessFlags := 1, code := none }
/-- java/lang/String -/
def k10 : Class := { plain "java/lang/String" (some 0) with
  accessFlags := 49
  interfaces := #[5, 6, 7, 8, 9]
  cf := some (fileOf pool10 10 #[.nestMembers #[1103]] #[{ accessFlags := 1, nameIndex := 5, descriptorIndex := 6, attributes := #[] }] 49 2 #[1106, 1108, 575, 1110, 1112] #[{ accessFlags := 18, nameIndex := 13, descriptorIndex := 14, attributes := #[] }, { accessFlags := 18, nameIndex := 17, descriptorIndex := 18, attributes := #[] }, { accessFlags := 2, nameIndex := 21, descriptorIndex := 22, attributes := #[] }, { accessFlags := 2, nameIndex := 25, descriptorIndex := 26, attributes := #[] }, { accessFlags := 26, nameIndex := 1116, descriptorIndex := 1117, attributes := #[] }, { accessFlags := 24, nameIndex := 40, descriptorIndex := 26, attributes := #[] }, { accessFlags := 26, nameIndex := 1101, descriptorIndex := 1102, attributes := #[] }, { accessFlags := 26, nameIndex := 1121, descriptorIndex := 1122, attributes := #[] }, { accessFlags := 25, nameIndex := 599, descriptorIndex := 600, attributes := #[] }, { accessFlags := 24, nameIndex := 1125, descriptorIndex := 18, attributes := #[] }, { accessFlags := 24, nameIndex := 1127, descriptorIndex := 18, attributes := #[] }])
  fields := #[{ name := "value", type := (.array .byte), accessFlags := 18, slot := 0, constantValue := 0 }, { name := "coder", type := .byte, accessFlags := 18, slot := 1, constantValue := 0 }, { name := "hash", type := .int, accessFlags := 2, slot := 2, constantValue := 0 }, { name := "hashIsZero", type := .boolean, accessFlags := 2, slot := 3, constantValue := 0 }, { name := "serialVersionUID", type := .long, accessFlags := 26, slot := 0, constantValue := 0 }, { name := "COMPACT_STRINGS", type := .boolean, accessFlags := 24, slot := 1, constantValue := 0 }, { name := "serialPersistentFields", type := (.array (.object "java/io/ObjectStreamField")), accessFlags := 26, slot := 2, constantValue := 0 }, { name := "REPL", type := .char, accessFlags := 26, slot := 3, constantValue := 0 }, { name := "CASE_INSENSITIVE_ORDER", type := (.object "java/util/Comparator"), accessFlags := 25, slot := 4, constantValue := 0 }, { name := "LATIN1", type := .byte, accessFlags := 24, slot := 5, constantValue := 0 }, { name := "UTF16", type := .byte, accessFlags := 24, slot := 6, constantValue := 0 }]
  methods := #[k10m0]
  instanceTypes := #[(.array .byte), .byte, .int, .boolean]
  staticTypes := #[.long, .boolean, (.array (.object "java/io/ObjectStreamField")), .char, (.object "java/util/Comparator"), .byte, .byte]
  resolved := Array.replicate 1451 none
  statics := none }

def pool11 : Array CpInfo := pool [(1, u "java/lang/Cloneable"), (0, .class_ 1), (0, u "java/lang/Object"), (0, .class_ 3)] 3

/-- java/lang/Cloneable -/
def k11 : Class := { plain "java/lang/Cloneable" (some 0) with
  accessFlags := 1537
  interfaces := #[]
  cf := some (fileOf pool11 2 #[] #[] 1537 4 #[] #[])
  fields := #[]
  methods := #[]
  instanceTypes := #[]
  staticTypes := #[]
  resolved := Array.replicate 8 none
  statics := none }

/-- the primitive byte -/
def k12 : Class := { plain "byte" none with kind := .primitive 'B', accessFlags := 0x411 }
/-- [B -/
def k13 : Class := { plain "[B" (some 0) with kind := .array 12 .byte, interfaces := #[11, 5], accessFlags := 1041 }

/-- the primitive int -/
def k14 : Class := { plain "int" none with kind := .primitive 'I', accessFlags := 0x411 }
/-- [I -/
def k15 : Class := { plain "[I" (some 0) with kind := .array 14 .int, interfaces := #[11, 5], accessFlags := 1041 }

def heap : Heap := #[]
def classes : Array Class := #[k0, k1, k2, k3, k4, k5, k6, k7, k8, k9, k10, k11, k12, k13, k14, k15]
def interned : List (Array UInt16 × Addr) := []
def slotsUsed : Nat := 0
def theMethod : MethodId := ⟨1, 1⟩
def args0 : Array Value := #[.int 5, .int 3, .int 2, .int 1, .int 0]
def aboutOver (below : List Frame) : State where
  vm := { classes := classes, interned := interned.toArray }
  heap := heap
  slotsUsed := slotsUsed
  threads := #[{ frames := .invoking theMethod args0 :: below }]
def below0 : List Frame := [.native { method := ⟨0, 0⟩, args := #[] }]
def about1 : State := aboutOver below0
def p0 : Program := .bare "" "" ""
def e0 : Env := launch0.env 0 0 0
theorem w_frames : about1.frames = Frame.invoking theMethod args0 :: below0 := rfl
set_option maxRecDepth 65536 in
theorem w_args : argsFit about1.vm theMethod args0 = true := by decide +kernel
set_option maxRecDepth 65536 in
theorem w_heap : heapFits about1 = true := by decide +kernel
set_option maxRecDepth 65536 in
theorem w_runnable : about1.curStatus? = some .runnable := by decide +kernel
set_option maxRecDepth 65536 in
theorem w_alone : about1.alone = true := by decide +kernel
set_option maxRecDepth 65536 in
theorem w_named : about1.methodNamed? x = some theMethod := by decide +kernel
set_option maxRecDepth 65536 in
theorem w_hears : about1.hears theMethod below0 = true := by decide +kernel
set_option maxRecDepth 65536 in
theorem w_ripe : about1.ripe theMethod args0 below0 = true := by decide +kernel
theorem w_running : about1.status = .running := rfl
set_option maxRecDepth 65536 in
theorem w_room : about1.hasRoom e0.platform room_1 = true :=
  launch0.hasRoom_least _ room_1 (by decide +kernel) (by decide +kernel) (by decide +kernel) (by decide +kernel) (by decide +kernel) (by decide +kernel)
theorem allAtoms_all (ts : List Jvm.Cond) (a : Array Jvm.Value) (st : Jvm.State) : (allAtoms ts).before a st = ts.all (fun c => c.before a st) := by
  induction ts with
  | nil => rfl
  | cons c t ih =>
    show (Jvm.Cond.and c (allAtoms t)).before a st = _
    rw [Jvm.Cond.before_and, ih, List.all_cons]
def words1 : List Jvm.Cond := Jvm.Cond.code x code maxLocals ret :: tables_1
/-- a 'code' word, met by the world's own term for the bytes: nothing is compared byte by byte -/
theorem code_word {y : MethodName} {bytes : ByteArray} {mx : Nat} {rt : Option FieldType} {a : Array Value} {s : State} {m : MethodId} {meth : Method} {c : Code} (h1 : s.methodNamed? y = some m) (h2 : s.vm.method? m = some meth) (h3 : meth.code = some c) (h4 : c.code = bytes)
    (h5 : (c.maxLocals == mx && c.exceptionTable.isEmpty && decide (c.maxStack ≤ mostOperands) && decide (meth.sig.returnType = rt) && !meth.locks && decide (parseMethodDescriptor y.desc = some meth.sig)) = true) : (Jvm.Cond.code y bytes mx rt).before a s = true := by
  simp only [Bool.and_eq_true, beq_iff_eq, Bool.not_eq_true', decide_eq_true_eq] at h5
  obtain ⟨⟨⟨⟨⟨g1, g2⟩, g3⟩, g4⟩, g5⟩, g6⟩ := h5
  simp [Cond.before, Cond.holds, Cond.value, h1, h2, h3, h4, g1, g2, g3, g4, g5, g6]
def isCode : Jvm.Cond → Bool
  | .code _ _ _ _ => true
  | _ => false
theorem all_split {L : List Jvm.Cond} {P : Jvm.Cond → Bool} (h1 : L.all (fun c => isCode c || P c) = true) (h2 : ∀ c ∈ L.filter isCode, P c = true) : L.all P = true := by
  refine List.all_eq_true.mpr fun c hc => ?_
  have h := List.all_eq_true.mp h1 c hc
  rcases Bool.eq_false_or_eq_true (isCode c) with hi | hi
  · exact h2 c (List.mem_filter.mpr ⟨hc, hi⟩)
  · simpa [hi] using h
set_option maxRecDepth 65536 in
theorem w_c0 : (Jvm.Cond.code x code maxLocals ret).before args0 about1 = true := code_word (m := ⟨1, 1⟩) (meth := k1m1) (c := k1c1) (by decide +kernel) rfl rfl rfl (by decide +kernel)
set_option maxRecDepth 65536 in
theorem w_c1 : (Jvm.Cond.code ({ cls := "com/example/binlogue/binlogue/binlog/FormatDescriptionEvent", name := "<init>", desc := "(Ljava/lang/String;[BZ)V" } : Jvm.MethodName) prog_21_method_1_code (4 : Nat) (Option.none : Option Jvm.ClassFile.FieldType)).before args0 about1 = true := code_word (m := ⟨4, 0⟩) (meth := k4m0) (c := k4c0) (by decide +kernel) rfl rfl rfl (by decide +kernel)
set_option maxRecDepth 65536 in
theorem w_c2 : (Jvm.Cond.code ({ cls := "java/lang/Record", name := "<init>", desc := "()V" } : Jvm.MethodName) jdk_30_method_1_code (1 : Nat) (Option.none : Option Jvm.ClassFile.FieldType)).before args0 about1 = true := code_word (m := ⟨2, 0⟩) (meth := k2m0) (c := k2c0) (by decide +kernel) rfl rfl rfl (by decide +kernel)
set_option maxRecDepth 65536 in
theorem w_c3 : (Jvm.Cond.code ({ cls := "java/lang/Object", name := "<init>", desc := "()V" } : Jvm.MethodName) object_method_1_code (1 : Nat) (Option.none : Option Jvm.ClassFile.FieldType)).before args0 about1 = true := code_word (m := ⟨0, 0⟩) (meth := k0m0) (c := k0c0) (by decide +kernel) rfl rfl rfl (by decide +kernel)
set_option maxRecDepth 65536 in
theorem w_c4 : (Jvm.Cond.code ({ cls := "com/example/binlogue/binlogue/binlog/FormatDescriptionEvent", name := "postHeaderLength", desc := "(I)I" } : Jvm.MethodName) prog_21_method_2_code (2 : Nat) (Option.some Jvm.ClassFile.FieldType.int)).before args0 about1 = true := code_word (m := ⟨4, 1⟩) (meth := k4m1) (c := k4c1) (by decide +kernel) rfl rfl rfl (by decide +kernel)
set_option maxRecDepth 65536 in
theorem w_c5 : (Jvm.Cond.code ({ cls := "com/example/binlogue/binlogue/binlog/FormatDescriptionEventPostHeaderLengthPinLaw", name := "unsignedByte", desc := "(III)I" } : Jvm.MethodName) method_3_code (3 : Nat) (Option.some Jvm.ClassFile.FieldType.int)).before args0 about1 = true := code_word (m := ⟨1, 2⟩) (meth := k1m2) (c := k1c2) (by decide +kernel) rfl rfl rfl (by decide +kernel)
def codes1 : List Jvm.Cond := [Jvm.Cond.code x code maxLocals ret, Jvm.Cond.code ({ cls := "com/example/binlogue/binlogue/binlog/FormatDescriptionEvent", name := "<init>", desc := "(Ljava/lang/String;[BZ)V" } : Jvm.MethodName) prog_21_method_1_code (4 : Nat) (Option.none : Option Jvm.ClassFile.FieldType), Jvm.Cond.code ({ cls := "java/lang/Record", name := "<init>", desc := "()V" } : Jvm.MethodName) jdk_30_method_1_code (1 : Nat) (Option.none : Option Jvm.ClassFile.FieldType), Jvm.Cond.code ({ cls := "java/lang/Object", name := "<init>", desc := "()V" } : Jvm.MethodName) object_method_1_code (1 : Nat) (Option.none : Option Jvm.ClassFile.FieldType), Jvm.Cond.code ({ cls := "com/example/binlogue/binlogue/binlog/FormatDescriptionEvent", name := "postHeaderLength", desc := "(I)I" } : Jvm.MethodName) prog_21_method_2_code (2 : Nat) (Option.some Jvm.ClassFile.FieldType.int), Jvm.Cond.code ({ cls := "com/example/binlogue/binlogue/binlog/FormatDescriptionEventPostHeaderLengthPinLaw", name := "unsignedByte", desc := "(III)I" } : Jvm.MethodName) method_3_code (3 : Nat) (Option.some Jvm.ClassFile.FieldType.int)]
set_option maxRecDepth 65536 in
theorem codes_eq : words1.filter isCode = codes1 := rfl
theorem w_codes : ∀ c ∈ words1.filter isCode, c.before args0 about1 = true := by
  rw [codes_eq]
  intro c hc
  simp only [codes1, List.mem_cons, List.not_mem_nil, or_false] at hc
  rcases hc with rfl | rfl | rfl | rfl | rfl | rfl
  · exact w_c0
  · exact w_c1
  · exact w_c2
  · exact w_c3
  · exact w_c4
  · exact w_c5
set_option maxRecDepth 65536 in
theorem w_t1 : (words1.take 24).all (fun c => isCode c || c.before args0 about1) = true := by decide +kernel
set_option maxRecDepth 65536 in
theorem w_t2 : (words1.drop 24).all (fun c => isCode c || c.before args0 about1) = true := by decide +kernel
theorem w_tables : (allAtoms (Jvm.Cond.code x code maxLocals ret :: tables_1)).before args0 about1 = true := by
  rw [allAtoms_all]
  show words1.all (fun c => c.before args0 about1) = true
  refine all_split ?_ w_codes
  rw [← List.take_append_drop 24 words1, List.all_append, w_t1, w_t2]
  rfl
set_option maxRecDepth 65536 in
theorem w_case : (Jvm.Cond.and given_1 narrow_1).before args0 about1 = true := by decide +kernel
theorem w_applies : (headSpec (Jvm.Cond.code x code maxLocals ret :: tables_1) room_1).applies x e0.platform about1 = true :=
  (Spec.applies_iff w_frames).mpr ⟨w_running, w_runnable, w_alone, w_named, w_hears, w_ripe, w_room, w_tables⟩
theorem atStart : AtStart classFile x code maxLocals ret World_1 tables_1 room_1 Calls_1 rest_1 Pre_1 launch0 p0 e0 about1 theMethod args0 below0 :=
  ⟨lists_1, trivial, launch0.admits_env _ _ _, launch0.least_env, fairChoices_fair.cas, fairChoices_fair.clock, w_frames, w_args, w_heap, w_applies, trivial, trivial, w_case⟩
end start1
theorem witness_1 : WitnessClaimed_1 := ⟨start1.p0, start1.e0, start1.about1, start1.theMethod, start1.args0, start1.below0, start1.atStart⟩
end Jvm.Pilot.@@N@@
