import JvmDerived
import JvmDerived.Pilot.@@N@@Statement
import JvmDerived.Pilot.@@N@@Code
set_option linter.unusedVariables false
set_option linter.unusedSimpArgs false
namespace Jvm.RoadKit
open Sem ClassFile Op Lib Jvm.Stand Jvm.Free Jvm.LawKit
section OwnKit
variable {p : Program} {l : Launch} {e : Env} {R : Room} {s : State} {m : MethodId} {args : Array Value} {below : List Frame} {meth : Method} {c : Code} {T : State} {locs : List Loc} {cells slots : Nat} {Z : State} {a0 : Array Value} {Q : Option Value → Heap → List Loc → Prop} {kc ks : Nat}
/-- the run from A ends, returns, and leaves what Q says -/
def own_Fin (p : Program) (e : Env) (below : List Frame) (s : State) (Q : Option Value → Heap → List Loc → Prop) (kc ks : Nat) (A : State) : Prop :=
  ∃ s₂ o, Steps p.tables e below A s₂ ∧ s₂.status = .running ∧ Ended s₂ below o ∧ ∃ v L, o = .returned v ∧ Q v s₂.heap L ∧ FrameEnd s o s₂ L kc ks
theorem own_go {A A' : State} (h : ∀ t, Steps p.tables e below A' t → Steps p.tables e below A t) (k : own_Fin p e below s Q kc ks A') : own_Fin p e below s Q kc ks A := by
  obtain ⟨s₂, o, h1, r⟩ := k
  exact ⟨s₂, o, h _ h1, r⟩
theorem own_to {A A' : State} (h : Steps p.tables e below A A') (k : own_Fin p e below s Q kc ks A') : own_Fin p e below s Q kc ks A := own_go (fun _ q => h.trans q) k
theorem own_mono {A : State} {Q' : Option Value → Heap → List Loc → Prop} (k : own_Fin p e below s Q kc ks A) (q : ∀ v h L, Q v h L → Q' v h L) : own_Fin p e below s Q' kc ks A := by
  obtain ⟨s₂, o, h1, h2, h3, v, L, h4, h5, h6⟩ := k
  exact ⟨s₂, o, h1, h2, h3, v, L, h4, q _ _ _ h5, h6⟩
/-- what a body knows of itself -/
def own_Ctx (p : Program) (s : State) (m : MethodId) (meth : Method) (c : Code) (Z : State) (a0 : Array Value) (tb : List Cond) (y : MethodName) (bytes : ByteArray) (maxL : Nat) (ret : Option FieldType) : Prop :=
  p.tables.exec = Jvm.exec ∧ c.code = bytes ∧ c.maxLocals = maxL ∧ Z.Warmed39 s.vm ∧ s.vm.findClass y.cls = some m.cls ∧ meth.name = y.name ∧ meth.sig.returnType = ret ∧ meth.locks = false ∧ (∀ d ∈ tb, d.before a0 Z = true)
/-- a contract -/
def own_Met (l : Launch) (Z : State) (y : MethodName) (bytes : ByteArray) (maxL : Nat) (ret : Option FieldType) (ws : List Cond) (rm : Room) (as' : Array Value) (h0 : Heap) (Q : Option Value → Heap → List Loc → Prop) : Prop :=
  MetFree l y (head1 (Cond.code y bytes maxL ret :: ws) rm) (fun a U => a = as' ∧ Z.Warmed39 U.vm ∧ U.heap = h0) (fun _ _ _ _ _ => True) (fun _ U o U' => ∃ v L, o = .returned v ∧ Q v U'.heap L ∧ FrameEnd U o U' L rm.cells rm.slots)
theorem own_enter {y : MethodName} {bytes : ByteArray} {maxL : Nat} {ret : Option FieldType} {rm : Room} {as' : Array Value} {h0 : Heap} {ws tb : List Cond} {Ls : Array Slot} (hp : plainFor y = true) (hef : ∀ m, entryFrame m as' maxL = mkF m 0 Ls []) (hw : ∀ d ∈ tb, d.before a0 Z = true)
    (body : ∀ (p : Program) (e : Env) (s : State) (m : MethodId) (below : List Frame) (meth : Method) (c : Code) (T : State), Stand p l e rm s m as' below meth c T [] 0 0 → own_Ctx p s m meth c Z a0 tb y bytes maxL ret → T.heap = h0 → own_Fin p e below s Q rm.cells rm.slots (T.setTop (mkF m 0 Ls []))) :
    own_Met l Z y bytes maxL ret ws rm as' h0 Q := by
  refine MetFree.of_bodySF hp hisR ?_
  intro p e s m args below meth c s₁ Bd hml0 hP hK
  obtain ⟨rfl, hZ, hh⟩ := hP
  have e0 : s₁.heap = h0 := by rw [← hh, Bd.state]; rfl
  obtain ⟨s₂, o, h1, r⟩ := body p e s m below meth c s₁ (Stand.of_body Bd) ⟨Bd.exec, Bd.bytes, hml0, hZ, findClass_of_methodNamed Bd.named, (name_of_methodNamed Bd.named Bd.method).1, Bd.returns, Bd.notSynchronized, hw⟩ e0
  exact ⟨s₂, o, castTop (hef m) h1, r⟩
/-- a return of a value -/
theorem own_ret (X : Stand p l e R s m args below meth c T locs cells slots) (hlk : meth.locks = false) (hx : p.tables.exec = Jvm.exec) {pc : Nat} {Ls : Array Slot} {w : Value} {t : FieldType} {i : Instr} {rest : List Value} (hret : meth.sig.returnType = some t) (hn : narrow t w = w)
    (hi : (i = .ireturn ∧ (t = .int ∨ t = .boolean ∨ t = .byte ∨ t = .char ∨ t = .short) ∧ ∃ z, w = .int z) ∨ (i = .lreturn ∧ t = .long ∧ ∃ z, w = .long z) ∨ (i = .dreturn ∧ t = .double ∧ ∃ z, w = .double z) ∨ (i = .freturn ∧ t = .float ∧ ∃ z, w = .float z) ∨ (i = .areturn ∧ t.isReference = true ∧ w.isRef = true))
    (hd : decode c.code pc = .ok (i, 1)) (hq : Q (some w) T.heap locs) (hc : cells ≤ kc) (hs : slots ≤ ks) : own_Fin p e below s Q kc ks (T.setTop (mkF m pc Ls (w :: rest))) := by
  obtain ⟨fs, hr, hrun, hended, hW, hsame⟩ := X.leave (v := some w) (fun h => by rw [hret] at h; cases h) hlk
  exact ⟨_, _, retOut X hx hret hn hi hd hr, hrun, hended, _, _, rfl, hq, ⟨_, rfl⟩, hW, hsame.mono hc hs⟩
/-- a return of a boolean, byte, char, short that may be narrowed -/
theorem own_retN (X : Stand p l e R s m args below meth c T locs cells slots) (hlk : meth.locks = false) (hx : p.tables.exec = Jvm.exec) {pc : Nat} {Ls : Array Slot} {z : Int32} {t : FieldType} {rest : List Value} (hret : meth.sig.returnType = some t) (ht : t = .boolean ∨ t = .byte ∨ t = .char ∨ t = .short)
    (hd : decode c.code pc = .ok (.ireturn, 1)) (hq : Q (some (.int (nar t z))) T.heap locs) (hc : cells ≤ kc) (hs : slots ≤ ks) : own_Fin p e below s Q kc ks (T.setTop (mkF m pc Ls (.int z :: rest))) := by
  obtain ⟨fs, hr, hrun, hended, hW, hsame⟩ := X.leave (v := some (.int (nar t z))) (fun h => by rw [hret] at h; cases h) hlk
  exact ⟨_, _, retN X hx hret ht hd hr, hrun, hended, _, _, rfl, hq, ⟨_, rfl⟩, hW, hsame.mono hc hs⟩
/-- a return of nothing -/
theorem own_ret0 (X : Stand p l e R s m args below meth c T locs cells slots) (hlk : meth.locks = false) (hx : p.tables.exec = Jvm.exec) {pc : Nat} {Ls : Array Slot} (hret : meth.sig.returnType = none)
    (hd : decode c.code pc = .ok (.return_, 1)) (hq : Q none T.heap locs) (hc : cells ≤ kc) (hs : slots ≤ ks) : own_Fin p e below s Q kc ks (T.setTop (mkF m pc Ls [])) := by
  obtain ⟨fs, hr, hrun, hended, hW, hsame⟩ := X.leave (v := none) (fun _ => rfl) hlk
  exact ⟨_, _, X.returnOut hx hret hd hr, hrun, hended, _, _, rfl, hq, ⟨_, rfl⟩, hW, hsame.mono hc hs⟩
/-- calls by contract -/
theorem own_callS (X : Stand p l e R s m args below meth c T locs cells slots) (hx : p.tables.exec = Jvm.exec) (hZ : Z.Warmed39 s.vm) {h : Heap} (eT : T.heap = h) {own : String} {index : Nat} {y : MethodName} {bytes : ByteArray} {maxL : Nat} {ret : Option FieldType} (hown : s.vm.findClass own = some m.cls)
    (w1 : (Cond.methodLink own index y).before a0 Z = true) (w2 : (Cond.static y).before a0 Z = true) (w3 : (Cond.initialized y.cls).before a0 Z = true) (w4 : (Cond.code y bytes maxL ret).before a0 Z = true) (hy : y.cls ≠ "java/lang/invoke/MethodHandle" ∧ y.cls ≠ "java/lang/invoke/VarHandle")
    {rm : Room} {argsL rest : List Value} (hM : own_Met l Z y bytes maxL ret [] rm argsL.toArray h Q) (hf : rm.frames + 1 ≤ R.frames) (W : Nat) (hl : W + (maxL + 11) + rm.locals ≤ R.locals) (hcR : cells + rm.cells ≤ R.cells) (hsR : slots + rm.slots ≤ R.slots)
    {g : JFrame} (hg : g.method = m) (hsize : g.locals.size = c.maxLocals) (hlen : ∀ sig, parseMethodDescriptor y.desc = some sig → argsL.length = sig.parameters.length) (hstack : g.stack = argsL.reverse ++ rest) (hW : 2 * g.monitorRoom + (rest.map fun v => v.category).sum ≤ W) (hdg : decode c.code g.pc = .ok (.invokestatic index, 3)) :
    ∃ v T' L, Stand p l e R s m args below meth c T' (locs ++ L) (cells + rm.cells) (slots + rm.slots) ∧ Q v T'.heap L ∧ ∀ target, Steps p.tables e below (T'.setTop { g with pc := g.pc + 3, stack := v.toList ++ rest }) target → Steps p.tables e below (T.setTop g) target := by
  obtain ⟨v, _, ⟨T', L', k', n'⟩, -, X', ⟨L, hQ, l1, y1, z1⟩, st⟩ := Jvm.LawKit.callS X hx hown (mvT hZ w1) (mvT hZ w2) (mvT hZ w3) (mvT hZ w4) hy (backOf (W := W) hM hZ w4 w3 hf hl) hg hsize hlen hstack hW hdg (fun _ _ => ⟨rfl, eT, hcR, hsR⟩)
  dsimp only [Pt.U, Pt.locs, Pt.cells, Pt.slots] at X' l1 y1 z1 st hQ
  subst l1 y1 z1
  exact ⟨v, T', L, X', hQ, st⟩
/-- a result, and nothing else -/
def own_QP (r : Option Value) (h0 : Heap) (v : Option Value) (h : Heap) (L : List Loc) : Prop := v = r ∧ L = [] ∧ h = h0
theorem own_callP (X : Stand p l e R s m args below meth c T locs cells slots) (hx : p.tables.exec = Jvm.exec) (hZ : Z.Warmed39 s.vm) {h : Heap} (eT : T.heap = h) {own : String} {index : Nat} {y : MethodName} {bytes : ByteArray} {maxL : Nat} {ret : Option FieldType} (hown : s.vm.findClass own = some m.cls)
    (w1 : (Cond.methodLink own index y).before a0 Z = true) (w2 : (Cond.static y).before a0 Z = true) (w3 : (Cond.initialized y.cls).before a0 Z = true) (w4 : (Cond.code y bytes maxL ret).before a0 Z = true) (hy : y.cls ≠ "java/lang/invoke/MethodHandle" ∧ y.cls ≠ "java/lang/invoke/VarHandle")
    {fr lo : Nat} {r : Option Value} {argsL rest : List Value} (hM : own_Met l Z y bytes maxL ret [] { frames := fr, cells := 0, slots := 0, locals := lo } argsL.toArray h (own_QP r h)) (hf : fr + 1 ≤ R.frames) (W : Nat) (hl : W + (maxL + 11) + lo ≤ R.locals) (hcR : cells ≤ R.cells) (hsR : slots ≤ R.slots)
    {g : JFrame} (hg : g.method = m) (hsize : g.locals.size = c.maxLocals) (hlen : ∀ sig, parseMethodDescriptor y.desc = some sig → argsL.length = sig.parameters.length) (hstack : g.stack = argsL.reverse ++ rest) (hW : 2 * g.monitorRoom + (rest.map fun v => v.category).sum ≤ W) (hdg : decode c.code g.pc = .ok (.invokestatic index, 3)) :
    ∃ T', Stand p l e R s m args below meth c T' locs cells slots ∧ T'.heap = h ∧ ∀ target, Steps p.tables e below (T'.setTop { g with pc := g.pc + 3, stack := r.toList ++ rest }) target → Steps p.tables e below (T.setTop g) target := by
  obtain ⟨v, T', L, X', ⟨rfl, rfl, e1⟩, st⟩ := own_callS X hx hZ eT hown w1 w2 w3 w4 hy hM hf W hl hcR hsR hg hsize hlen hstack hW hdg
  rw [List.append_nil] at X'
  exact ⟨T', X', e1, st⟩
theorem own_callI (X : Stand p l e R s m args below meth c T locs cells slots) (hx : p.tables.exec = Jvm.exec) (hZ : Z.Warmed39 s.vm) {h : Heap} (eT : T.heap = h) {own : String} {index : Nat} {y : MethodName} {bytes : ByteArray} {maxL : Nat} (hy1 : y.name = "<init>") (hown : s.vm.findClass own = some m.cls)
    (w1 : (Cond.methodLink own index y).before a0 Z = true) (w2 : (Cond.instanceMethod y).before a0 Z = true) (w3 : (Cond.initialized y.cls).before a0 Z = true) (w4 : (Cond.code y bytes maxL none).before a0 Z = true) (hy : y.cls ≠ "java/lang/invoke/MethodHandle" ∧ y.cls ≠ "java/lang/invoke/VarHandle")
    {rm : Room} {a : Addr} {argsL rest : List Value} (hM : own_Met l Z y bytes maxL none [] rm (.ref a :: argsL).toArray h Q) (hf : rm.frames + 1 ≤ R.frames) (W : Nat) (hl : W + (maxL + 11) + rm.locals ≤ R.locals) (hcR : cells + rm.cells ≤ R.cells) (hsR : slots + rm.slots ≤ R.slots)
    {g : JFrame} (hg : g.method = m) (hsize : g.locals.size = c.maxLocals) (hlen : ∀ sig, parseMethodDescriptor y.desc = some sig → argsL.length = sig.parameters.length) (hstack : g.stack = argsL.reverse ++ .ref a :: rest) (hW : 2 * g.monitorRoom + (rest.map fun v => v.category).sum ≤ W) (hdg : decode c.code g.pc = .ok (.invokespecial index, 3)) :
    ∃ v T' L, Stand p l e R s m args below meth c T' (locs ++ L) (cells + rm.cells) (slots + rm.slots) ∧ Q v T'.heap L ∧ ∀ target, Steps p.tables e below (T'.setTop { g with pc := g.pc + 3, stack := v.toList ++ rest }) target → Steps p.tables e below (T.setTop g) target := by
  obtain ⟨v, _, ⟨T', L', k', n'⟩, -, X', ⟨L, hQ, l1, y1, z1⟩, st⟩ := X.specialBack hx hy1 hown (mvT hZ w1) (mvT hZ w2) (mvT hZ w4) hy (backOf (W := W) hM hZ w4 w3 hf hl) hg hsize (Steps.refl _) hlen hstack hW hdg (fun _ _ => ⟨rfl, eT, hcR, hsR⟩)
  dsimp only [Pt.U, Pt.locs, Pt.cells, Pt.slots] at X' l1 y1 z1 st hQ
  subst l1 y1 z1
  exact ⟨v, T', L, X', hQ, fun _ q => st.trans q⟩
theorem own_callIP (X : Stand p l e R s m args below meth c T locs cells slots) (hx : p.tables.exec = Jvm.exec) (hZ : Z.Warmed39 s.vm) {h : Heap} (eT : T.heap = h) {own : String} {index : Nat} {y : MethodName} {bytes : ByteArray} {maxL : Nat} (hy1 : y.name = "<init>") (hown : s.vm.findClass own = some m.cls)
    (w1 : (Cond.methodLink own index y).before a0 Z = true) (w2 : (Cond.instanceMethod y).before a0 Z = true) (w3 : (Cond.initialized y.cls).before a0 Z = true) (w4 : (Cond.code y bytes maxL none).before a0 Z = true) (hy : y.cls ≠ "java/lang/invoke/MethodHandle" ∧ y.cls ≠ "java/lang/invoke/VarHandle")
    {fr lo : Nat} {a : Addr} {argsL rest : List Value} (hM : own_Met l Z y bytes maxL none [] { frames := fr, cells := 0, slots := 0, locals := lo } (.ref a :: argsL).toArray h (own_QP none h)) (hf : fr + 1 ≤ R.frames) (W : Nat) (hl : W + (maxL + 11) + lo ≤ R.locals) (hcR : cells ≤ R.cells) (hsR : slots ≤ R.slots)
    {g : JFrame} (hg : g.method = m) (hsize : g.locals.size = c.maxLocals) (hlen : ∀ sig, parseMethodDescriptor y.desc = some sig → argsL.length = sig.parameters.length) (hstack : g.stack = argsL.reverse ++ .ref a :: rest) (hW : 2 * g.monitorRoom + (rest.map fun v => v.category).sum ≤ W) (hdg : decode c.code g.pc = .ok (.invokespecial index, 3)) :
    ∃ T', Stand p l e R s m args below meth c T' locs cells slots ∧ T'.heap = h ∧ ∀ target, Steps p.tables e below (T'.setTop { g with pc := g.pc + 3, stack := rest }) target → Steps p.tables e below (T.setTop g) target := by
  obtain ⟨v, T', L, X', ⟨rfl, rfl, e1⟩, st⟩ := own_callI X hx hZ eT hy1 hown w1 w2 w3 w4 hy hM hf W hl hcR hsR hg hsize hlen hstack hW hdg
  rw [List.append_nil] at X'
  exact ⟨T', X', e1, st⟩
theorem own_callV (X : Stand p l e R s m args below meth c T locs cells slots) (hx : p.tables.exec = Jvm.exec) (hZ : Z.Warmed39 s.vm) {h : Heap} (eT : T.heap = h) {own C : String} {index : Nat} {y : MethodName} {bytes : ByteArray} {maxL : Nat} {ret : Option FieldType} (hown : s.vm.findClass own = some m.cls)
    (w1 : (Cond.methodLink own index y).before a0 Z = true) (wd : (Cond.declares y).before a0 Z = true) (ws : (Cond.selects C y y).before a0 Z = true) (w2 : (Cond.instanceMethod y).before a0 Z = true) (w3 : (Cond.initialized y.cls).before a0 Z = true) (w4 : (Cond.code y bytes maxL ret).before a0 Z = true) (hy : y.cls ≠ "java/lang/invoke/MethodHandle" ∧ y.cls ≠ "java/lang/invoke/VarHandle")
    {rm : Room} {a : Addr} (hE : Exa Z h a C) {argsL rest : List Value} (hM : own_Met l Z y bytes maxL ret [] rm (.ref a :: argsL).toArray h Q) (hf : rm.frames + 1 ≤ R.frames) (W : Nat) (hl : W + (maxL + 11) + rm.locals ≤ R.locals) (hcR : cells + rm.cells ≤ R.cells) (hsR : slots + rm.slots ≤ R.slots)
    {g : JFrame} (hg : g.method = m) (hsize : g.locals.size = c.maxLocals) (hlen : ∀ sig, parseMethodDescriptor y.desc = some sig → argsL.length = sig.parameters.length) (hstack : g.stack = argsL.reverse ++ .ref a :: rest) (hW : 2 * g.monitorRoom + (rest.map fun v => v.category).sum ≤ W) (hdg : decode c.code g.pc = .ok (.invokevirtual index, 3)) :
    ∃ v T' L, Stand p l e R s m args below meth c T' (locs ++ L) (cells + rm.cells) (slots + rm.slots) ∧ Q v T'.heap L ∧ ∀ target, Steps p.tables e below (T'.setTop { g with pc := g.pc + 3, stack := v.toList ++ rest }) target → Steps p.tables e below (T.setTop g) target := by
  obtain ⟨cq, kq, qa, qb, qc⟩ := isOf hZ eT hE
  obtain ⟨v, _, ⟨T', L', k', n'⟩, -, X', ⟨L, hQ, l1, y1, z1⟩, st⟩ := X.virtualBack hx hown (mvT hZ w1) (mvT hZ wd) (notFace_of_selects (args := #[]) (mvT hZ ws)) (mvT hZ ws) (mvT hZ w2) hy (backOf (W := W) hM hZ w4 w3 hf hl) qa qc hg hsize (Steps.refl _) hlen hstack hW hdg (fun _ _ => ⟨rfl, eT, hcR, hsR⟩)
  dsimp only [Pt.U, Pt.locs, Pt.cells, Pt.slots] at X' l1 y1 z1 st hQ
  subst l1 y1 z1
  exact ⟨v, T', L, X', hQ, fun _ q => st.trans q⟩
/-- a virtual call that only reads -/
theorem own_callVP (X : Stand p l e R s m args below meth c T locs cells slots) (hx : p.tables.exec = Jvm.exec) (hZ : Z.Warmed39 s.vm) {h : Heap} (eT : T.heap = h) {own C : String} {index : Nat} {y : MethodName} {bytes : ByteArray} {maxL : Nat} {ret : Option FieldType} (hown : s.vm.findClass own = some m.cls)
    (w1 : (Cond.methodLink own index y).before a0 Z = true) (wd : (Cond.declares y).before a0 Z = true) (ws : (Cond.selects C y y).before a0 Z = true) (w2 : (Cond.instanceMethod y).before a0 Z = true) (w3 : (Cond.initialized y.cls).before a0 Z = true) (w4 : (Cond.code y bytes maxL ret).before a0 Z = true) (hy : y.cls ≠ "java/lang/invoke/MethodHandle" ∧ y.cls ≠ "java/lang/invoke/VarHandle")
    {fr lo : Nat} {r : Option Value} {a : Addr} (hE : Exa Z h a C) {argsL rest : List Value} (hM : own_Met l Z y bytes maxL ret [] { frames := fr, cells := 0, slots := 0, locals := lo } (.ref a :: argsL).toArray h (own_QP r h)) (hf : fr + 1 ≤ R.frames) (W : Nat) (hl : W + (maxL + 11) + lo ≤ R.locals) (hcR : cells ≤ R.cells) (hsR : slots ≤ R.slots)
    {g : JFrame} (hg : g.method = m) (hsize : g.locals.size = c.maxLocals) (hlen : ∀ sig, parseMethodDescriptor y.desc = some sig → argsL.length = sig.parameters.length) (hstack : g.stack = argsL.reverse ++ .ref a :: rest) (hW : 2 * g.monitorRoom + (rest.map fun v => v.category).sum ≤ W) (hdg : decode c.code g.pc = .ok (.invokevirtual index, 3)) :
    ∃ T', Stand p l e R s m args below meth c T' locs cells slots ∧ T'.heap = h ∧ ∀ target, Steps p.tables e below (T'.setTop { g with pc := g.pc + 3, stack := r.toList ++ rest }) target → Steps p.tables e below (T.setTop g) target := by
  obtain ⟨v, T', L, X', ⟨rfl, rfl, e1⟩, st⟩ := own_callV X hx hZ eT hown w1 wd ws w2 w3 w4 hy hE hM hf W hl hcR hsR hg hsize hlen hstack hW hdg
  rw [List.append_nil] at X'
  exact ⟨T', X', e1, st⟩
/-- an array of ints or bytes, its elements by a function -/
def own_A (Z : State) (h : Heap) (a : Addr) (ty : FieldType) (z : Int32) (f : Int32 → Int32) : Prop :=
  ∃ cl : Cell, Arr Z h a cl ty ∧ cl.slots.size = z.toNatClampNeg ∧ ¬ z < 0 ∧ ∀ j : Int32, ¬ j < 0 → j < z → cl.slots[j.toNatClampNeg]? = some (.int (f j))
section A
variable {h h' : Heap} {a b : Addr} {ty : FieldType} {z : Int32} {f : Int32 → Int32} {ws : List Addr} {sl : Nat} {v : Value}
theorem own_A.lt (F : own_A Z h a ty z f) : a < h.size := by obtain ⟨cl, A, -⟩ := F; exact A.lt
theorem own_A.ext (F : own_A Z h a ty z f) (E : Ext h h') : own_A Z h' a ty z f := by obtain ⟨cl, A, r⟩ := F; exact ⟨cl, A.ext E, r⟩
theorem own_A.other (F : own_A Z h a ty z f) (W : Wr h h' b sl v) (q : a ≠ b) : own_A Z h' a ty z f := by obtain ⟨cl, A, r⟩ := F; exact ⟨cl, A.other W q, r⟩
theorem own_A.keep (F : own_A Z h a ty z f) (K : Keep h h' ws) (q : a ∉ ws) : own_A Z h' a ty z f := by obtain ⟨cl, A, r⟩ := F; exact ⟨cl, ⟨K.2.1 a cl A.1 q, A.2⟩, r⟩
theorem own_A.cong (F : own_A Z h a ty z f) {f' : Int32 → Int32} (q : ∀ j : Int32, ¬ j < 0 → j < z → f j = f' j) : own_A Z h a ty z f' := by
  obtain ⟨cl, A, S, n, H⟩ := F
  exact ⟨cl, A, S, n, fun j h1 h2 => by rw [← q j h1 h2]; exact H j h1 h2⟩
theorem own_A.set (F : own_A Z h a ty z f) {j w : Int32} (h0 : ¬ j < 0) (hj : j < z) (W : Wr h h' a j.toNatClampNeg (.int w)) : own_A Z h' a ty z (fun i => if i = j then w else f i) := by
  obtain ⟨cl, A, S, n, H⟩ := F
  refine ⟨_, A.same W, by rw [sz_set]; exact S, n, fun i h1 h2 => ?_⟩
  by_cases q : i = j
  · rw [get_hit (inb_of S ⟨h0, hj⟩) q]; show _ = some (Value.int (if i = j then w else f i)); rw [if_pos q]
  · rw [get_miss h0 h1 q, H i h1 h2]; show _ = some (Value.int (if i = j then w else f i)); rw [if_neg q]
theorem own_A.new {k : ClassId} (A : Arr Z h a (newA k ty z) ty) (q : ¬ z < 0) (d : defaultValue ty = .int 0) : own_A Z h a ty z (fun _ => 0) :=
  ⟨_, A, sz_new _ _ _, q, fun j h1 h2 => by rw [get_new (by have := inb_of (sz_new k ty z) ⟨h1, h2⟩; rw [sz_new] at this; exact this), d]⟩
theorem own_A.nn (F : own_A Z h a ty z f) : ¬ z < 0 := by obtain ⟨cl, A, S, n, H⟩ := F; exact n
end A
theorem own_newI (X : Stand p l e R s m args below meth c T locs cells slots) (hx : p.tables.exec = Jvm.exec) (hZ : Z.Warmed39 s.vm) {h : Heap} (eT : T.heap = h) (w : (Cond.arrayClass .int).before a0 Z = true) {g : JFrame} (hg : g.method = m) (hd : decode c.code g.pc = .ok (.newarray .int, 2)) {n : Int32} {rest : List Value} (hs : g.stack = .int n :: rest)
    (hn : ¬ n < 0) (cap : Nat) (hcap : n.toNatClampNeg ≤ cap) (hb : cap * 8 ≤ 536870912) (hc : cells + 1 ≤ R.cells) (hl : slots + cap ≤ R.slots) :
    ∃ T' a, Stand p l e R s m args below meth c T' locs (cells + 1) (slots + cap) ∧ Ext h T'.heap ∧ a = h.size ∧ own_A Z T'.heap a .int n (fun _ => 0) ∧ ∀ target, Steps p.tables e below (T'.setTop { g with pc := g.pc + 2, stack := .ref a :: rest }) target → Steps p.tables e below (T.setTop g) target := by
  obtain ⟨T', h', cA, X', e1, E, A, st⟩ := newP (aty := .int) X hx hZ w eT hg hd hs hn hcap hb hc hl
  subst e1
  exact ⟨T', _, X', E, rfl, own_A.new A hn rfl, st⟩
theorem own_newB (X : Stand p l e R s m args below meth c T locs cells slots) (hx : p.tables.exec = Jvm.exec) (hZ : Z.Warmed39 s.vm) {h : Heap} (eT : T.heap = h) (w : (Cond.arrayClass .byte).before a0 Z = true) {g : JFrame} (hg : g.method = m) (hd : decode c.code g.pc = .ok (.newarray .byte, 2)) {n : Int32} {rest : List Value} (hs : g.stack = .int n :: rest)
    (hn : ¬ n < 0) (cap : Nat) (hcap : n.toNatClampNeg ≤ cap) (hb : cap * 8 ≤ 536870912) (hc : cells + 1 ≤ R.cells) (hl : slots + cap ≤ R.slots) :
    ∃ T' a, Stand p l e R s m args below meth c T' locs (cells + 1) (slots + cap) ∧ Ext h T'.heap ∧ a = h.size ∧ own_A Z T'.heap a .byte n (fun _ => 0) ∧ ∀ target, Steps p.tables e below (T'.setTop { g with pc := g.pc + 2, stack := .ref a :: rest }) target → Steps p.tables e below (T.setTop g) target := by
  obtain ⟨T', h', cA, X', e1, E, A, st⟩ := newP (aty := .byte) X hx hZ w eT hg hd hs hn hcap hb hc hl
  subst e1
  exact ⟨T', _, X', E, rfl, own_A.new A hn rfl, st⟩
theorem own_stI (X : Stand p l e R s m args below meth c T locs cells slots) (hx : p.tables.exec = Jvm.exec) (hZ : Z.Warmed39 s.vm) {h : Heap} (eT : T.heap = h) {a : Addr} {z : Int32} {f : Int32 → Int32} (F : own_A Z h a .int z f) {j x : Int32} (h0 : ¬ j < 0) (hj : j < z) {g : JFrame} (hg : g.method = m) {rest : List Value} (hs : g.stack = .int x :: .int j :: .ref a :: rest) (hd : decode c.code g.pc = .ok (.iastore, 1)) :
    ∃ T', Stand p l e R s m args below meth c T' (locs ++ [⟨a, j.toNatClampNeg⟩]) cells slots ∧ Wr h T'.heap a j.toNatClampNeg (.int x) ∧ own_A Z T'.heap a .int z (fun i => if i = j then x else f i) ∧ ∀ target, Steps p.tables e below (T'.setTop { g with pc := g.pc + 1, stack := rest }) target → Steps p.tables e below (T.setTop g) target := by
  obtain ⟨cl, A, S, n, H⟩ := id F
  obtain ⟨T', h', X', e1, W, st⟩ := stI X hx hZ eT A (inb_of S ⟨h0, hj⟩) hg hs hd
  subst e1
  exact ⟨T', X', W, F.set h0 hj W, st⟩
theorem own_stB (X : Stand p l e R s m args below meth c T locs cells slots) (hx : p.tables.exec = Jvm.exec) (hZ : Z.Warmed39 s.vm) {h : Heap} (eT : T.heap = h) {a : Addr} {z : Int32} {f : Int32 → Int32} (F : own_A Z h a .byte z f) {j x : Int32} (h0 : ¬ j < 0) (hj : j < z) {g : JFrame} (hg : g.method = m) {rest : List Value} (hs : g.stack = .int x :: .int j :: .ref a :: rest) (hd : decode c.code g.pc = .ok (.bastore, 1)) :
    ∃ T', Stand p l e R s m args below meth c T' (locs ++ [⟨a, j.toNatClampNeg⟩]) cells slots ∧ Wr h T'.heap a j.toNatClampNeg (.int x.toInt8.toInt32) ∧ own_A Z T'.heap a .byte z (fun i => if i = j then x.toInt8.toInt32 else f i) ∧ ∀ target, Steps p.tables e below (T'.setTop { g with pc := g.pc + 1, stack := rest }) target → Steps p.tables e below (T.setTop g) target := by
  obtain ⟨cl, A, S, n, H⟩ := id F
  obtain ⟨T', h', X', e1, W, st⟩ := stB X hx hZ eT A (inb_of S ⟨h0, hj⟩) hg hs hd
  subst e1
  exact ⟨T', X', W, F.set h0 hj W, st⟩
theorem own_ldI (X : Stand p l e R s m args below meth c T locs cells slots) (hx : p.tables.exec = Jvm.exec) (hZ : Z.Warmed39 s.vm) {h : Heap} (eT : T.heap = h) {a : Addr} {z : Int32} {f : Int32 → Int32} (F : own_A Z h a .int z f) {j : Int32} (h0 : ¬ j < 0) (hj : j < z) {g : JFrame} (hg : g.method = m) {rest : List Value} (hs : g.stack = .int j :: .ref a :: rest) (hd : decode c.code g.pc = .ok (.iaload, 1)) :
    ∀ target, Steps p.tables e below (T.setTop { g with pc := g.pc + 1, stack := .int (f j) :: rest }) target → Steps p.tables e below (T.setTop g) target := by
  obtain ⟨cl, A, S, n, H⟩ := id F
  exact fun target q => X.iaload hx (by rw [eT]; exact A.1) (State.isArrayOf_alike hZ.alike A.2.1) A.2.2 (inb_of S ⟨h0, hj⟩) (H j h0 hj) hg hs hd target q
theorem own_ldB (X : Stand p l e R s m args below meth c T locs cells slots) (hx : p.tables.exec = Jvm.exec) (hZ : Z.Warmed39 s.vm) {h : Heap} (eT : T.heap = h) {a : Addr} {z : Int32} {f : Int32 → Int32} (F : own_A Z h a .byte z f) {j : Int32} (h0 : ¬ j < 0) (hj : j < z) {g : JFrame} (hg : g.method = m) {rest : List Value} (hs : g.stack = .int j :: .ref a :: rest) (hd : decode c.code g.pc = .ok (.baload, 1)) :
    ∀ target, Steps p.tables e below (T.setTop { g with pc := g.pc + 1, stack := .int (f j) :: rest }) target → Steps p.tables e below (T.setTop g) target := by
  obtain ⟨cl, A, S, n, H⟩ := id F
  exact fun target q => X.baloadBytes hx (by rw [eT]; exact A.1) (State.isArrayOf_alike hZ.alike A.2.1) A.2.2 (inb_of S ⟨h0, hj⟩) (H j h0 hj) hg hs hd target q
theorem own_len (X : Stand p l e R s m args below meth c T locs cells slots) (hx : p.tables.exec = Jvm.exec) (hZ : Z.Warmed39 s.vm) {h : Heap} (eT : T.heap = h) {a : Addr} {ty : FieldType} {z : Int32} {f : Int32 → Int32} (F : own_A Z h a ty z f) {g : JFrame} (hg : g.method = m) {rest : List Value} (hs : g.stack = .ref a :: rest) (hd : decode c.code g.pc = .ok (.arraylength, 1)) :
    ∀ target, Steps p.tables e below (T.setTop { g with pc := g.pc + 1, stack := .int z :: rest }) target → Steps p.tables e below (T.setTop g) target := by
  obtain ⟨cl, A, S, n, H⟩ := id F
  exact fun target q => X.arraylength hx (by rw [eT]; exact A.1) (State.isArrayOf_alike hZ.alike A.2.1) hg hs hd target (by rw [len_of S n]; exact q)
/-- fields -/
theorem own_getF (X : Stand p l e R s m args below meth c T locs cells slots) (hx : p.tables.exec = Jvm.exec) (hZ : Z.Warmed39 s.vm) {h : Heap} (eT : T.heap = h) {own O n d : String} {index : Nat} (hown : s.vm.findClass own = some m.cls) (w : (Cond.fieldLink own index O n d).before a0 Z = true)
    {a : Addr} {v : Value} (F : Fld Z h a O n d v) {g : JFrame} (hg : g.method = m) {rest : List Value} (hs : g.stack = .ref a :: rest) (hd : decode c.code g.pc = .ok (.getfield index, 3)) :
    ∃ T', Stand p l e R s m args below meth c T' locs cells slots ∧ T'.heap = h ∧ ∀ target, Steps p.tables e below (T'.setTop { g with pc := g.pc + 3, stack := v :: rest }) target → Steps p.tables e below (T.setTop g) target :=
  getF X hx hZ hown (host := "") (Or.inl w) Via.refl eT F hg hs hd
theorem own_putF (X : Stand p l e R s m args below meth c T locs cells slots) (hx : p.tables.exec = Jvm.exec) (hZ : Z.Warmed39 s.vm) {h : Heap} (eT : T.heap = h) {own O n d C : String} {index kk : Nat} {ty : FieldType} (hown : s.vm.findClass own = some m.cls) (w : (Cond.fieldLink own index O n d).before a0 Z = true)
    {a : Addr} {v old : Value} (F : Fld Z h a O n d old) (E : Exa Z h a C) (L : (Cond.lays C O n d).before a0 Z = true ∨ ((Cond.laysFinal C O n d).before a0 Z = true ∧ own = O ∧ meth.name = "<init>")) (wi : (Cond.instantiable C kk).before a0 Z = true)
    (hty : parseFieldDescriptor d = some ty) (hn : narrow ty v = v) (hf : fits ty v = true) {g : JFrame} (hg : g.method = m) {rest : List Value} (hs : g.stack = v :: .ref a :: rest) (hd : decode c.code g.pc = .ok (.putfield index, 3)) :
    ∃ T', Stand p l e R s m args below meth c T' (locs ++ [⟨a, slotOf Z O n d⟩]) cells slots ∧ Wr h T'.heap a (slotOf Z O n d) v ∧ ∀ target, Steps p.tables e below (T'.setTop { g with pc := g.pc + 3, stack := rest }) target → Steps p.tables e below (T.setTop g) target := by
  obtain ⟨T', h', X', e1, W, st⟩ := putF X hx hZ hown (host := "") (Or.inl w) Via.refl eT F E L wi hty hn hf hg hs hd
  subst e1
  exact ⟨T', X', W, st⟩
/-- comparisons with literals, through Int -/
theorem own_lt {x k : Int32} (K : Int) (hk : k.toInt = K) (h : x.toInt < K) : x < k := by rw [Int32.lt_iff_toInt_lt, hk]; exact h
theorem own_nlt {x k : Int32} (K : Int) (hk : k.toInt = K) (h : K ≤ x.toInt) : ¬ x < k := by rw [Int32.lt_iff_toInt_lt, hk]; omega
theorem own_gt {x k : Int32} (K : Int) (hk : k.toInt = K) (h : K < x.toInt) : k < x := by rw [Int32.lt_iff_toInt_lt, hk]; exact h
theorem own_ngt {x k : Int32} (K : Int) (hk : k.toInt = K) (h : x.toInt ≤ K) : ¬ k < x := by rw [Int32.lt_iff_toInt_lt, hk]; omega
theorem own_ieq {x k : Int32} (K : Int) (hk : k.toInt = K) (h : x.toInt = K) : x = k := Int32.toInt_inj.mp (by rw [hk]; exact h)
theorem own_ineq {x k : Int32} (K : Int) (hk : k.toInt = K) (h : x.toInt < K ∨ K < x.toInt) : ¬ x = k := fun q => by subst q; omega
end OwnKit
end Jvm.RoadKit
namespace Jvm.RoadKit
open Sem ClassFile Op Lib Jvm.Stand Jvm.Free Jvm.LawKit
theorem own_mask31 (b : Int32) : 0 ≤ (b &&& 2147483647).toInt := by
  have h := c_mask b 2147483647 31 (by decide) (by decide)
  rw [h]; exact Int.emod_nonneg _ (by decide)
theorem own_modpos (b k : Int32) (K : Int) (hk : k.toInt = K) (h0 : 0 < K) : 0 ≤ ((b &&& 2147483647) % k).toInt ∧ ((b &&& 2147483647) % k).toInt < K := by
  rw [(c_irem (b &&& 2147483647) k K hk).1 (own_mask31 b)]
  exact ⟨Int.emod_nonneg _ (by omega), Int.emod_lt_of_pos _ h0⟩
theorem own_maskpos (b m : Int32) (k : Nat) (hk : k ≤ 31) (hm : m.toBitVec.toNat = 2 ^ k - 1) (K : Int) (hK : K = ((2 ^ k : Nat) : Int)) (h0 : 0 < K) : 0 ≤ (b &&& m).toInt ∧ (b &&& m).toInt < K := by
  rw [c_mask b m k hk hm, ← hK]
  exact ⟨Int.emod_nonneg _ (by omega), Int.emod_lt_of_pos _ h0⟩
end Jvm.RoadKit
namespace Jvm.RoadKit
open Sem ClassFile Op Lib Jvm.Stand Jvm.Free Jvm.LawKit
theorem own_clamp (n : Int32) (k : Nat) (h : n.toInt ≤ k) : n.toNatClampNeg ≤ k := by
  show n.toInt.toNat ≤ k
  omega
theorem own_bb (x : Int32) : x.toInt8.toInt32.toInt8.toInt32 = x.toInt8.toInt32 := by rw [Int8.toInt8_toInt32]
theorem own_ltT {x y : Int32} (h : x < y) : x.toInt < y.toInt := Int32.lt_iff_toInt_lt.mp h
theorem own_nltT {x y : Int32} (h : ¬ x < y) : y.toInt ≤ x.toInt := by rw [Int32.lt_iff_toInt_lt] at h; omega
theorem own_Tlt {x y : Int32} (h : x.toInt < y.toInt) : x < y := Int32.lt_iff_toInt_lt.mpr h
theorem own_Tnlt {x y : Int32} (h : y.toInt ≤ x.toInt) : ¬ x < y := by rw [Int32.lt_iff_toInt_lt]; omega
theorem own_neT {x y : Int32} (h : ¬ x = y) : ¬ x.toInt = y.toInt := fun q => h (Int32.toInt_inj.mp q)
end Jvm.RoadKit
namespace Jvm.Pilot.@@N@@
open Jvm Jvm.ClassFile Sem Op Lib Jvm.Free Jvm.Stand Jvm.LawKit Jvm.RoadKit Bundle Jvm.Pilot.@@N@@.Jvm.D
theorem own_d7_0 : decode method_3_code 0 = .ok (.lload_n 0, 1) := by decide +kernel
theorem own_d7_1 : decode method_3_code 1 = .ok (.bipush 8, 2) := by decide +kernel
theorem own_d7_3 : decode method_3_code 3 = .ok (.iload_n 2, 1) := by decide +kernel
theorem own_d7_4 : decode method_3_code 4 = .ok (.imul, 1) := by decide +kernel
theorem own_d7_5 : decode method_3_code 5 = .ok (.lushr, 1) := by decide +kernel
theorem own_d7_6 : decode method_3_code 6 = .ok (.l2i, 1) := by decide +kernel
theorem own_d7_7 : decode method_3_code 7 = .ok (.i2b, 1) := by decide +kernel
theorem own_d7_8 : decode method_3_code 8 = .ok (.ireturn, 1) := by decide +kernel
theorem own_ef7 (x0 : Int64) (x1 : Int32) : ∀ m, entryFrame m #[(.long x0), (.int x1)] 3 = mkF m 0 #[.val (.long x0), .second, .val (.int x1)] [] := fun m => by first | (simp [entryFrame, mkF, argsToLocals, Value.category]; done) | rfl
def own_f7_0 (v0 : Int64) (v2 : Int32) : Int32 := (nar .byte ((((v0.toUInt64 >>> (((8 : Int32) * v2) &&& 0x3f).toInt64.toUInt64).toInt64).toInt32).toInt8.toInt32))
set_option maxRecDepth 65536 in
theorem own_b7_0 {l : Launch} {p : Program} {e : Env} {below : List Frame} {s : State} {m : MethodId} {meth : Method} {c : Code} {Z : State} {a0 args : Array Value} {T : State} {h0 : Heap} (X : Stand p l e ({ frames := 0, cells := 0, slots := 0, locals := 0 } : Room) s m args below meth c T [] 0 0) (C : own_Ctx p s m meth c Z a0 tables_1 (⟨"com/example/binlogue/binlogue/replication/AuthMethodXorPinLaw", "at", "(JI)B"⟩ : MethodName) method_3_code 3 (some .byte)) (hh : T.heap = h0) (v0 : Int64) (v2 : Int32) :
    own_Fin p e below s (own_QP (some (.int (own_f7_0 v0 v2))) h0) 0 0 (T.setTop (mkF m 0 #[.val (.long v0), .second, .val (.int v2)] [])) := by
  obtain ⟨hx, hby, hml, hZ, hown, hnm, hret, hlk, hw⟩ := id C
  refine own_go (fun tgt => XS.lloadN X.here hx rfl (hb hby own_d7_0) rfl) ?_
  show own_Fin p e below s (own_QP (some (.int (own_f7_0 v0 v2))) h0) 0 0 (T.setTop (mkF m 1 #[.val (.long v0), .second, .val (.int v2)] [(.long v0)]))
  refine own_go (fun tgt => XS.bipush X.here hx rfl (hb hby own_d7_1)) ?_
  show own_Fin p e below s (own_QP (some (.int (own_f7_0 v0 v2))) h0) 0 0 (T.setTop (mkF m 3 #[.val (.long v0), .second, .val (.int v2)] [(.int (8 : Int32)), (.long v0)]))
  refine own_go (fun tgt => XS.iloadN X.here hx rfl (hb hby own_d7_3) rfl) ?_
  show own_Fin p e below s (own_QP (some (.int (own_f7_0 v0 v2))) h0) 0 0 (T.setTop (mkF m 4 #[.val (.long v0), .second, .val (.int v2)] [(.int v2), (.int (8 : Int32)), (.long v0)]))
  refine own_go (fun tgt => XS.imul X.here hx rfl (hb hby own_d7_4) rfl) ?_
  show own_Fin p e below s (own_QP (some (.int (own_f7_0 v0 v2))) h0) 0 0 (T.setTop (mkF m 5 #[.val (.long v0), .second, .val (.int v2)] [(.int ((8 : Int32) * v2)), (.long v0)]))
  refine own_go (fun tgt => XS.lushr X.here hx rfl (hb hby own_d7_5) rfl) ?_
  show own_Fin p e below s (own_QP (some (.int (own_f7_0 v0 v2))) h0) 0 0 (T.setTop (mkF m 6 #[.val (.long v0), .second, .val (.int v2)] [(.long ((v0.toUInt64 >>> (((8 : Int32) * v2) &&& 0x3f).toInt64.toUInt64).toInt64))]))
  refine own_go (fun tgt => XS.l2i X.here hx rfl (hb hby own_d7_6) rfl) ?_
  show own_Fin p e below s (own_QP (some (.int (own_f7_0 v0 v2))) h0) 0 0 (T.setTop (mkF m 7 #[.val (.long v0), .second, .val (.int v2)] [(.int (((v0.toUInt64 >>> (((8 : Int32) * v2) &&& 0x3f).toInt64.toUInt64).toInt64).toInt32))]))
  refine own_go (fun tgt => XS.i2b X.here hx rfl (hb hby own_d7_7) rfl) ?_
  show own_Fin p e below s (own_QP (some (.int (own_f7_0 v0 v2))) h0) 0 0 (T.setTop (mkF m 8 #[.val (.long v0), .second, .val (.int v2)] [(.int ((((v0.toUInt64 >>> (((8 : Int32) * v2) &&& 0x3f).toInt64.toUInt64).toInt64).toInt32).toInt8.toInt32))]))
  exact own_retN X hlk hx (t := .byte) hret (by simp) (hb hby own_d7_8) ⟨rfl, rfl, hh⟩ (by decide) (by decide)
theorem own_pn0 : plainName "com/example/binlogue/binlogue/replication/AuthMethodXorPinLaw" = true := by first | (simp [plainName, overriddenIn]; done) | decide +kernel
theorem own_c7 (l : Launch) (Z : State) (a0 : Array Value) (hw : ∀ d ∈ tables_1, d.before a0 Z = true) (x0 : Int64) (x1 : Int32) (h0 : Heap) : own_Met l Z (⟨"com/example/binlogue/binlogue/replication/AuthMethodXorPinLaw", "at", "(JI)B"⟩ : MethodName) method_3_code 3 (some .byte) [] ({ frames := 0, cells := 0, slots := 0, locals := 0 } : Room) #[(.long x0), (.int x1)] h0 (own_QP (some (.int (own_f7_0 x0 x1))) h0) :=
  own_enter (plainFor_of_name own_pn0) (own_ef7 x0 x1) hw (fun p e s m below meth c T X C hh => own_b7_0 X C hh x0 x1)
theorem own_atb (v : Int64) (j : Int32) : (own_f7_0 v j).toInt8.toInt32 = own_f7_0 v j := own_bb _
def own_QF (Z : State) (a : Addr) (z : Int32) (f : Int32 → Int32) (h0 : Heap) (n0 : Nat) (v : Option Value) (h : Heap) (L : List Loc) : Prop := v = none ∧ Fr n0 L ∧ Keep h0 h [a] ∧ own_A Z h a .byte z f
theorem own_d1_0 : decode method_4_code 0 = .ok (.aload_n 0, 1) := by decide +kernel
theorem own_d1_1 : decode method_4_code 1 = .ok (.arraylength, 1) := by decide +kernel
theorem own_d1_2 : decode method_4_code 2 = .ok (.ifCond .le 11, 3) := by decide +kernel
theorem own_d1_5 : decode method_4_code 5 = .ok (.aload_n 0, 1) := by decide +kernel
theorem own_d1_6 : decode method_4_code 6 = .ok (.iconst 0, 1) := by decide +kernel
theorem own_d1_7 : decode method_4_code 7 = .ok (.lload_n 1, 1) := by decide +kernel
theorem own_d1_8 : decode method_4_code 8 = .ok (.iconst 0, 1) := by decide +kernel
theorem own_d1_9 : decode method_4_code 9 = .ok (.invokestatic 28, 3) := by decide +kernel
theorem own_d1_12 : decode method_4_code 12 = .ok (.bastore, 1) := by decide +kernel
theorem own_d1_13 : decode method_4_code 13 = .ok (.aload_n 0, 1) := by decide +kernel
theorem own_d1_14 : decode method_4_code 14 = .ok (.arraylength, 1) := by decide +kernel
theorem own_d1_15 : decode method_4_code 15 = .ok (.iconst 1, 1) := by decide +kernel
theorem own_d1_16 : decode method_4_code 16 = .ok (.if_icmp .le 11, 3) := by decide +kernel
theorem own_d1_19 : decode method_4_code 19 = .ok (.aload_n 0, 1) := by decide +kernel
theorem own_d1_20 : decode method_4_code 20 = .ok (.iconst 1, 1) := by decide +kernel
theorem own_d1_21 : decode method_4_code 21 = .ok (.lload_n 1, 1) := by decide +kernel
theorem own_d1_22 : decode method_4_code 22 = .ok (.iconst 1, 1) := by decide +kernel
theorem own_d1_23 : decode method_4_code 23 = .ok (.invokestatic 28, 3) := by decide +kernel
theorem own_d1_26 : decode method_4_code 26 = .ok (.bastore, 1) := by decide +kernel
theorem own_d1_27 : decode method_4_code 27 = .ok (.aload_n 0, 1) := by decide +kernel
theorem own_d1_28 : decode method_4_code 28 = .ok (.arraylength, 1) := by decide +kernel
theorem own_d1_29 : decode method_4_code 29 = .ok (.iconst 2, 1) := by decide +kernel
theorem own_d1_30 : decode method_4_code 30 = .ok (.if_icmp .le 11, 3) := by decide +kernel
theorem own_d1_33 : decode method_4_code 33 = .ok (.aload_n 0, 1) := by decide +kernel
theorem own_d1_34 : decode method_4_code 34 = .ok (.iconst 2, 1) := by decide +kernel
theorem own_d1_35 : decode method_4_code 35 = .ok (.lload_n 1, 1) := by decide +kernel
theorem own_d1_36 : decode method_4_code 36 = .ok (.iconst 2, 1) := by decide +kernel
theorem own_d1_37 : decode method_4_code 37 = .ok (.invokestatic 28, 3) := by decide +kernel
theorem own_d1_40 : decode method_4_code 40 = .ok (.bastore, 1) := by decide +kernel
theorem own_d1_41 : decode method_4_code 41 = .ok (.aload_n 0, 1) := by decide +kernel
theorem own_d1_42 : decode method_4_code 42 = .ok (.arraylength, 1) := by decide +kernel
theorem own_d1_43 : decode method_4_code 43 = .ok (.iconst 3, 1) := by decide +kernel
theorem own_d1_44 : decode method_4_code 44 = .ok (.if_icmp .le 11, 3) := by decide +kernel
theorem own_d1_47 : decode method_4_code 47 = .ok (.aload_n 0, 1) := by decide +kernel
theorem own_d1_48 : decode method_4_code 48 = .ok (.iconst 3, 1) := by decide +kernel
theorem own_d1_49 : decode method_4_code 49 = .ok (.lload_n 1, 1) := by decide +kernel
theorem own_d1_50 : decode method_4_code 50 = .ok (.iconst 3, 1) := by decide +kernel
theorem own_d1_51 : decode method_4_code 51 = .ok (.invokestatic 28, 3) := by decide +kernel
theorem own_d1_54 : decode method_4_code 54 = .ok (.bastore, 1) := by decide +kernel
theorem own_d1_55 : decode method_4_code 55 = .ok (.aload_n 0, 1) := by decide +kernel
theorem own_d1_56 : decode method_4_code 56 = .ok (.arraylength, 1) := by decide +kernel
theorem own_d1_57 : decode method_4_code 57 = .ok (.iconst 4, 1) := by decide +kernel
theorem own_d1_58 : decode method_4_code 58 = .ok (.if_icmp .le 11, 3) := by decide +kernel
theorem own_d1_61 : decode method_4_code 61 = .ok (.aload_n 0, 1) := by decide +kernel
theorem own_d1_62 : decode method_4_code 62 = .ok (.iconst 4, 1) := by decide +kernel
theorem own_d1_63 : decode method_4_code 63 = .ok (.lload_n 1, 1) := by decide +kernel
theorem own_d1_64 : decode method_4_code 64 = .ok (.iconst 4, 1) := by decide +kernel
theorem own_d1_65 : decode method_4_code 65 = .ok (.invokestatic 28, 3) := by decide +kernel
theorem own_d1_68 : decode method_4_code 68 = .ok (.bastore, 1) := by decide +kernel
theorem own_d1_69 : decode method_4_code 69 = .ok (.return_, 1) := by decide +kernel
theorem own_pd0 : parseMethodDescriptor "(JI)B" = some ⟨[.long, .int], some .byte⟩ := by decide +kernel
theorem own_ef1 (x0 : Addr) (x1 : Int64) : ∀ m, entryFrame m #[(.ref x0), (.long x1)] 3 = mkF m 0 #[.val (.ref x0), .val (.long x1), .second] [] := fun m => by first | (simp [entryFrame, mkF, argsToLocals, Value.category]; done) | rfl
set_option maxRecDepth 65536 in
set_option maxHeartbeats 40000000 in
theorem own_fill_w {l : Launch} {p : Program} {e : Env} {below : List Frame} {s : State} {m : MethodId} {meth : Method} {c : Code} {Z : State} {a0 args : Array Value} {T : State} {h0 : Heap} (X : Stand p l e ({ frames := 1, cells := 0, slots := 0, locals := 18 } : Room) s m args below meth c T [] 0 0) (C : own_Ctx p s m meth c Z a0 tables_1 (⟨"com/example/binlogue/binlogue/replication/AuthMethodXorPinLaw", "fill", "([BJ)V"⟩ : MethodName) method_4_code 3 none) (hh : T.heap = h0) (x0 : Addr) (x1 : Int64) (z : Int32) (f : Int32 → Int32) (n0 : Nat) (Z0 : n0 ≤ h0.size) (g0 : n0 ≤ x0) (hA : own_A Z h0 x0 .byte z f) (hz : z.toInt ≤ 5) :
    own_Fin p e below s (own_QF Z x0 z (fun j => own_f7_0 x1 j) h0 n0) 0 0 (T.setTop (mkF m 0 #[.val (.ref x0), .val (.long x1), .second] [])) := by
  obtain ⟨hx, hby, hml, hZ, hown, hnm, hret, hlk, hw⟩ := id C
  show own_Fin p e below s (own_QF Z x0 z (fun j => own_f7_0 x1 j) h0 n0) 0 0 (T.setTop (mkF m 0 #[.val (.ref x0), .val (.long x1), .second] []))
  have J5 : ∀ (U : State) (L : List Loc) (g : Int32 → Int32), Stand p l e ({ frames := 1, cells := 0, slots := 0, locals := 18 } : Room) s m args below meth c U L 0 0 → Fr n0 L → Keep h0 U.heap [x0] → own_A Z U.heap x0 .byte z g → (∀ j : Int32, ¬ j < 0 → j < z → j.toInt < 5 → g j = own_f7_0 x1 j) → own_Fin p e below s (own_QF Z x0 z (fun j => own_f7_0 x1 j) h0 n0) 0 0 (U.setTop (mkF m 69 #[.val (.ref x0), .val (.long x1), .second] [])) := by
    intro U L g Y N K A hg
    show own_Fin p e below s (own_QF Z x0 z (fun j => own_f7_0 x1 j) h0 n0) 0 0 (U.setTop (mkF m 69 #[.val (.ref x0), .val (.long x1), .second] []))
    exact own_ret0 Y hlk hx hret (hb hby own_d1_69) ⟨rfl, N, K, A.cong (fun j h1 h2 => hg j h1 h2 (by have := own_ltT h2; omega))⟩ (by decide) (by decide)
  have J4 : ∀ (U : State) (L : List Loc) (g : Int32 → Int32), Stand p l e ({ frames := 1, cells := 0, slots := 0, locals := 18 } : Room) s m args below meth c U L 0 0 → Fr n0 L → Keep h0 U.heap [x0] → own_A Z U.heap x0 .byte z g → (∀ j : Int32, ¬ j < 0 → j < z → j.toInt < 4 → g j = own_f7_0 x1 j) → own_Fin p e below s (own_QF Z x0 z (fun j => own_f7_0 x1 j) h0 n0) 0 0 (U.setTop (mkF m 55 #[.val (.ref x0), .val (.long x1), .second] [])) := by
    intro U L g Y N K A hg
    show own_Fin p e below s (own_QF Z x0 z (fun j => own_f7_0 x1 j) h0 n0) 0 0 (U.setTop (mkF m 55 #[.val (.ref x0), .val (.long x1), .second] []))
    refine own_go (fun tgt => XS.aloadN Y.here hx rfl (hb hby own_d1_55) rfl rfl) ?_
    show own_Fin p e below s (own_QF Z x0 z (fun j => own_f7_0 x1 j) h0 n0) 0 0 (U.setTop (mkF m 56 #[.val (.ref x0), .val (.long x1), .second] [(.ref x0)]))
    refine own_go (own_len Y hx hZ rfl A (g := (mkF m 56 #[.val (.ref x0), .val (.long x1), .second] [(.ref x0)])) rfl rfl (hb hby own_d1_56)) ?_
    show own_Fin p e below s (own_QF Z x0 z (fun j => own_f7_0 x1 j) h0 n0) 0 0 (U.setTop (mkF m 57 #[.val (.ref x0), .val (.long x1), .second] [(.int z)]))
    refine own_go (fun tgt => XS.iconst Y.here hx rfl (hb hby own_d1_57)) ?_
    show own_Fin p e below s (own_QF Z x0 z (fun j => own_f7_0 x1 j) h0 n0) 0 0 (U.setTop (mkF m 58 #[.val (.ref x0), .val (.long x1), .second] [(.int (4 : Int32)), (.int z)]))
    by_cases hbr : (4 : Int32) < z
    · refine own_go (fun tgt => XS.icmpNo Y.here hx rfl (hb hby own_d1_58) rfl (tlt hbr).2.2.2) ?_
      show own_Fin p e below s (own_QF Z x0 z (fun j => own_f7_0 x1 j) h0 n0) 0 0 (U.setTop (mkF m 61 #[.val (.ref x0), .val (.long x1), .second] []))
      refine own_go (fun tgt => XS.aloadN Y.here hx rfl (hb hby own_d1_61) rfl rfl) ?_
      show own_Fin p e below s (own_QF Z x0 z (fun j => own_f7_0 x1 j) h0 n0) 0 0 (U.setTop (mkF m 62 #[.val (.ref x0), .val (.long x1), .second] [(.ref x0)]))
      refine own_go (fun tgt => XS.iconst Y.here hx rfl (hb hby own_d1_62)) ?_
      show own_Fin p e below s (own_QF Z x0 z (fun j => own_f7_0 x1 j) h0 n0) 0 0 (U.setTop (mkF m 63 #[.val (.ref x0), .val (.long x1), .second] [(.int (4 : Int32)), (.ref x0)]))
      refine own_go (fun tgt => XS.lloadN Y.here hx rfl (hb hby own_d1_63) rfl) ?_
      show own_Fin p e below s (own_QF Z x0 z (fun j => own_f7_0 x1 j) h0 n0) 0 0 (U.setTop (mkF m 64 #[.val (.ref x0), .val (.long x1), .second] [(.long x1), (.int (4 : Int32)), (.ref x0)]))
      refine own_go (fun tgt => XS.iconst Y.here hx rfl (hb hby own_d1_64)) ?_
      show own_Fin p e below s (own_QF Z x0 z (fun j => own_f7_0 x1 j) h0 n0) 0 0 (U.setTop (mkF m 65 #[.val (.ref x0), .val (.long x1), .second] [(.int (4 : Int32)), (.long x1), (.int (4 : Int32)), (.ref x0)]))
      obtain ⟨T201i4, X201i4, e201i4, st201i4⟩ := own_callP Y hx hZ rfl (y := (⟨"com/example/binlogue/binlogue/replication/AuthMethodXorPinLaw", "at", "(JI)B"⟩ : MethodName)) hown (hw _ (List.mem_of_getElem? (i := 22) rfl)) (hw _ (List.mem_of_getElem? (i := 23) rfl)) (hw _ (List.mem_of_getElem? (i := 4) rfl)) (hw _ (List.mem_of_getElem? (i := 24) rfl)) (by decide) (argsL := [(.long x1), (.int (4 : Int32))]) (rest := [(.int (4 : Int32)), (.ref x0)]) (own_c7 l Z a0 hw x1 (4 : Int32) _) (by decide) 2 (by decide) (by decide) (by decide) (g := (mkF m 65 #[.val (.ref x0), .val (.long x1), .second] [(.int (4 : Int32)), (.long x1), (.int (4 : Int32)), (.ref x0)])) rfl (by rw [hml]; rfl) (lenOf own_pd0 rfl) rfl (by show 2 * 0 + _ ≤ _; exact Nat.le_of_eq rfl) (hb hby own_d1_65)
      refine own_go st201i4 ?_
      show own_Fin p e below s (own_QF Z x0 z (fun j => own_f7_0 x1 j) h0 n0) 0 0 (T201i4.setTop (mkF m 68 #[.val (.ref x0), .val (.long x1), .second] [(.int (own_f7_0 x1 (4 : Int32))), (.int (4 : Int32)), (.ref x0)]))
      have A2 := A
      obtain ⟨T202i4, X202i4, W202i4, A202i4, st202i4⟩ := own_stB X201i4 hx hZ e201i4 A (by decide) hbr (g := (mkF m 68 #[.val (.ref x0), .val (.long x1), .second] [(.int (own_f7_0 x1 (4 : Int32))), (.int (4 : Int32)), (.ref x0)])) rfl rfl (hb hby own_d1_68)
      have N202i4 := Fr.snoc X202i4 N g0
      have KK202i4 := K.wr W202i4 (Or.inl (List.mem_of_getElem? (i := 0) rfl))
      refine own_go st202i4 ?_
      show own_Fin p e below s (own_QF Z x0 z (fun j => own_f7_0 x1 j) h0 n0) 0 0 (T202i4.setTop (mkF m 69 #[.val (.ref x0), .val (.long x1), .second] []))
      exact J5 _ _ _ X202i4 N202i4 KK202i4 A202i4 (fun j h1 h2 h3 => by
        by_cases q : j = (4 : Int32)
        · show (if j = (4 : Int32) then _ else _) = _
          rw [if_pos q, q]; exact own_atb _ _
        · show (if j = (4 : Int32) then _ else _) = _
          rw [if_neg q]; exact hg j h1 h2 (by have := own_neT q; have k : (4 : Int32).toInt = 4 := (by decide); omega))
    · refine own_go (fun tgt => XS.icmpYes Y.here hx rfl (pc0 := 58) (pc' := 69) rfl (hb hby own_d1_58) rfl (flt hbr).2.2.2 (by decide) (by decide)) ?_
      show own_Fin p e below s (own_QF Z x0 z (fun j => own_f7_0 x1 j) h0 n0) 0 0 (U.setTop (mkF m 69 #[.val (.ref x0), .val (.long x1), .second] []))
      exact J5 _ _ _ Y N K A (fun j h1 h2 h3 => hg j h1 h2 (by have := own_ltT h2; have := own_nltT hbr; have k : (4 : Int32).toInt = 4 := (by decide); omega))
  have J3 : ∀ (U : State) (L : List Loc) (g : Int32 → Int32), Stand p l e ({ frames := 1, cells := 0, slots := 0, locals := 18 } : Room) s m args below meth c U L 0 0 → Fr n0 L → Keep h0 U.heap [x0] → own_A Z U.heap x0 .byte z g → (∀ j : Int32, ¬ j < 0 → j < z → j.toInt < 3 → g j = own_f7_0 x1 j) → own_Fin p e below s (own_QF Z x0 z (fun j => own_f7_0 x1 j) h0 n0) 0 0 (U.setTop (mkF m 41 #[.val (.ref x0), .val (.long x1), .second] [])) := by
    intro U L g Y N K A hg
    show own_Fin p e below s (own_QF Z x0 z (fun j => own_f7_0 x1 j) h0 n0) 0 0 (U.setTop (mkF m 41 #[.val (.ref x0), .val (.long x1), .second] []))
    refine own_go (fun tgt => XS.aloadN Y.here hx rfl (hb hby own_d1_41) rfl rfl) ?_
    show own_Fin p e below s (own_QF Z x0 z (fun j => own_f7_0 x1 j) h0 n0) 0 0 (U.setTop (mkF m 42 #[.val (.ref x0), .val (.long x1), .second] [(.ref x0)]))
    refine own_go (own_len Y hx hZ rfl A (g := (mkF m 42 #[.val (.ref x0), .val (.long x1), .second] [(.ref x0)])) rfl rfl (hb hby own_d1_42)) ?_
    show own_Fin p e below s (own_QF Z x0 z (fun j => own_f7_0 x1 j) h0 n0) 0 0 (U.setTop (mkF m 43 #[.val (.ref x0), .val (.long x1), .second] [(.int z)]))
    refine own_go (fun tgt => XS.iconst Y.here hx rfl (hb hby own_d1_43)) ?_
    show own_Fin p e below s (own_QF Z x0 z (fun j => own_f7_0 x1 j) h0 n0) 0 0 (U.setTop (mkF m 44 #[.val (.ref x0), .val (.long x1), .second] [(.int (3 : Int32)), (.int z)]))
    by_cases hbr : (3 : Int32) < z
    · refine own_go (fun tgt => XS.icmpNo Y.here hx rfl (hb hby own_d1_44) rfl (tlt hbr).2.2.2) ?_
      show own_Fin p e below s (own_QF Z x0 z (fun j => own_f7_0 x1 j) h0 n0) 0 0 (U.setTop (mkF m 47 #[.val (.ref x0), .val (.long x1), .second] []))
      refine own_go (fun tgt => XS.aloadN Y.here hx rfl (hb hby own_d1_47) rfl rfl) ?_
      show own_Fin p e below s (own_QF Z x0 z (fun j => own_f7_0 x1 j) h0 n0) 0 0 (U.setTop (mkF m 48 #[.val (.ref x0), .val (.long x1), .second] [(.ref x0)]))
      refine own_go (fun tgt => XS.iconst Y.here hx rfl (hb hby own_d1_48)) ?_
      show own_Fin p e below s (own_QF Z x0 z (fun j => own_f7_0 x1 j) h0 n0) 0 0 (U.setTop (mkF m 49 #[.val (.ref x0), .val (.long x1), .second] [(.int (3 : Int32)), (.ref x0)]))
      refine own_go (fun tgt => XS.lloadN Y.here hx rfl (hb hby own_d1_49) rfl) ?_
      show own_Fin p e below s (own_QF Z x0 z (fun j => own_f7_0 x1 j) h0 n0) 0 0 (U.setTop (mkF m 50 #[.val (.ref x0), .val (.long x1), .second] [(.long x1), (.int (3 : Int32)), (.ref x0)]))
      refine own_go (fun tgt => XS.iconst Y.here hx rfl (hb hby own_d1_50)) ?_
      show own_Fin p e below s (own_QF Z x0 z (fun j => own_f7_0 x1 j) h0 n0) 0 0 (U.setTop (mkF m 51 #[.val (.ref x0), .val (.long x1), .second] [(.int (3 : Int32)), (.long x1), (.int (3 : Int32)), (.ref x0)]))
      obtain ⟨T201i3, X201i3, e201i3, st201i3⟩ := own_callP Y hx hZ rfl (y := (⟨"com/example/binlogue/binlogue/replication/AuthMethodXorPinLaw", "at", "(JI)B"⟩ : MethodName)) hown (hw _ (List.mem_of_getElem? (i := 22) rfl)) (hw _ (List.mem_of_getElem? (i := 23) rfl)) (hw _ (List.mem_of_getElem? (i := 4) rfl)) (hw _ (List.mem_of_getElem? (i := 24) rfl)) (by decide) (argsL := [(.long x1), (.int (3 : Int32))]) (rest := [(.int (3 : Int32)), (.ref x0)]) (own_c7 l Z a0 hw x1 (3 : Int32) _) (by decide) 2 (by decide) (by decide) (by decide) (g := (mkF m 51 #[.val (.ref x0), .val (.long x1), .second] [(.int (3 : Int32)), (.long x1), (.int (3 : Int32)), (.ref x0)])) rfl (by rw [hml]; rfl) (lenOf own_pd0 rfl) rfl (by show 2 * 0 + _ ≤ _; exact Nat.le_of_eq rfl) (hb hby own_d1_51)
      refine own_go st201i3 ?_
      show own_Fin p e below s (own_QF Z x0 z (fun j => own_f7_0 x1 j) h0 n0) 0 0 (T201i3.setTop (mkF m 54 #[.val (.ref x0), .val (.long x1), .second] [(.int (own_f7_0 x1 (3 : Int32))), (.int (3 : Int32)), (.ref x0)]))
      have A2 := A
      obtain ⟨T202i3, X202i3, W202i3, A202i3, st202i3⟩ := own_stB X201i3 hx hZ e201i3 A (by decide) hbr (g := (mkF m 54 #[.val (.ref x0), .val (.long x1), .second] [(.int (own_f7_0 x1 (3 : Int32))), (.int (3 : Int32)), (.ref x0)])) rfl rfl (hb hby own_d1_54)
      have N202i3 := Fr.snoc X202i3 N g0
      have KK202i3 := K.wr W202i3 (Or.inl (List.mem_of_getElem? (i := 0) rfl))
      refine own_go st202i3 ?_
      show own_Fin p e below s (own_QF Z x0 z (fun j => own_f7_0 x1 j) h0 n0) 0 0 (T202i3.setTop (mkF m 55 #[.val (.ref x0), .val (.long x1), .second] []))
      exact J4 _ _ _ X202i3 N202i3 KK202i3 A202i3 (fun j h1 h2 h3 => by
        by_cases q : j = (3 : Int32)
        · show (if j = (3 : Int32) then _ else _) = _
          rw [if_pos q, q]; exact own_atb _ _
        · show (if j = (3 : Int32) then _ else _) = _
          rw [if_neg q]; exact hg j h1 h2 (by have := own_neT q; have k : (3 : Int32).toInt = 3 := (by decide); omega))
    · refine own_go (fun tgt => XS.icmpYes Y.here hx rfl (pc0 := 44) (pc' := 55) rfl (hb hby own_d1_44) rfl (flt hbr).2.2.2 (by decide) (by decide)) ?_
      show own_Fin p e below s (own_QF Z x0 z (fun j => own_f7_0 x1 j) h0 n0) 0 0 (U.setTop (mkF m 55 #[.val (.ref x0), .val (.long x1), .second] []))
      exact J4 _ _ _ Y N K A (fun j h1 h2 h3 => hg j h1 h2 (by have := own_ltT h2; have := own_nltT hbr; have k : (3 : Int32).toInt = 3 := (by decide); omega))
  have J2 : ∀ (U : State) (L : List Loc) (g : Int32 → Int32), Stand p l e ({ frames := 1, cells := 0, slots := 0, locals := 18 } : Room) s m args below meth c U L 0 0 → Fr n0 L → Keep h0 U.heap [x0] → own_A Z U.heap x0 .byte z g → (∀ j : Int32, ¬ j < 0 → j < z → j.toInt < 2 → g j = own_f7_0 x1 j) → own_Fin p e below s (own_QF Z x0 z (fun j => own_f7_0 x1 j) h0 n0) 0 0 (U.setTop (mkF m 27 #[.val (.ref x0), .val (.long x1), .second] [])) := by
    intro U L g Y N K A hg
    show own_Fin p e below s (own_QF Z x0 z (fun j => own_f7_0 x1 j) h0 n0) 0 0 (U.setTop (mkF m 27 #[.val (.ref x0), .val (.long x1), .second] []))
    refine own_go (fun tgt => XS.aloadN Y.here hx rfl (hb hby own_d1_27) rfl rfl) ?_
    show own_Fin p e below s (own_QF Z x0 z (fun j => own_f7_0 x1 j) h0 n0) 0 0 (U.setTop (mkF m 28 #[.val (.ref x0), .val (.long x1), .second] [(.ref x0)]))
    refine own_go (own_len Y hx hZ rfl A (g := (mkF m 28 #[.val (.ref x0), .val (.long x1), .second] [(.ref x0)])) rfl rfl (hb hby own_d1_28)) ?_
    show own_Fin p e below s (own_QF Z x0 z (fun j => own_f7_0 x1 j) h0 n0) 0 0 (U.setTop (mkF m 29 #[.val (.ref x0), .val (.long x1), .second] [(.int z)]))
    refine own_go (fun tgt => XS.iconst Y.here hx rfl (hb hby own_d1_29)) ?_
    show own_Fin p e below s (own_QF Z x0 z (fun j => own_f7_0 x1 j) h0 n0) 0 0 (U.setTop (mkF m 30 #[.val (.ref x0), .val (.long x1), .second] [(.int (2 : Int32)), (.int z)]))
    by_cases hbr : (2 : Int32) < z
    · refine own_go (fun tgt => XS.icmpNo Y.here hx rfl (hb hby own_d1_30) rfl (tlt hbr).2.2.2) ?_
      show own_Fin p e below s (own_QF Z x0 z (fun j => own_f7_0 x1 j) h0 n0) 0 0 (U.setTop (mkF m 33 #[.val (.ref x0), .val (.long x1), .second] []))
      refine own_go (fun tgt => XS.aloadN Y.here hx rfl (hb hby own_d1_33) rfl rfl) ?_
      show own_Fin p e below s (own_QF Z x0 z (fun j => own_f7_0 x1 j) h0 n0) 0 0 (U.setTop (mkF m 34 #[.val (.ref x0), .val (.long x1), .second] [(.ref x0)]))
      refine own_go (fun tgt => XS.iconst Y.here hx rfl (hb hby own_d1_34)) ?_
      show own_Fin p e below s (own_QF Z x0 z (fun j => own_f7_0 x1 j) h0 n0) 0 0 (U.setTop (mkF m 35 #[.val (.ref x0), .val (.long x1), .second] [(.int (2 : Int32)), (.ref x0)]))
      refine own_go (fun tgt => XS.lloadN Y.here hx rfl (hb hby own_d1_35) rfl) ?_
      show own_Fin p e below s (own_QF Z x0 z (fun j => own_f7_0 x1 j) h0 n0) 0 0 (U.setTop (mkF m 36 #[.val (.ref x0), .val (.long x1), .second] [(.long x1), (.int (2 : Int32)), (.ref x0)]))
      refine own_go (fun tgt => XS.iconst Y.here hx rfl (hb hby own_d1_36)) ?_
      show own_Fin p e below s (own_QF Z x0 z (fun j => own_f7_0 x1 j) h0 n0) 0 0 (U.setTop (mkF m 37 #[.val (.ref x0), .val (.long x1), .second] [(.int (2 : Int32)), (.long x1), (.int (2 : Int32)), (.ref x0)]))
      obtain ⟨T201i2, X201i2, e201i2, st201i2⟩ := own_callP Y hx hZ rfl (y := (⟨"com/example/binlogue/binlogue/replication/AuthMethodXorPinLaw", "at", "(JI)B"⟩ : MethodName)) hown (hw _ (List.mem_of_getElem? (i := 22) rfl)) (hw _ (List.mem_of_getElem? (i := 23) rfl)) (hw _ (List.mem_of_getElem? (i := 4) rfl)) (hw _ (List.mem_of_getElem? (i := 24) rfl)) (by decide) (argsL := [(.long x1), (.int (2 : Int32))]) (rest := [(.int (2 : Int32)), (.ref x0)]) (own_c7 l Z a0 hw x1 (2 : Int32) _) (by decide) 2 (by decide) (by decide) (by decide) (g := (mkF m 37 #[.val (.ref x0), .val (.long x1), .second] [(.int (2 : Int32)), (.long x1), (.int (2 : Int32)), (.ref x0)])) rfl (by rw [hml]; rfl) (lenOf own_pd0 rfl) rfl (by show 2 * 0 + _ ≤ _; exact Nat.le_of_eq rfl) (hb hby own_d1_37)
      refine own_go st201i2 ?_
      show own_Fin p e below s (own_QF Z x0 z (fun j => own_f7_0 x1 j) h0 n0) 0 0 (T201i2.setTop (mkF m 40 #[.val (.ref x0), .val (.long x1), .second] [(.int (own_f7_0 x1 (2 : Int32))), (.int (2 : Int32)), (.ref x0)]))
      have A2 := A
      obtain ⟨T202i2, X202i2, W202i2, A202i2, st202i2⟩ := own_stB X201i2 hx hZ e201i2 A (by decide) hbr (g := (mkF m 40 #[.val (.ref x0), .val (.long x1), .second] [(.int (own_f7_0 x1 (2 : Int32))), (.int (2 : Int32)), (.ref x0)])) rfl rfl (hb hby own_d1_40)
      have N202i2 := Fr.snoc X202i2 N g0
      have KK202i2 := K.wr W202i2 (Or.inl (List.mem_of_getElem? (i := 0) rfl))
      refine own_go st202i2 ?_
      show own_Fin p e below s (own_QF Z x0 z (fun j => own_f7_0 x1 j) h0 n0) 0 0 (T202i2.setTop (mkF m 41 #[.val (.ref x0), .val (.long x1), .second] []))
      exact J3 _ _ _ X202i2 N202i2 KK202i2 A202i2 (fun j h1 h2 h3 => by
        by_cases q : j = (2 : Int32)
        · show (if j = (2 : Int32) then _ else _) = _
          rw [if_pos q, q]; exact own_atb _ _
        · show (if j = (2 : Int32) then _ else _) = _
          rw [if_neg q]; exact hg j h1 h2 (by have := own_neT q; have k : (2 : Int32).toInt = 2 := (by decide); omega))
    · refine own_go (fun tgt => XS.icmpYes Y.here hx rfl (pc0 := 30) (pc' := 41) rfl (hb hby own_d1_30) rfl (flt hbr).2.2.2 (by decide) (by decide)) ?_
      show own_Fin p e below s (own_QF Z x0 z (fun j => own_f7_0 x1 j) h0 n0) 0 0 (U.setTop (mkF m 41 #[.val (.ref x0), .val (.long x1), .second] []))
      exact J3 _ _ _ Y N K A (fun j h1 h2 h3 => hg j h1 h2 (by have := own_ltT h2; have := own_nltT hbr; have k : (2 : Int32).toInt = 2 := (by decide); omega))
  have J1 : ∀ (U : State) (L : List Loc) (g : Int32 → Int32), Stand p l e ({ frames := 1, cells := 0, slots := 0, locals := 18 } : Room) s m args below meth c U L 0 0 → Fr n0 L → Keep h0 U.heap [x0] → own_A Z U.heap x0 .byte z g → (∀ j : Int32, ¬ j < 0 → j < z → j.toInt < 1 → g j = own_f7_0 x1 j) → own_Fin p e below s (own_QF Z x0 z (fun j => own_f7_0 x1 j) h0 n0) 0 0 (U.setTop (mkF m 13 #[.val (.ref x0), .val (.long x1), .second] [])) := by
    intro U L g Y N K A hg
    show own_Fin p e below s (own_QF Z x0 z (fun j => own_f7_0 x1 j) h0 n0) 0 0 (U.setTop (mkF m 13 #[.val (.ref x0), .val (.long x1), .second] []))
    refine own_go (fun tgt => XS.aloadN Y.here hx rfl (hb hby own_d1_13) rfl rfl) ?_
    show own_Fin p e below s (own_QF Z x0 z (fun j => own_f7_0 x1 j) h0 n0) 0 0 (U.setTop (mkF m 14 #[.val (.ref x0), .val (.long x1), .second] [(.ref x0)]))
    refine own_go (own_len Y hx hZ rfl A (g := (mkF m 14 #[.val (.ref x0), .val (.long x1), .second] [(.ref x0)])) rfl rfl (hb hby own_d1_14)) ?_
    show own_Fin p e below s (own_QF Z x0 z (fun j => own_f7_0 x1 j) h0 n0) 0 0 (U.setTop (mkF m 15 #[.val (.ref x0), .val (.long x1), .second] [(.int z)]))
    refine own_go (fun tgt => XS.iconst Y.here hx rfl (hb hby own_d1_15)) ?_
    show own_Fin p e below s (own_QF Z x0 z (fun j => own_f7_0 x1 j) h0 n0) 0 0 (U.setTop (mkF m 16 #[.val (.ref x0), .val (.long x1), .second] [(.int (1 : Int32)), (.int z)]))
    by_cases hbr : (1 : Int32) < z
    · refine own_go (fun tgt => XS.icmpNo Y.here hx rfl (hb hby own_d1_16) rfl (tlt hbr).2.2.2) ?_
      show own_Fin p e below s (own_QF Z x0 z (fun j => own_f7_0 x1 j) h0 n0) 0 0 (U.setTop (mkF m 19 #[.val (.ref x0), .val (.long x1), .second] []))
      refine own_go (fun tgt => XS.aloadN Y.here hx rfl (hb hby own_d1_19) rfl rfl) ?_
      show own_Fin p e below s (own_QF Z x0 z (fun j => own_f7_0 x1 j) h0 n0) 0 0 (U.setTop (mkF m 20 #[.val (.ref x0), .val (.long x1), .second] [(.ref x0)]))
      refine own_go (fun tgt => XS.iconst Y.here hx rfl (hb hby own_d1_20)) ?_
      show own_Fin p e below s (own_QF Z x0 z (fun j => own_f7_0 x1 j) h0 n0) 0 0 (U.setTop (mkF m 21 #[.val (.ref x0), .val (.long x1), .second] [(.int (1 : Int32)), (.ref x0)]))
      refine own_go (fun tgt => XS.lloadN Y.here hx rfl (hb hby own_d1_21) rfl) ?_
      show own_Fin p e below s (own_QF Z x0 z (fun j => own_f7_0 x1 j) h0 n0) 0 0 (U.setTop (mkF m 22 #[.val (.ref x0), .val (.long x1), .second] [(.long x1), (.int (1 : Int32)), (.ref x0)]))
      refine own_go (fun tgt => XS.iconst Y.here hx rfl (hb hby own_d1_22)) ?_
      show own_Fin p e below s (own_QF Z x0 z (fun j => own_f7_0 x1 j) h0 n0) 0 0 (U.setTop (mkF m 23 #[.val (.ref x0), .val (.long x1), .second] [(.int (1 : Int32)), (.long x1), (.int (1 : Int32)), (.ref x0)]))
      obtain ⟨T201i1, X201i1, e201i1, st201i1⟩ := own_callP Y hx hZ rfl (y := (⟨"com/example/binlogue/binlogue/replication/AuthMethodXorPinLaw", "at", "(JI)B"⟩ : MethodName)) hown (hw _ (List.mem_of_getElem? (i := 22) rfl)) (hw _ (List.mem_of_getElem? (i := 23) rfl)) (hw _ (List.mem_of_getElem? (i := 4) rfl)) (hw _ (List.mem_of_getElem? (i := 24) rfl)) (by decide) (argsL := [(.long x1), (.int (1 : Int32))]) (rest := [(.int (1 : Int32)), (.ref x0)]) (own_c7 l Z a0 hw x1 (1 : Int32) _) (by decide) 2 (by decide) (by decide) (by decide) (g := (mkF m 23 #[.val (.ref x0), .val (.long x1), .second] [(.int (1 : Int32)), (.long x1), (.int (1 : Int32)), (.ref x0)])) rfl (by rw [hml]; rfl) (lenOf own_pd0 rfl) rfl (by show 2 * 0 + _ ≤ _; exact Nat.le_of_eq rfl) (hb hby own_d1_23)
      refine own_go st201i1 ?_
      show own_Fin p e below s (own_QF Z x0 z (fun j => own_f7_0 x1 j) h0 n0) 0 0 (T201i1.setTop (mkF m 26 #[.val (.ref x0), .val (.long x1), .second] [(.int (own_f7_0 x1 (1 : Int32))), (.int (1 : Int32)), (.ref x0)]))
      have A2 := A
      obtain ⟨T202i1, X202i1, W202i1, A202i1, st202i1⟩ := own_stB X201i1 hx hZ e201i1 A (by decide) hbr (g := (mkF m 26 #[.val (.ref x0), .val (.long x1), .second] [(.int (own_f7_0 x1 (1 : Int32))), (.int (1 : Int32)), (.ref x0)])) rfl rfl (hb hby own_d1_26)
      have N202i1 := Fr.snoc X202i1 N g0
      have KK202i1 := K.wr W202i1 (Or.inl (List.mem_of_getElem? (i := 0) rfl))
      refine own_go st202i1 ?_
      show own_Fin p e below s (own_QF Z x0 z (fun j => own_f7_0 x1 j) h0 n0) 0 0 (T202i1.setTop (mkF m 27 #[.val (.ref x0), .val (.long x1), .second] []))
      exact J2 _ _ _ X202i1 N202i1 KK202i1 A202i1 (fun j h1 h2 h3 => by
        by_cases q : j = (1 : Int32)
        · show (if j = (1 : Int32) then _ else _) = _
          rw [if_pos q, q]; exact own_atb _ _
        · show (if j = (1 : Int32) then _ else _) = _
          rw [if_neg q]; exact hg j h1 h2 (by have := own_neT q; have k : (1 : Int32).toInt = 1 := (by decide); omega))
    · refine own_go (fun tgt => XS.icmpYes Y.here hx rfl (pc0 := 16) (pc' := 27) rfl (hb hby own_d1_16) rfl (flt hbr).2.2.2 (by decide) (by decide)) ?_
      show own_Fin p e below s (own_QF Z x0 z (fun j => own_f7_0 x1 j) h0 n0) 0 0 (U.setTop (mkF m 27 #[.val (.ref x0), .val (.long x1), .second] []))
      exact J2 _ _ _ Y N K A (fun j h1 h2 h3 => hg j h1 h2 (by have := own_ltT h2; have := own_nltT hbr; have k : (1 : Int32).toInt = 1 := (by decide); omega))
  have J0 : ∀ (U : State) (L : List Loc) (g : Int32 → Int32), Stand p l e ({ frames := 1, cells := 0, slots := 0, locals := 18 } : Room) s m args below meth c U L 0 0 → Fr n0 L → Keep h0 U.heap [x0] → own_A Z U.heap x0 .byte z g → (∀ j : Int32, ¬ j < 0 → j < z → j.toInt < 0 → g j = own_f7_0 x1 j) → own_Fin p e below s (own_QF Z x0 z (fun j => own_f7_0 x1 j) h0 n0) 0 0 (U.setTop (mkF m 0 #[.val (.ref x0), .val (.long x1), .second] [])) := by
    intro U L g Y N K A hg
    show own_Fin p e below s (own_QF Z x0 z (fun j => own_f7_0 x1 j) h0 n0) 0 0 (U.setTop (mkF m 0 #[.val (.ref x0), .val (.long x1), .second] []))
    refine own_go (fun tgt => XS.aloadN Y.here hx rfl (hb hby own_d1_0) rfl rfl) ?_
    show own_Fin p e below s (own_QF Z x0 z (fun j => own_f7_0 x1 j) h0 n0) 0 0 (U.setTop (mkF m 1 #[.val (.ref x0), .val (.long x1), .second] [(.ref x0)]))
    refine own_go (own_len Y hx hZ rfl A (g := (mkF m 1 #[.val (.ref x0), .val (.long x1), .second] [(.ref x0)])) rfl rfl (hb hby own_d1_1)) ?_
    show own_Fin p e below s (own_QF Z x0 z (fun j => own_f7_0 x1 j) h0 n0) 0 0 (U.setTop (mkF m 2 #[.val (.ref x0), .val (.long x1), .second] [(.int z)]))
    by_cases hbr : (0 : Int32) < z
    · refine own_go (fun tgt => XS.ifNo Y.here hx rfl (hb hby own_d1_2) rfl ((if0 _ _).trans (tlt hbr).2.2.2)) ?_
      show own_Fin p e below s (own_QF Z x0 z (fun j => own_f7_0 x1 j) h0 n0) 0 0 (U.setTop (mkF m 5 #[.val (.ref x0), .val (.long x1), .second] []))
      refine own_go (fun tgt => XS.aloadN Y.here hx rfl (hb hby own_d1_5) rfl rfl) ?_
      show own_Fin p e below s (own_QF Z x0 z (fun j => own_f7_0 x1 j) h0 n0) 0 0 (U.setTop (mkF m 6 #[.val (.ref x0), .val (.long x1), .second] [(.ref x0)]))
      refine own_go (fun tgt => XS.iconst Y.here hx rfl (hb hby own_d1_6)) ?_
      show own_Fin p e below s (own_QF Z x0 z (fun j => own_f7_0 x1 j) h0 n0) 0 0 (U.setTop (mkF m 7 #[.val (.ref x0), .val (.long x1), .second] [(.int (0 : Int32)), (.ref x0)]))
      refine own_go (fun tgt => XS.lloadN Y.here hx rfl (hb hby own_d1_7) rfl) ?_
      show own_Fin p e below s (own_QF Z x0 z (fun j => own_f7_0 x1 j) h0 n0) 0 0 (U.setTop (mkF m 8 #[.val (.ref x0), .val (.long x1), .second] [(.long x1), (.int (0 : Int32)), (.ref x0)]))
      refine own_go (fun tgt => XS.iconst Y.here hx rfl (hb hby own_d1_8)) ?_
      show own_Fin p e below s (own_QF Z x0 z (fun j => own_f7_0 x1 j) h0 n0) 0 0 (U.setTop (mkF m 9 #[.val (.ref x0), .val (.long x1), .second] [(.int (0 : Int32)), (.long x1), (.int (0 : Int32)), (.ref x0)]))
      obtain ⟨T201i0, X201i0, e201i0, st201i0⟩ := own_callP Y hx hZ rfl (y := (⟨"com/example/binlogue/binlogue/replication/AuthMethodXorPinLaw", "at", "(JI)B"⟩ : MethodName)) hown (hw _ (List.mem_of_getElem? (i := 22) rfl)) (hw _ (List.mem_of_getElem? (i := 23) rfl)) (hw _ (List.mem_of_getElem? (i := 4) rfl)) (hw _ (List.mem_of_getElem? (i := 24) rfl)) (by decide) (argsL := [(.long x1), (.int (0 : Int32))]) (rest := [(.int (0 : Int32)), (.ref x0)]) (own_c7 l Z a0 hw x1 (0 : Int32) _) (by decide) 2 (by decide) (by decide) (by decide) (g := (mkF m 9 #[.val (.ref x0), .val (.long x1), .second] [(.int (0 : Int32)), (.long x1), (.int (0 : Int32)), (.ref x0)])) rfl (by rw [hml]; rfl) (lenOf own_pd0 rfl) rfl (by show 2 * 0 + _ ≤ _; exact Nat.le_of_eq rfl) (hb hby own_d1_9)
      refine own_go st201i0 ?_
      show own_Fin p e below s (own_QF Z x0 z (fun j => own_f7_0 x1 j) h0 n0) 0 0 (T201i0.setTop (mkF m 12 #[.val (.ref x0), .val (.long x1), .second] [(.int (own_f7_0 x1 (0 : Int32))), (.int (0 : Int32)), (.ref x0)]))
      have A2 := A
      obtain ⟨T202i0, X202i0, W202i0, A202i0, st202i0⟩ := own_stB X201i0 hx hZ e201i0 A (by decide) hbr (g := (mkF m 12 #[.val (.ref x0), .val (.long x1), .second] [(.int (own_f7_0 x1 (0 : Int32))), (.int (0 : Int32)), (.ref x0)])) rfl rfl (hb hby own_d1_12)
      have N202i0 := Fr.snoc X202i0 N g0
      have KK202i0 := K.wr W202i0 (Or.inl (List.mem_of_getElem? (i := 0) rfl))
      refine own_go st202i0 ?_
      show own_Fin p e below s (own_QF Z x0 z (fun j => own_f7_0 x1 j) h0 n0) 0 0 (T202i0.setTop (mkF m 13 #[.val (.ref x0), .val (.long x1), .second] []))
      exact J1 _ _ _ X202i0 N202i0 KK202i0 A202i0 (fun j h1 h2 h3 => by
        by_cases q : j = (0 : Int32)
        · show (if j = (0 : Int32) then _ else _) = _
          rw [if_pos q, q]; exact own_atb _ _
        · show (if j = (0 : Int32) then _ else _) = _
          rw [if_neg q]; exact hg j h1 h2 (by have := own_neT q; have k : (0 : Int32).toInt = 0 := (by decide); omega))
    · refine own_go (fun tgt => XS.ifYes Y.here hx rfl (pc0 := 2) (pc' := 13) rfl (hb hby own_d1_2) rfl ((if0 _ _).trans (flt hbr).2.2.2) (by decide) (by decide)) ?_
      show own_Fin p e below s (own_QF Z x0 z (fun j => own_f7_0 x1 j) h0 n0) 0 0 (U.setTop (mkF m 13 #[.val (.ref x0), .val (.long x1), .second] []))
      exact J1 _ _ _ Y N K A (fun j h1 h2 h3 => hg j h1 h2 (by have := own_ltT h2; have := own_nltT hbr; have k : (0 : Int32).toInt = 0 := (by decide); omega))
  exact J0 _ _ _ X (Fr.nil n0) (by rw [hh]; exact Keep.refl _ _) (by rw [hh]; exact hA) (fun j h1 h2 h3 => absurd h3 (by have := own_nltT h1; have k : (0 : Int32).toInt = 0 := (by decide); omega))
theorem own_fill (l : Launch) (Z : State) (a0 : Array Value) (hw : ∀ d ∈ tables_1, d.before a0 Z = true) (x0 : Addr) (x1 : Int64) (z : Int32) (f : Int32 → Int32) (h0 : Heap) (n0 : Nat) (Z0 : n0 ≤ h0.size) (g0 : n0 ≤ x0) (hA : own_A Z h0 x0 .byte z f) (hz : z.toInt ≤ 5) : own_Met l Z (⟨"com/example/binlogue/binlogue/replication/AuthMethodXorPinLaw", "fill", "([BJ)V"⟩ : MethodName) method_4_code 3 none [] ({ frames := 1, cells := 0, slots := 0, locals := 18 } : Room) #[(.ref x0), (.long x1)] h0 (own_QF Z x0 z (fun j => own_f7_0 x1 j) h0 n0) :=
  own_enter (plainFor_of_name own_pn0) (own_ef1 x0 x1) hw (fun p e s m below meth c T X C hh => own_fill_w X C hh x0 x1 z f n0 Z0 g0 hA hz)
def own_X (f g : Int32 → Int32) (j : Int32) : Int32 := ((f j) ^^^ (g j)).toInt8.toInt32
def own_QX (Z : State) (a : Addr) (z : Int32) (f g : Int32 → Int32) (h0 : Heap) (n0 : Nat) (v : Option Value) (h : Heap) (L : List Loc) : Prop := v = some (.ref a) ∧ Fr n0 L ∧ Keep h0 h [a] ∧ own_A Z h a .byte z (own_X f g)
theorem own_d2_0 : decode prog_82_method_11_code 0 = .ok (.iconst 0, 1) := by decide +kernel
theorem own_d2_1 : decode prog_82_method_11_code 1 = .ok (.istore_n 2, 1) := by decide +kernel
theorem own_d2_2 : decode prog_82_method_11_code 2 = .ok (.iload_n 2, 1) := by decide +kernel
theorem own_d2_3 : decode prog_82_method_11_code 3 = .ok (.aload_n 0, 1) := by decide +kernel
theorem own_d2_4 : decode prog_82_method_11_code 4 = .ok (.arraylength, 1) := by decide +kernel
theorem own_d2_5 : decode prog_82_method_11_code 5 = .ok (.if_icmp .ge 19, 3) := by decide +kernel
theorem own_d2_8 : decode prog_82_method_11_code 8 = .ok (.aload_n 0, 1) := by decide +kernel
theorem own_d2_9 : decode prog_82_method_11_code 9 = .ok (.iload_n 2, 1) := by decide +kernel
theorem own_d2_10 : decode prog_82_method_11_code 10 = .ok (.dup2, 1) := by decide +kernel
theorem own_d2_11 : decode prog_82_method_11_code 11 = .ok (.baload, 1) := by decide +kernel
theorem own_d2_12 : decode prog_82_method_11_code 12 = .ok (.aload_n 1, 1) := by decide +kernel
theorem own_d2_13 : decode prog_82_method_11_code 13 = .ok (.iload_n 2, 1) := by decide +kernel
theorem own_d2_14 : decode prog_82_method_11_code 14 = .ok (.baload, 1) := by decide +kernel
theorem own_d2_15 : decode prog_82_method_11_code 15 = .ok (.ixor, 1) := by decide +kernel
theorem own_d2_16 : decode prog_82_method_11_code 16 = .ok (.i2b, 1) := by decide +kernel
theorem own_d2_17 : decode prog_82_method_11_code 17 = .ok (.bastore, 1) := by decide +kernel
theorem own_d2_18 : decode prog_82_method_11_code 18 = .ok (.iinc 2 1, 3) := by decide +kernel
theorem own_d2_21 : decode prog_82_method_11_code 21 = .ok (.goto (-19), 3) := by decide +kernel
theorem own_d2_24 : decode prog_82_method_11_code 24 = .ok (.aload_n 0, 1) := by decide +kernel
theorem own_d2_25 : decode prog_82_method_11_code 25 = .ok (.areturn, 1) := by decide +kernel
theorem own_ef2 (x0 : Addr) (x1 : Addr) : ∀ m, entryFrame m #[(.ref x0), (.ref x1)] 3 = mkF m 0 #[.val (.ref x0), .val (.ref x1), .unset] [] := fun m => by first | (simp [entryFrame, mkF, argsToLocals, Value.category]; done) | rfl
set_option maxRecDepth 65536 in
set_option maxHeartbeats 40000000 in
theorem own_xor_w {l : Launch} {p : Program} {e : Env} {below : List Frame} {s : State} {m : MethodId} {meth : Method} {c : Code} {Z : State} {a0 args : Array Value} {T : State} {h0 : Heap} (X : Stand p l e ({ frames := 0, cells := 0, slots := 0, locals := 0 } : Room) s m args below meth c T [] 0 0) (C : own_Ctx p s m meth c Z a0 tables_1 (⟨"com/example/binlogue/binlogue/replication/AuthMethod", "xor", "([B[B)[B"⟩ : MethodName) prog_82_method_11_code 3 (some (.array .byte))) (hh : T.heap = h0) (x0 : Addr) (x1 : Addr) (z : Int32) (z2 : Int32) (f : Int32 → Int32) (g : Int32 → Int32) (n0 : Nat) (Z0 : n0 ≤ h0.size) (g0 : n0 ≤ x0) (hA : own_A Z h0 x0 .byte z f) (hB : own_A Z h0 x1 .byte z2 g) (hne : x0 ≠ x1) (hz : z.toInt ≤ z2.toInt) :
    own_Fin p e below s (own_QX Z x0 z f g h0 n0) 0 0 (T.setTop (mkF m 0 #[.val (.ref x0), .val (.ref x1), .unset] [])) := by
  obtain ⟨hx, hby, hml, hZ, hown, hnm, hret, hlk, hw⟩ := id C
  show own_Fin p e below s (own_QX Z x0 z f g h0 n0) 0 0 (T.setTop (mkF m 0 #[.val (.ref x0), .val (.ref x1), .unset] []))
  refine own_go (fun tgt => XS.iconst X.here hx rfl (hb hby own_d2_0)) ?_
  show own_Fin p e below s (own_QX Z x0 z f g h0 n0) 0 0 (T.setTop (mkF m 1 #[.val (.ref x0), .val (.ref x1), .unset] [(.int (0 : Int32))]))
  refine own_go (fun tgt => XS.istoreN X.here hx rfl (hb hby own_d2_1) rfl (l' := #[.val (.ref x0), .val (.ref x1), .val (.int (0 : Int32))]) rfl) ?_
  show own_Fin p e below s (own_QX Z x0 z f g h0 n0) 0 0 (T.setTop (mkF m 2 #[.val (.ref x0), .val (.ref x1), .val (.int (0 : Int32))] []))
  have J : ∀ (k : Nat) (i : Int32), z.toInt - i.toInt = k → ¬ i < 0 → ∀ (U : State) (L : List Loc) (q : Int32 → Int32), Stand p l e ({ frames := 0, cells := 0, slots := 0, locals := 0 } : Room) s m args below meth c U L 0 0 → Fr n0 L → Keep h0 U.heap [x0] → own_A Z U.heap x0 .byte z q → own_A Z U.heap x1 .byte z2 g → (∀ j : Int32, ¬ j < 0 → j < z → q j = if j < i then own_X f g j else f j) → own_Fin p e below s (own_QX Z x0 z f g h0 n0) 0 0 (U.setTop (mkF m 2 #[.val (.ref x0), .val (.ref x1), .val (.int i)] [])) := by
    intro k
    induction k with
    | zero =>
      intro i hk hi U L q Y N K A B hq
      show own_Fin p e below s (own_QX Z x0 z f g h0 n0) 0 0 (U.setTop (mkF m 2 #[.val (.ref x0), .val (.ref x1), .val (.int i)] []))
      refine own_go (fun tgt => XS.iloadN Y.here hx rfl (hb hby own_d2_2) rfl) ?_
      show own_Fin p e below s (own_QX Z x0 z f g h0 n0) 0 0 (U.setTop (mkF m 3 #[.val (.ref x0), .val (.ref x1), .val (.int i)] [(.int i)]))
      refine own_go (fun tgt => XS.aloadN Y.here hx rfl (hb hby own_d2_3) rfl rfl) ?_
      show own_Fin p e below s (own_QX Z x0 z f g h0 n0) 0 0 (U.setTop (mkF m 4 #[.val (.ref x0), .val (.ref x1), .val (.int i)] [(.ref x0), (.int i)]))
      refine own_go (own_len Y hx hZ rfl A (g := (mkF m 4 #[.val (.ref x0), .val (.ref x1), .val (.int i)] [(.ref x0), (.int i)])) rfl rfl (hb hby own_d2_4)) ?_
      show own_Fin p e below s (own_QX Z x0 z f g h0 n0) 0 0 (U.setTop (mkF m 5 #[.val (.ref x0), .val (.ref x1), .val (.int i)] [(.int z), (.int i)]))
      refine own_go (fun tgt => XS.icmpYes Y.here hx rfl (pc0 := 5) (pc' := 24) rfl (hb hby own_d2_5) rfl (flt (own_Tnlt (by omega))).2.1 (by decide) (by decide)) ?_
      show own_Fin p e below s (own_QX Z x0 z f g h0 n0) 0 0 (U.setTop (mkF m 24 #[.val (.ref x0), .val (.ref x1), .val (.int i)] []))
      refine own_go (fun tgt => XS.aloadN Y.here hx rfl (hb hby own_d2_24) rfl rfl) ?_
      show own_Fin p e below s (own_QX Z x0 z f g h0 n0) 0 0 (U.setTop (mkF m 25 #[.val (.ref x0), .val (.ref x1), .val (.int i)] [(.ref x0)]))
      exact own_ret Y hlk hx hret rfl (Or.inr (Or.inr (Or.inr (Or.inr ⟨rfl, rfl, rfl⟩)))) (hb hby own_d2_25) ⟨rfl, N, K, A.cong (fun j h1 h2 => by rw [hq j h1 h2, if_pos (own_Tlt (by have := own_ltT h2; omega))])⟩ (by decide) (by decide)
    | succ k ih =>
      intro i hk hi U L q Y N K A B hq
      show own_Fin p e below s (own_QX Z x0 z f g h0 n0) 0 0 (U.setTop (mkF m 2 #[.val (.ref x0), .val (.ref x1), .val (.int i)] []))
      refine own_go (fun tgt => XS.iloadN Y.here hx rfl (hb hby own_d2_2) rfl) ?_
      show own_Fin p e below s (own_QX Z x0 z f g h0 n0) 0 0 (U.setTop (mkF m 3 #[.val (.ref x0), .val (.ref x1), .val (.int i)] [(.int i)]))
      refine own_go (fun tgt => XS.aloadN Y.here hx rfl (hb hby own_d2_3) rfl rfl) ?_
      show own_Fin p e below s (own_QX Z x0 z f g h0 n0) 0 0 (U.setTop (mkF m 4 #[.val (.ref x0), .val (.ref x1), .val (.int i)] [(.ref x0), (.int i)]))
      refine own_go (own_len Y hx hZ rfl A (g := (mkF m 4 #[.val (.ref x0), .val (.ref x1), .val (.int i)] [(.ref x0), (.int i)])) rfl rfl (hb hby own_d2_4)) ?_
      show own_Fin p e below s (own_QX Z x0 z f g h0 n0) 0 0 (U.setTop (mkF m 5 #[.val (.ref x0), .val (.ref x1), .val (.int i)] [(.int z), (.int i)]))
      have hiz : i < z := own_Tlt (by omega)
      refine own_go (fun tgt => XS.icmpNo Y.here hx rfl (hb hby own_d2_5) rfl (tlt hiz).2.1) ?_
      show own_Fin p e below s (own_QX Z x0 z f g h0 n0) 0 0 (U.setTop (mkF m 8 #[.val (.ref x0), .val (.ref x1), .val (.int i)] []))
      refine own_go (fun tgt => XS.aloadN Y.here hx rfl (hb hby own_d2_8) rfl rfl) ?_
      show own_Fin p e below s (own_QX Z x0 z f g h0 n0) 0 0 (U.setTop (mkF m 9 #[.val (.ref x0), .val (.ref x1), .val (.int i)] [(.ref x0)]))
      refine own_go (fun tgt => XS.iloadN Y.here hx rfl (hb hby own_d2_9) rfl) ?_
      show own_Fin p e below s (own_QX Z x0 z f g h0 n0) 0 0 (U.setTop (mkF m 10 #[.val (.ref x0), .val (.ref x1), .val (.int i)] [(.int i), (.ref x0)]))
      refine own_go (fun tgt => XT.dup2 Y.here hx rfl (hb hby own_d2_10) rfl rfl rfl) ?_
      show own_Fin p e below s (own_QX Z x0 z f g h0 n0) 0 0 (U.setTop (mkF m 11 #[.val (.ref x0), .val (.ref x1), .val (.int i)] [(.int i), (.ref x0), (.int i), (.ref x0)]))
      refine own_go (own_ldB Y hx hZ rfl A (j := i) hi hiz (g := (mkF m 11 #[.val (.ref x0), .val (.ref x1), .val (.int i)] [(.int i), (.ref x0), (.int i), (.ref x0)])) rfl rfl (hb hby own_d2_11)) ?_
      show own_Fin p e below s (own_QX Z x0 z f g h0 n0) 0 0 (U.setTop (mkF m 12 #[.val (.ref x0), .val (.ref x1), .val (.int i)] [(.int (q i)), (.int i), (.ref x0)]))
      refine own_go (fun tgt => XS.aloadN Y.here hx rfl (hb hby own_d2_12) rfl rfl) ?_
      show own_Fin p e below s (own_QX Z x0 z f g h0 n0) 0 0 (U.setTop (mkF m 13 #[.val (.ref x0), .val (.ref x1), .val (.int i)] [(.ref x1), (.int (q i)), (.int i), (.ref x0)]))
      refine own_go (fun tgt => XS.iloadN Y.here hx rfl (hb hby own_d2_13) rfl) ?_
      show own_Fin p e below s (own_QX Z x0 z f g h0 n0) 0 0 (U.setTop (mkF m 14 #[.val (.ref x0), .val (.ref x1), .val (.int i)] [(.int i), (.ref x1), (.int (q i)), (.int i), (.ref x0)]))
      refine own_go (own_ldB Y hx hZ rfl B (j := i) hi (own_Tlt (by have := own_ltT hiz; omega)) (g := (mkF m 14 #[.val (.ref x0), .val (.ref x1), .val (.int i)] [(.int i), (.ref x1), (.int (q i)), (.int i), (.ref x0)])) rfl rfl (hb hby own_d2_14)) ?_
      show own_Fin p e below s (own_QX Z x0 z f g h0 n0) 0 0 (U.setTop (mkF m 15 #[.val (.ref x0), .val (.ref x1), .val (.int i)] [(.int (g i)), (.int (q i)), (.int i), (.ref x0)]))
      refine own_go (fun tgt => XS.ixor Y.here hx rfl (hb hby own_d2_15) rfl) ?_
      show own_Fin p e below s (own_QX Z x0 z f g h0 n0) 0 0 (U.setTop (mkF m 16 #[.val (.ref x0), .val (.ref x1), .val (.int i)] [(.int ((q i) ^^^ (g i))), (.int i), (.ref x0)]))
      refine own_go (fun tgt => XS.i2b Y.here hx rfl (hb hby own_d2_16) rfl) ?_
      show own_Fin p e below s (own_QX Z x0 z f g h0 n0) 0 0 (U.setTop (mkF m 17 #[.val (.ref x0), .val (.ref x1), .val (.int i)] [(.int (((q i) ^^^ (g i)).toInt8.toInt32)), (.int i), (.ref x0)]))
      obtain ⟨T201qs, X201qs, W201qs, A201qs, st201qs⟩ := own_stB Y hx hZ rfl A hi hiz (g := (mkF m 17 #[.val (.ref x0), .val (.ref x1), .val (.int i)] [(.int (((q i) ^^^ (g i)).toInt8.toInt32)), (.int i), (.ref x0)])) rfl rfl (hb hby own_d2_17)
      have N201qs := Fr.snoc X201qs N g0
      have A_x1_201qs := B.other W201qs (Ne.symm hne)
      have KK201qs := K.wr W201qs (Or.inl (List.mem_of_getElem? (i := 0) rfl))
      refine own_go st201qs ?_
      show own_Fin p e below s (own_QX Z x0 z f g h0 n0) 0 0 (T201qs.setTop (mkF m 18 #[.val (.ref x0), .val (.ref x1), .val (.int i)] []))
      refine own_go (fun tgt => XS.iinc X201qs.here hx rfl (hb hby own_d2_18) rfl (l' := #[.val (.ref x0), .val (.ref x1), .val (.int (i + (1 : Int32)))]) rfl) ?_
      show own_Fin p e below s (own_QX Z x0 z f g h0 n0) 0 0 (T201qs.setTop (mkF m 21 #[.val (.ref x0), .val (.ref x1), .val (.int (i + (1 : Int32)))] []))
      refine own_go (fun tgt => XS.goto X201qs.here hx rfl (pc0 := 21) (pc' := 2) rfl (hb hby own_d2_21) (by decide) (by decide)) ?_
      show own_Fin p e below s (own_QX Z x0 z f g h0 n0) 0 0 (T201qs.setTop (mkF m 2 #[.val (.ref x0), .val (.ref x1), .val (.int (i + (1 : Int32)))] []))
      have e1 : (i + (1 : Int32)).toInt = i.toInt + 1 := by
        have a := c_iadd i 1
        have r := rng32 (i + (1 : Int32))
        have rz := rng32 z
        have o : (1 : Int32).toInt = 1 := by decide
        have ri := own_nltT hi
        have o0 : (0 : Int32).toInt = 0 := by decide
        omega
      exact ih (i + (1 : Int32)) (by omega) (own_Tnlt (by have := own_nltT hi; omega)) _ _ _ X201qs N201qs KK201qs A201qs A_x1_201qs (fun j h1 h2 => by
        show (if j = i then _ else _) = _
        by_cases c : j = i
        · rw [if_pos c, c, if_pos (own_Tlt (by omega)), hq i hi hiz, if_neg (own_Tnlt (by omega))]; exact own_bb _
        · rw [if_neg c, hq j h1 h2]
          have cn := own_neT c
          by_cases d : j < i
          · rw [if_pos d, if_pos (own_Tlt (by have := own_ltT d; omega))]
          · rw [if_neg d, if_neg (own_Tnlt (by have := own_nltT d; omega))])
  obtain ⟨k, hk⟩ : ∃ k : Nat, z.toInt - (0 : Int32).toInt = k := ⟨z.toInt.toNat, by have := own_nltT hA.nn; have o0 : (0 : Int32).toInt = 0 := (by decide); omega⟩
  exact J k 0 hk (by decide) _ _ _ X (Fr.nil n0) (by rw [hh]; exact Keep.refl _ _) (by rw [hh]; exact hA) (by rw [hh]; exact hB) (fun j h1 h2 => by rw [if_neg h1])
theorem own_pn1 : plainName "com/example/binlogue/binlogue/replication/AuthMethod" = true := by first | (simp [plainName, overriddenIn]; done) | decide +kernel
theorem own_xor (l : Launch) (Z : State) (a0 : Array Value) (hw : ∀ d ∈ tables_1, d.before a0 Z = true) (x0 : Addr) (x1 : Addr) (z : Int32) (z2 : Int32) (f : Int32 → Int32) (g : Int32 → Int32) (h0 : Heap) (n0 : Nat) (Z0 : n0 ≤ h0.size) (g0 : n0 ≤ x0) (hA : own_A Z h0 x0 .byte z f) (hB : own_A Z h0 x1 .byte z2 g) (hne : x0 ≠ x1) (hz : z.toInt ≤ z2.toInt) : own_Met l Z (⟨"com/example/binlogue/binlogue/replication/AuthMethod", "xor", "([B[B)[B"⟩ : MethodName) prog_82_method_11_code 3 (some (.array .byte)) [] ({ frames := 0, cells := 0, slots := 0, locals := 0 } : Room) #[(.ref x0), (.ref x1)] h0 (own_QX Z x0 z f g h0 n0) :=
  own_enter (plainFor_of_name own_pn1) (own_ef2 x0 x1) hw (fun p e s m below meth c T X C hh => own_xor_w X C hh x0 x1 z z2 f g n0 Z0 g0 hA hB hne hz)
theorem own_d4_0 : decode method_5_code 0 = .ok (.iload 6, 2) := by decide +kernel
theorem own_d4_2 : decode method_5_code 2 = .ok (.iload 5, 2) := by decide +kernel
theorem own_d4_4 : decode method_5_code 4 = .ok (.if_icmp .lt 5, 3) := by decide +kernel
theorem own_d4_7 : decode method_5_code 7 = .ok (.iconst 1, 1) := by decide +kernel
theorem own_d4_8 : decode method_5_code 8 = .ok (.ireturn, 1) := by decide +kernel
theorem own_d4_9 : decode method_5_code 9 = .ok (.aload_n 0, 1) := by decide +kernel
theorem own_d4_10 : decode method_5_code 10 = .ok (.iload 6, 2) := by decide +kernel
theorem own_d4_12 : decode method_5_code 12 = .ok (.baload, 1) := by decide +kernel
theorem own_d4_13 : decode method_5_code 13 = .ok (.lload_n 1, 1) := by decide +kernel
theorem own_d4_14 : decode method_5_code 14 = .ok (.iload 6, 2) := by decide +kernel
theorem own_d4_16 : decode method_5_code 16 = .ok (.invokestatic 28, 3) := by decide +kernel
theorem own_d4_19 : decode method_5_code 19 = .ok (.lload_n 3, 1) := by decide +kernel
theorem own_d4_20 : decode method_5_code 20 = .ok (.iload 6, 2) := by decide +kernel
theorem own_d4_22 : decode method_5_code 22 = .ok (.invokestatic 28, 3) := by decide +kernel
theorem own_d4_25 : decode method_5_code 25 = .ok (.ixor, 1) := by decide +kernel
theorem own_d4_26 : decode method_5_code 26 = .ok (.i2b, 1) := by decide +kernel
theorem own_d4_27 : decode method_5_code 27 = .ok (.if_icmp .ne 7, 3) := by decide +kernel
theorem own_d4_30 : decode method_5_code 30 = .ok (.iconst 1, 1) := by decide +kernel
theorem own_d4_31 : decode method_5_code 31 = .ok (.goto 4, 3) := by decide +kernel
theorem own_d4_34 : decode method_5_code 34 = .ok (.iconst 0, 1) := by decide +kernel
theorem own_d4_35 : decode method_5_code 35 = .ok (.ireturn, 1) := by decide +kernel
theorem own_ef4 (x0 : Addr) (x1 : Int64) (x2 : Int64) (x3 : Int32) (x4 : Int32) : ∀ m, entryFrame m #[(.ref x0), (.long x1), (.long x2), (.int x3), (.int x4)] 7 = mkF m 0 #[.val (.ref x0), .val (.long x1), .second, .val (.long x2), .second, .val (.int x3), .val (.int x4)] [] := fun m => by first | (simp [entryFrame, mkF, argsToLocals, Value.category]; done) | rfl
set_option maxRecDepth 65536 in
set_option maxHeartbeats 40000000 in
theorem own_ok_w {l : Launch} {p : Program} {e : Env} {below : List Frame} {s : State} {m : MethodId} {meth : Method} {c : Code} {Z : State} {a0 args : Array Value} {T : State} {h0 : Heap} (X : Stand p l e ({ frames := 1, cells := 0, slots := 0, locals := 20 } : Room) s m args below meth c T [] 0 0) (C : own_Ctx p s m meth c Z a0 tables_1 (⟨"com/example/binlogue/binlogue/replication/AuthMethodXorPinLaw", "okAt", "([BJJII)Z"⟩ : MethodName) method_5_code 7 (some .boolean)) (hh : T.heap = h0) (x0 : Addr) (x1 : Int64) (x2 : Int64) (x3 : Int32) (x4 : Int32) (f : Int32 → Int32) (n0 : Nat) (Z0 : n0 ≤ h0.size) (hi : ¬ x4 < 0) (hA : own_A Z h0 x0 .byte x3 f) (hf : x4 < x3 → f x4 = ((own_f7_0 x1 x4) ^^^ (own_f7_0 x2 x4)).toInt8.toInt32) :
    own_Fin p e below s (own_QP (some (.int (1 : Int32))) h0) 0 0 (T.setTop (mkF m 0 #[.val (.ref x0), .val (.long x1), .second, .val (.long x2), .second, .val (.int x3), .val (.int x4)] [])) := by
  obtain ⟨hx, hby, hml, hZ, hown, hnm, hret, hlk, hw⟩ := id C
  show own_Fin p e below s (own_QP (some (.int (1 : Int32))) h0) 0 0 (T.setTop (mkF m 0 #[.val (.ref x0), .val (.long x1), .second, .val (.long x2), .second, .val (.int x3), .val (.int x4)] []))
  refine own_go (fun tgt => XS.iload X.here hx rfl (hb hby own_d4_0) rfl) ?_
  show own_Fin p e below s (own_QP (some (.int (1 : Int32))) h0) 0 0 (T.setTop (mkF m 2 #[.val (.ref x0), .val (.long x1), .second, .val (.long x2), .second, .val (.int x3), .val (.int x4)] [(.int x4)]))
  refine own_go (fun tgt => XS.iload X.here hx rfl (hb hby own_d4_2) rfl) ?_
  show own_Fin p e below s (own_QP (some (.int (1 : Int32))) h0) 0 0 (T.setTop (mkF m 4 #[.val (.ref x0), .val (.long x1), .second, .val (.long x2), .second, .val (.int x3), .val (.int x4)] [(.int x3), (.int x4)]))
  by_cases hbr : x4 < x3
  · refine own_go (fun tgt => XS.icmpYes X.here hx rfl (pc0 := 4) (pc' := 9) rfl (hb hby own_d4_4) rfl (tlt hbr).1 (by decide) (by decide)) ?_
    show own_Fin p e below s (own_QP (some (.int (1 : Int32))) h0) 0 0 (T.setTop (mkF m 9 #[.val (.ref x0), .val (.long x1), .second, .val (.long x2), .second, .val (.int x3), .val (.int x4)] []))
    refine own_go (fun tgt => XS.aloadN X.here hx rfl (hb hby own_d4_9) rfl rfl) ?_
    show own_Fin p e below s (own_QP (some (.int (1 : Int32))) h0) 0 0 (T.setTop (mkF m 10 #[.val (.ref x0), .val (.long x1), .second, .val (.long x2), .second, .val (.int x3), .val (.int x4)] [(.ref x0)]))
    refine own_go (fun tgt => XS.iload X.here hx rfl (hb hby own_d4_10) rfl) ?_
    show own_Fin p e below s (own_QP (some (.int (1 : Int32))) h0) 0 0 (T.setTop (mkF m 12 #[.val (.ref x0), .val (.long x1), .second, .val (.long x2), .second, .val (.int x3), .val (.int x4)] [(.int x4), (.ref x0)]))
    refine own_go (own_ldB X hx hZ hh hA (j := x4) hi hbr (g := (mkF m 12 #[.val (.ref x0), .val (.long x1), .second, .val (.long x2), .second, .val (.int x3), .val (.int x4)] [(.int x4), (.ref x0)])) rfl rfl (hb hby own_d4_12)) ?_
    show own_Fin p e below s (own_QP (some (.int (1 : Int32))) h0) 0 0 (T.setTop (mkF m 13 #[.val (.ref x0), .val (.long x1), .second, .val (.long x2), .second, .val (.int x3), .val (.int x4)] [(.int (f x4))]))
    refine own_go (fun tgt => XS.lloadN X.here hx rfl (hb hby own_d4_13) rfl) ?_
    show own_Fin p e below s (own_QP (some (.int (1 : Int32))) h0) 0 0 (T.setTop (mkF m 14 #[.val (.ref x0), .val (.long x1), .second, .val (.long x2), .second, .val (.int x3), .val (.int x4)] [(.long x1), (.int (f x4))]))
    refine own_go (fun tgt => XS.iload X.here hx rfl (hb hby own_d4_14) rfl) ?_
    show own_Fin p e below s (own_QP (some (.int (1 : Int32))) h0) 0 0 (T.setTop (mkF m 16 #[.val (.ref x0), .val (.long x1), .second, .val (.long x2), .second, .val (.int x3), .val (.int x4)] [(.int x4), (.long x1), (.int (f x4))]))
    obtain ⟨T101, X101, e101, st101⟩ := own_callP X hx hZ hh (y := (⟨"com/example/binlogue/binlogue/replication/AuthMethodXorPinLaw", "at", "(JI)B"⟩ : MethodName)) hown (hw _ (List.mem_of_getElem? (i := 22) rfl)) (hw _ (List.mem_of_getElem? (i := 23) rfl)) (hw _ (List.mem_of_getElem? (i := 4) rfl)) (hw _ (List.mem_of_getElem? (i := 24) rfl)) (by decide) (argsL := [(.long x1), (.int x4)]) (rest := [(.int (f x4))]) (own_c7 l Z a0 hw x1 x4 _) (by decide) 1 (by decide) (by decide) (by decide) (g := (mkF m 16 #[.val (.ref x0), .val (.long x1), .second, .val (.long x2), .second, .val (.int x3), .val (.int x4)] [(.int x4), (.long x1), (.int (f x4))])) rfl (by rw [hml]; rfl) (lenOf own_pd0 rfl) rfl (by show 2 * 0 + _ ≤ _; exact Nat.le_of_eq rfl) (hb hby own_d4_16)
    refine own_go st101 ?_
    show own_Fin p e below s (own_QP (some (.int (1 : Int32))) h0) 0 0 (T101.setTop (mkF m 19 #[.val (.ref x0), .val (.long x1), .second, .val (.long x2), .second, .val (.int x3), .val (.int x4)] [(.int (own_f7_0 x1 x4)), (.int (f x4))]))
    refine own_go (fun tgt => XS.lloadN X101.here hx rfl (hb hby own_d4_19) rfl) ?_
    show own_Fin p e below s (own_QP (some (.int (1 : Int32))) h0) 0 0 (T101.setTop (mkF m 20 #[.val (.ref x0), .val (.long x1), .second, .val (.long x2), .second, .val (.int x3), .val (.int x4)] [(.long x2), (.int (own_f7_0 x1 x4)), (.int (f x4))]))
    refine own_go (fun tgt => XS.iload X101.here hx rfl (hb hby own_d4_20) rfl) ?_
    show own_Fin p e below s (own_QP (some (.int (1 : Int32))) h0) 0 0 (T101.setTop (mkF m 22 #[.val (.ref x0), .val (.long x1), .second, .val (.long x2), .second, .val (.int x3), .val (.int x4)] [(.int x4), (.long x2), (.int (own_f7_0 x1 x4)), (.int (f x4))]))
    obtain ⟨T102, X102, e102, st102⟩ := own_callP X101 hx hZ e101 (y := (⟨"com/example/binlogue/binlogue/replication/AuthMethodXorPinLaw", "at", "(JI)B"⟩ : MethodName)) hown (hw _ (List.mem_of_getElem? (i := 22) rfl)) (hw _ (List.mem_of_getElem? (i := 23) rfl)) (hw _ (List.mem_of_getElem? (i := 4) rfl)) (hw _ (List.mem_of_getElem? (i := 24) rfl)) (by decide) (argsL := [(.long x2), (.int x4)]) (rest := [(.int (own_f7_0 x1 x4)), (.int (f x4))]) (own_c7 l Z a0 hw x2 x4 _) (by decide) 2 (by decide) (by decide) (by decide) (g := (mkF m 22 #[.val (.ref x0), .val (.long x1), .second, .val (.long x2), .second, .val (.int x3), .val (.int x4)] [(.int x4), (.long x2), (.int (own_f7_0 x1 x4)), (.int (f x4))])) rfl (by rw [hml]; rfl) (lenOf own_pd0 rfl) rfl (by show 2 * 0 + _ ≤ _; exact Nat.le_of_eq rfl) (hb hby own_d4_22)
    refine own_go st102 ?_
    show own_Fin p e below s (own_QP (some (.int (1 : Int32))) h0) 0 0 (T102.setTop (mkF m 25 #[.val (.ref x0), .val (.long x1), .second, .val (.long x2), .second, .val (.int x3), .val (.int x4)] [(.int (own_f7_0 x2 x4)), (.int (own_f7_0 x1 x4)), (.int (f x4))]))
    refine own_go (fun tgt => XS.ixor X102.here hx rfl (hb hby own_d4_25) rfl) ?_
    show own_Fin p e below s (own_QP (some (.int (1 : Int32))) h0) 0 0 (T102.setTop (mkF m 26 #[.val (.ref x0), .val (.long x1), .second, .val (.long x2), .second, .val (.int x3), .val (.int x4)] [(.int ((own_f7_0 x1 x4) ^^^ (own_f7_0 x2 x4))), (.int (f x4))]))
    refine own_go (fun tgt => XS.i2b X102.here hx rfl (hb hby own_d4_26) rfl) ?_
    show own_Fin p e below s (own_QP (some (.int (1 : Int32))) h0) 0 0 (T102.setTop (mkF m 27 #[.val (.ref x0), .val (.long x1), .second, .val (.long x2), .second, .val (.int x3), .val (.int x4)] [(.int (((own_f7_0 x1 x4) ^^^ (own_f7_0 x2 x4)).toInt8.toInt32)), (.int (f x4))]))
    refine own_go (fun tgt => XS.icmpNo X102.here hx rfl (hb hby own_d4_27) rfl (teq (hf hbr)).2) ?_
    show own_Fin p e below s (own_QP (some (.int (1 : Int32))) h0) 0 0 (T102.setTop (mkF m 30 #[.val (.ref x0), .val (.long x1), .second, .val (.long x2), .second, .val (.int x3), .val (.int x4)] []))
    refine own_go (fun tgt => XS.iconst X102.here hx rfl (hb hby own_d4_30)) ?_
    show own_Fin p e below s (own_QP (some (.int (1 : Int32))) h0) 0 0 (T102.setTop (mkF m 31 #[.val (.ref x0), .val (.long x1), .second, .val (.long x2), .second, .val (.int x3), .val (.int x4)] [(.int (1 : Int32))]))
    refine own_go (fun tgt => XS.goto X102.here hx rfl (pc0 := 31) (pc' := 35) rfl (hb hby own_d4_31) (by decide) (by decide)) ?_
    show own_Fin p e below s (own_QP (some (.int (1 : Int32))) h0) 0 0 (T102.setTop (mkF m 35 #[.val (.ref x0), .val (.long x1), .second, .val (.long x2), .second, .val (.int x3), .val (.int x4)] [(.int (1 : Int32))]))
    exact own_ret X102 hlk hx (t := .boolean) hret rfl (Or.inl ⟨rfl, by simp, _, rfl⟩) (hb hby own_d4_35) ⟨rfl, rfl, e102⟩ (by decide) (by decide)
  · refine own_go (fun tgt => XS.icmpNo X.here hx rfl (hb hby own_d4_4) rfl (flt hbr).1) ?_
    show own_Fin p e below s (own_QP (some (.int (1 : Int32))) h0) 0 0 (T.setTop (mkF m 7 #[.val (.ref x0), .val (.long x1), .second, .val (.long x2), .second, .val (.int x3), .val (.int x4)] []))
    refine own_go (fun tgt => XS.iconst X.here hx rfl (hb hby own_d4_7)) ?_
    show own_Fin p e below s (own_QP (some (.int (1 : Int32))) h0) 0 0 (T.setTop (mkF m 8 #[.val (.ref x0), .val (.long x1), .second, .val (.long x2), .second, .val (.int x3), .val (.int x4)] [(.int (1 : Int32))]))
    exact own_ret X hlk hx (t := .boolean) hret rfl (Or.inl ⟨rfl, by simp, _, rfl⟩) (hb hby own_d4_8) ⟨rfl, rfl, hh⟩ (by decide) (by decide)
theorem own_ok (l : Launch) (Z : State) (a0 : Array Value) (hw : ∀ d ∈ tables_1, d.before a0 Z = true) (x0 : Addr) (x1 : Int64) (x2 : Int64) (x3 : Int32) (x4 : Int32) (f : Int32 → Int32) (h0 : Heap) (n0 : Nat) (Z0 : n0 ≤ h0.size) (hi : ¬ x4 < 0) (hA : own_A Z h0 x0 .byte x3 f) (hf : x4 < x3 → f x4 = ((own_f7_0 x1 x4) ^^^ (own_f7_0 x2 x4)).toInt8.toInt32) : own_Met l Z (⟨"com/example/binlogue/binlogue/replication/AuthMethodXorPinLaw", "okAt", "([BJJII)Z"⟩ : MethodName) method_5_code 7 (some .boolean) [] ({ frames := 1, cells := 0, slots := 0, locals := 20 } : Room) #[(.ref x0), (.long x1), (.long x2), (.int x3), (.int x4)] h0 (own_QP (some (.int (1 : Int32))) h0) :=
  own_enter (plainFor_of_name own_pn0) (own_ef4 x0 x1 x2 x3 x4) hw (fun p e s m below meth c T X C hh => own_ok_w X C hh x0 x1 x2 x3 x4 f n0 Z0 hi hA hf)
theorem own_d3_0 : decode method_6_code 0 = .ok (.aload_n 0, 1) := by decide +kernel
theorem own_d3_1 : decode method_6_code 1 = .ok (.lload_n 1, 1) := by decide +kernel
theorem own_d3_2 : decode method_6_code 2 = .ok (.lload_n 3, 1) := by decide +kernel
theorem own_d3_3 : decode method_6_code 3 = .ok (.iload 5, 2) := by decide +kernel
theorem own_d3_5 : decode method_6_code 5 = .ok (.iconst 0, 1) := by decide +kernel
theorem own_d3_6 : decode method_6_code 6 = .ok (.invokestatic 32, 3) := by decide +kernel
theorem own_d3_9 : decode method_6_code 9 = .ok (.ifCond .eq 43, 3) := by decide +kernel
theorem own_d3_12 : decode method_6_code 12 = .ok (.aload_n 0, 1) := by decide +kernel
theorem own_d3_13 : decode method_6_code 13 = .ok (.lload_n 1, 1) := by decide +kernel
theorem own_d3_14 : decode method_6_code 14 = .ok (.lload_n 3, 1) := by decide +kernel
theorem own_d3_15 : decode method_6_code 15 = .ok (.iload 5, 2) := by decide +kernel
theorem own_d3_17 : decode method_6_code 17 = .ok (.iconst 1, 1) := by decide +kernel
theorem own_d3_18 : decode method_6_code 18 = .ok (.invokestatic 32, 3) := by decide +kernel
theorem own_d3_21 : decode method_6_code 21 = .ok (.ifCond .eq 31, 3) := by decide +kernel
theorem own_d3_24 : decode method_6_code 24 = .ok (.aload_n 0, 1) := by decide +kernel
theorem own_d3_25 : decode method_6_code 25 = .ok (.lload_n 1, 1) := by decide +kernel
theorem own_d3_26 : decode method_6_code 26 = .ok (.lload_n 3, 1) := by decide +kernel
theorem own_d3_27 : decode method_6_code 27 = .ok (.iload 5, 2) := by decide +kernel
theorem own_d3_29 : decode method_6_code 29 = .ok (.iconst 2, 1) := by decide +kernel
theorem own_d3_30 : decode method_6_code 30 = .ok (.invokestatic 32, 3) := by decide +kernel
theorem own_d3_33 : decode method_6_code 33 = .ok (.ifCond .eq 19, 3) := by decide +kernel
theorem own_d3_36 : decode method_6_code 36 = .ok (.aload_n 0, 1) := by decide +kernel
theorem own_d3_37 : decode method_6_code 37 = .ok (.lload_n 1, 1) := by decide +kernel
theorem own_d3_38 : decode method_6_code 38 = .ok (.lload_n 3, 1) := by decide +kernel
theorem own_d3_39 : decode method_6_code 39 = .ok (.iload 5, 2) := by decide +kernel
theorem own_d3_41 : decode method_6_code 41 = .ok (.iconst 3, 1) := by decide +kernel
theorem own_d3_42 : decode method_6_code 42 = .ok (.invokestatic 32, 3) := by decide +kernel
theorem own_d3_45 : decode method_6_code 45 = .ok (.ifCond .eq 7, 3) := by decide +kernel
theorem own_d3_48 : decode method_6_code 48 = .ok (.iconst 1, 1) := by decide +kernel
theorem own_d3_49 : decode method_6_code 49 = .ok (.goto 4, 3) := by decide +kernel
theorem own_d3_52 : decode method_6_code 52 = .ok (.iconst 0, 1) := by decide +kernel
theorem own_d3_53 : decode method_6_code 53 = .ok (.ireturn, 1) := by decide +kernel
theorem own_pd1 : parseMethodDescriptor "([BJJII)Z" = some ⟨[(.array .byte), .long, .long, .int, .int], some .boolean⟩ := by decide +kernel
theorem own_ef3 (x0 : Addr) (x1 : Int64) (x2 : Int64) (x3 : Int32) : ∀ m, entryFrame m #[(.ref x0), (.long x1), (.long x2), (.int x3)] 6 = mkF m 0 #[.val (.ref x0), .val (.long x1), .second, .val (.long x2), .second, .val (.int x3)] [] := fun m => by first | (simp [entryFrame, mkF, argsToLocals, Value.category]; done) | rfl
set_option maxRecDepth 65536 in
set_option maxHeartbeats 40000000 in
theorem own_cr_w {l : Launch} {p : Program} {e : Env} {below : List Frame} {s : State} {m : MethodId} {meth : Method} {c : Code} {Z : State} {a0 args : Array Value} {T : State} {h0 : Heap} (X : Stand p l e ({ frames := 2, cells := 0, slots := 0, locals := 40 } : Room) s m args below meth c T [] 0 0) (C : own_Ctx p s m meth c Z a0 tables_1 (⟨"com/example/binlogue/binlogue/replication/AuthMethodXorPinLaw", "checkResult", "([BJJI)Z"⟩ : MethodName) method_6_code 6 (some .boolean)) (hh : T.heap = h0) (x0 : Addr) (x1 : Int64) (x2 : Int64) (x3 : Int32) (f : Int32 → Int32) (n0 : Nat) (Z0 : n0 ≤ h0.size) (hA : own_A Z h0 x0 .byte x3 f) (hf : ∀ j : Int32, ¬ j < 0 → j < x3 → f j = ((own_f7_0 x1 j) ^^^ (own_f7_0 x2 j)).toInt8.toInt32) :
    own_Fin p e below s (own_QP (some (.int (1 : Int32))) h0) 0 0 (T.setTop (mkF m 0 #[.val (.ref x0), .val (.long x1), .second, .val (.long x2), .second, .val (.int x3)] [])) := by
  obtain ⟨hx, hby, hml, hZ, hown, hnm, hret, hlk, hw⟩ := id C
  show own_Fin p e below s (own_QP (some (.int (1 : Int32))) h0) 0 0 (T.setTop (mkF m 0 #[.val (.ref x0), .val (.long x1), .second, .val (.long x2), .second, .val (.int x3)] []))
  refine own_go (fun tgt => XS.aloadN X.here hx rfl (hb hby own_d3_0) rfl rfl) ?_
  show own_Fin p e below s (own_QP (some (.int (1 : Int32))) h0) 0 0 (T.setTop (mkF m 1 #[.val (.ref x0), .val (.long x1), .second, .val (.long x2), .second, .val (.int x3)] [(.ref x0)]))
  refine own_go (fun tgt => XS.lloadN X.here hx rfl (hb hby own_d3_1) rfl) ?_
  show own_Fin p e below s (own_QP (some (.int (1 : Int32))) h0) 0 0 (T.setTop (mkF m 2 #[.val (.ref x0), .val (.long x1), .second, .val (.long x2), .second, .val (.int x3)] [(.long x1), (.ref x0)]))
  refine own_go (fun tgt => XS.lloadN X.here hx rfl (hb hby own_d3_2) rfl) ?_
  show own_Fin p e below s (own_QP (some (.int (1 : Int32))) h0) 0 0 (T.setTop (mkF m 3 #[.val (.ref x0), .val (.long x1), .second, .val (.long x2), .second, .val (.int x3)] [(.long x2), (.long x1), (.ref x0)]))
  refine own_go (fun tgt => XS.iload X.here hx rfl (hb hby own_d3_3) rfl) ?_
  show own_Fin p e below s (own_QP (some (.int (1 : Int32))) h0) 0 0 (T.setTop (mkF m 5 #[.val (.ref x0), .val (.long x1), .second, .val (.long x2), .second, .val (.int x3)] [(.int x3), (.long x2), (.long x1), (.ref x0)]))
  refine own_go (fun tgt => XS.iconst X.here hx rfl (hb hby own_d3_5)) ?_
  show own_Fin p e below s (own_QP (some (.int (1 : Int32))) h0) 0 0 (T.setTop (mkF m 6 #[.val (.ref x0), .val (.long x1), .second, .val (.long x2), .second, .val (.int x3)] [(.int (0 : Int32)), (.int x3), (.long x2), (.long x1), (.ref x0)]))
  obtain ⟨T1, X1, e1, st1⟩ := own_callP X hx hZ hh (y := (⟨"com/example/binlogue/binlogue/replication/AuthMethodXorPinLaw", "okAt", "([BJJII)Z"⟩ : MethodName)) hown (hw _ (List.mem_of_getElem? (i := 13) rfl)) (hw _ (List.mem_of_getElem? (i := 14) rfl)) (hw _ (List.mem_of_getElem? (i := 4) rfl)) (hw _ (List.mem_of_getElem? (i := 15) rfl)) (by decide) (argsL := [(.ref x0), (.long x1), (.long x2), (.int x3), (.int (0 : Int32))]) (rest := []) (own_ok l Z a0 hw x0 x1 x2 x3 (0 : Int32) f _ 0 (Nat.zero_le _) (by decide) hA (hf (0 : Int32) (by decide))) (by decide) 0 (by decide) (by decide) (by decide) (g := (mkF m 6 #[.val (.ref x0), .val (.long x1), .second, .val (.long x2), .second, .val (.int x3)] [(.int (0 : Int32)), (.int x3), (.long x2), (.long x1), (.ref x0)])) rfl (by rw [hml]; rfl) (lenOf own_pd1 rfl) rfl (by show 2 * 0 + _ ≤ _; exact Nat.le_of_eq rfl) (hb hby own_d3_6)
  refine own_go st1 ?_
  show own_Fin p e below s (own_QP (some (.int (1 : Int32))) h0) 0 0 (T1.setTop (mkF m 9 #[.val (.ref x0), .val (.long x1), .second, .val (.long x2), .second, .val (.int x3)] [(.int (1 : Int32))]))
  refine own_go (fun tgt => XS.ifNo X1.here hx rfl (hb hby own_d3_9) rfl ((if0 _ _).trans (feq (by decide)).1)) ?_
  show own_Fin p e below s (own_QP (some (.int (1 : Int32))) h0) 0 0 (T1.setTop (mkF m 12 #[.val (.ref x0), .val (.long x1), .second, .val (.long x2), .second, .val (.int x3)] []))
  refine own_go (fun tgt => XS.aloadN X1.here hx rfl (hb hby own_d3_12) rfl rfl) ?_
  show own_Fin p e below s (own_QP (some (.int (1 : Int32))) h0) 0 0 (T1.setTop (mkF m 13 #[.val (.ref x0), .val (.long x1), .second, .val (.long x2), .second, .val (.int x3)] [(.ref x0)]))
  refine own_go (fun tgt => XS.lloadN X1.here hx rfl (hb hby own_d3_13) rfl) ?_
  show own_Fin p e below s (own_QP (some (.int (1 : Int32))) h0) 0 0 (T1.setTop (mkF m 14 #[.val (.ref x0), .val (.long x1), .second, .val (.long x2), .second, .val (.int x3)] [(.long x1), (.ref x0)]))
  refine own_go (fun tgt => XS.lloadN X1.here hx rfl (hb hby own_d3_14) rfl) ?_
  show own_Fin p e below s (own_QP (some (.int (1 : Int32))) h0) 0 0 (T1.setTop (mkF m 15 #[.val (.ref x0), .val (.long x1), .second, .val (.long x2), .second, .val (.int x3)] [(.long x2), (.long x1), (.ref x0)]))
  refine own_go (fun tgt => XS.iload X1.here hx rfl (hb hby own_d3_15) rfl) ?_
  show own_Fin p e below s (own_QP (some (.int (1 : Int32))) h0) 0 0 (T1.setTop (mkF m 17 #[.val (.ref x0), .val (.long x1), .second, .val (.long x2), .second, .val (.int x3)] [(.int x3), (.long x2), (.long x1), (.ref x0)]))
  refine own_go (fun tgt => XS.iconst X1.here hx rfl (hb hby own_d3_17)) ?_
  show own_Fin p e below s (own_QP (some (.int (1 : Int32))) h0) 0 0 (T1.setTop (mkF m 18 #[.val (.ref x0), .val (.long x1), .second, .val (.long x2), .second, .val (.int x3)] [(.int (1 : Int32)), (.int x3), (.long x2), (.long x1), (.ref x0)]))
  obtain ⟨T2, X2, e2, st2⟩ := own_callP X1 hx hZ e1 (y := (⟨"com/example/binlogue/binlogue/replication/AuthMethodXorPinLaw", "okAt", "([BJJII)Z"⟩ : MethodName)) hown (hw _ (List.mem_of_getElem? (i := 13) rfl)) (hw _ (List.mem_of_getElem? (i := 14) rfl)) (hw _ (List.mem_of_getElem? (i := 4) rfl)) (hw _ (List.mem_of_getElem? (i := 15) rfl)) (by decide) (argsL := [(.ref x0), (.long x1), (.long x2), (.int x3), (.int (1 : Int32))]) (rest := []) (own_ok l Z a0 hw x0 x1 x2 x3 (1 : Int32) f _ 0 (Nat.zero_le _) (by decide) hA (hf (1 : Int32) (by decide))) (by decide) 0 (by decide) (by decide) (by decide) (g := (mkF m 18 #[.val (.ref x0), .val (.long x1), .second, .val (.long x2), .second, .val (.int x3)] [(.int (1 : Int32)), (.int x3), (.long x2), (.long x1), (.ref x0)])) rfl (by rw [hml]; rfl) (lenOf own_pd1 rfl) rfl (by show 2 * 0 + _ ≤ _; exact Nat.le_of_eq rfl) (hb hby own_d3_18)
  refine own_go st2 ?_
  show own_Fin p e below s (own_QP (some (.int (1 : Int32))) h0) 0 0 (T2.setTop (mkF m 21 #[.val (.ref x0), .val (.long x1), .second, .val (.long x2), .second, .val (.int x3)] [(.int (1 : Int32))]))
  refine own_go (fun tgt => XS.ifNo X2.here hx rfl (hb hby own_d3_21) rfl ((if0 _ _).trans (feq (by decide)).1)) ?_
  show own_Fin p e below s (own_QP (some (.int (1 : Int32))) h0) 0 0 (T2.setTop (mkF m 24 #[.val (.ref x0), .val (.long x1), .second, .val (.long x2), .second, .val (.int x3)] []))
  refine own_go (fun tgt => XS.aloadN X2.here hx rfl (hb hby own_d3_24) rfl rfl) ?_
  show own_Fin p e below s (own_QP (some (.int (1 : Int32))) h0) 0 0 (T2.setTop (mkF m 25 #[.val (.ref x0), .val (.long x1), .second, .val (.long x2), .second, .val (.int x3)] [(.ref x0)]))
  refine own_go (fun tgt => XS.lloadN X2.here hx rfl (hb hby own_d3_25) rfl) ?_
  show own_Fin p e below s (own_QP (some (.int (1 : Int32))) h0) 0 0 (T2.setTop (mkF m 26 #[.val (.ref x0), .val (.long x1), .second, .val (.long x2), .second, .val (.int x3)] [(.long x1), (.ref x0)]))
  refine own_go (fun tgt => XS.lloadN X2.here hx rfl (hb hby own_d3_26) rfl) ?_
  show own_Fin p e below s (own_QP (some (.int (1 : Int32))) h0) 0 0 (T2.setTop (mkF m 27 #[.val (.ref x0), .val (.long x1), .second, .val (.long x2), .second, .val (.int x3)] [(.long x2), (.long x1), (.ref x0)]))
  refine own_go (fun tgt => XS.iload X2.here hx rfl (hb hby own_d3_27) rfl) ?_
  show own_Fin p e below s (own_QP (some (.int (1 : Int32))) h0) 0 0 (T2.setTop (mkF m 29 #[.val (.ref x0), .val (.long x1), .second, .val (.long x2), .second, .val (.int x3)] [(.int x3), (.long x2), (.long x1), (.ref x0)]))
  refine own_go (fun tgt => XS.iconst X2.here hx rfl (hb hby own_d3_29)) ?_
  show own_Fin p e below s (own_QP (some (.int (1 : Int32))) h0) 0 0 (T2.setTop (mkF m 30 #[.val (.ref x0), .val (.long x1), .second, .val (.long x2), .second, .val (.int x3)] [(.int (2 : Int32)), (.int x3), (.long x2), (.long x1), (.ref x0)]))
  obtain ⟨T3, X3, e3, st3⟩ := own_callP X2 hx hZ e2 (y := (⟨"com/example/binlogue/binlogue/replication/AuthMethodXorPinLaw", "okAt", "([BJJII)Z"⟩ : MethodName)) hown (hw _ (List.mem_of_getElem? (i := 13) rfl)) (hw _ (List.mem_of_getElem? (i := 14) rfl)) (hw _ (List.mem_of_getElem? (i := 4) rfl)) (hw _ (List.mem_of_getElem? (i := 15) rfl)) (by decide) (argsL := [(.ref x0), (.long x1), (.long x2), (.int x3), (.int (2 : Int32))]) (rest := []) (own_ok l Z a0 hw x0 x1 x2 x3 (2 : Int32) f _ 0 (Nat.zero_le _) (by decide) hA (hf (2 : Int32) (by decide))) (by decide) 0 (by decide) (by decide) (by decide) (g := (mkF m 30 #[.val (.ref x0), .val (.long x1), .second, .val (.long x2), .second, .val (.int x3)] [(.int (2 : Int32)), (.int x3), (.long x2), (.long x1), (.ref x0)])) rfl (by rw [hml]; rfl) (lenOf own_pd1 rfl) rfl (by show 2 * 0 + _ ≤ _; exact Nat.le_of_eq rfl) (hb hby own_d3_30)
  refine own_go st3 ?_
  show own_Fin p e below s (own_QP (some (.int (1 : Int32))) h0) 0 0 (T3.setTop (mkF m 33 #[.val (.ref x0), .val (.long x1), .second, .val (.long x2), .second, .val (.int x3)] [(.int (1 : Int32))]))
  refine own_go (fun tgt => XS.ifNo X3.here hx rfl (hb hby own_d3_33) rfl ((if0 _ _).trans (feq (by decide)).1)) ?_
  show own_Fin p e below s (own_QP (some (.int (1 : Int32))) h0) 0 0 (T3.setTop (mkF m 36 #[.val (.ref x0), .val (.long x1), .second, .val (.long x2), .second, .val (.int x3)] []))
  refine own_go (fun tgt => XS.aloadN X3.here hx rfl (hb hby own_d3_36) rfl rfl) ?_
  show own_Fin p e below s (own_QP (some (.int (1 : Int32))) h0) 0 0 (T3.setTop (mkF m 37 #[.val (.ref x0), .val (.long x1), .second, .val (.long x2), .second, .val (.int x3)] [(.ref x0)]))
  refine own_go (fun tgt => XS.lloadN X3.here hx rfl (hb hby own_d3_37) rfl) ?_
  show own_Fin p e below s (own_QP (some (.int (1 : Int32))) h0) 0 0 (T3.setTop (mkF m 38 #[.val (.ref x0), .val (.long x1), .second, .val (.long x2), .second, .val (.int x3)] [(.long x1), (.ref x0)]))
  refine own_go (fun tgt => XS.lloadN X3.here hx rfl (hb hby own_d3_38) rfl) ?_
  show own_Fin p e below s (own_QP (some (.int (1 : Int32))) h0) 0 0 (T3.setTop (mkF m 39 #[.val (.ref x0), .val (.long x1), .second, .val (.long x2), .second, .val (.int x3)] [(.long x2), (.long x1), (.ref x0)]))
  refine own_go (fun tgt => XS.iload X3.here hx rfl (hb hby own_d3_39) rfl) ?_
  show own_Fin p e below s (own_QP (some (.int (1 : Int32))) h0) 0 0 (T3.setTop (mkF m 41 #[.val (.ref x0), .val (.long x1), .second, .val (.long x2), .second, .val (.int x3)] [(.int x3), (.long x2), (.long x1), (.ref x0)]))
  refine own_go (fun tgt => XS.iconst X3.here hx rfl (hb hby own_d3_41)) ?_
  show own_Fin p e below s (own_QP (some (.int (1 : Int32))) h0) 0 0 (T3.setTop (mkF m 42 #[.val (.ref x0), .val (.long x1), .second, .val (.long x2), .second, .val (.int x3)] [(.int (3 : Int32)), (.int x3), (.long x2), (.long x1), (.ref x0)]))
  obtain ⟨T4, X4, e4, st4⟩ := own_callP X3 hx hZ e3 (y := (⟨"com/example/binlogue/binlogue/replication/AuthMethodXorPinLaw", "okAt", "([BJJII)Z"⟩ : MethodName)) hown (hw _ (List.mem_of_getElem? (i := 13) rfl)) (hw _ (List.mem_of_getElem? (i := 14) rfl)) (hw _ (List.mem_of_getElem? (i := 4) rfl)) (hw _ (List.mem_of_getElem? (i := 15) rfl)) (by decide) (argsL := [(.ref x0), (.long x1), (.long x2), (.int x3), (.int (3 : Int32))]) (rest := []) (own_ok l Z a0 hw x0 x1 x2 x3 (3 : Int32) f _ 0 (Nat.zero_le _) (by decide) hA (hf (3 : Int32) (by decide))) (by decide) 0 (by decide) (by decide) (by decide) (g := (mkF m 42 #[.val (.ref x0), .val (.long x1), .second, .val (.long x2), .second, .val (.int x3)] [(.int (3 : Int32)), (.int x3), (.long x2), (.long x1), (.ref x0)])) rfl (by rw [hml]; rfl) (lenOf own_pd1 rfl) rfl (by show 2 * 0 + _ ≤ _; exact Nat.le_of_eq rfl) (hb hby own_d3_42)
  refine own_go st4 ?_
  show own_Fin p e below s (own_QP (some (.int (1 : Int32))) h0) 0 0 (T4.setTop (mkF m 45 #[.val (.ref x0), .val (.long x1), .second, .val (.long x2), .second, .val (.int x3)] [(.int (1 : Int32))]))
  refine own_go (fun tgt => XS.ifNo X4.here hx rfl (hb hby own_d3_45) rfl ((if0 _ _).trans (feq (by decide)).1)) ?_
  show own_Fin p e below s (own_QP (some (.int (1 : Int32))) h0) 0 0 (T4.setTop (mkF m 48 #[.val (.ref x0), .val (.long x1), .second, .val (.long x2), .second, .val (.int x3)] []))
  refine own_go (fun tgt => XS.iconst X4.here hx rfl (hb hby own_d3_48)) ?_
  show own_Fin p e below s (own_QP (some (.int (1 : Int32))) h0) 0 0 (T4.setTop (mkF m 49 #[.val (.ref x0), .val (.long x1), .second, .val (.long x2), .second, .val (.int x3)] [(.int (1 : Int32))]))
  refine own_go (fun tgt => XS.goto X4.here hx rfl (pc0 := 49) (pc' := 53) rfl (hb hby own_d3_49) (by decide) (by decide)) ?_
  show own_Fin p e below s (own_QP (some (.int (1 : Int32))) h0) 0 0 (T4.setTop (mkF m 53 #[.val (.ref x0), .val (.long x1), .second, .val (.long x2), .second, .val (.int x3)] [(.int (1 : Int32))]))
  exact own_ret X4 hlk hx (t := .boolean) hret rfl (Or.inl ⟨rfl, by simp, _, rfl⟩) (hb hby own_d3_53) ⟨rfl, rfl, e4⟩ (by decide) (by decide)
theorem own_cr (l : Launch) (Z : State) (a0 : Array Value) (hw : ∀ d ∈ tables_1, d.before a0 Z = true) (x0 : Addr) (x1 : Int64) (x2 : Int64) (x3 : Int32) (f : Int32 → Int32) (h0 : Heap) (n0 : Nat) (Z0 : n0 ≤ h0.size) (hA : own_A Z h0 x0 .byte x3 f) (hf : ∀ j : Int32, ¬ j < 0 → j < x3 → f j = ((own_f7_0 x1 j) ^^^ (own_f7_0 x2 j)).toInt8.toInt32) : own_Met l Z (⟨"com/example/binlogue/binlogue/replication/AuthMethodXorPinLaw", "checkResult", "([BJJI)Z"⟩ : MethodName) method_6_code 6 (some .boolean) [] ({ frames := 2, cells := 0, slots := 0, locals := 40 } : Room) #[(.ref x0), (.long x1), (.long x2), (.int x3)] h0 (own_QP (some (.int (1 : Int32))) h0) :=
  own_enter (plainFor_of_name own_pn0) (own_ef3 x0 x1 x2 x3) hw (fun p e s m below meth c T X C hh => own_cr_w X C hh x0 x1 x2 x3 f n0 Z0 hA hf)
theorem own_d6_0 : decode method_7_code 0 = .ok (.iload_n 3, 1) := by decide +kernel
theorem own_d6_1 : decode method_7_code 1 = .ok (.aload_n 0, 1) := by decide +kernel
theorem own_d6_2 : decode method_7_code 2 = .ok (.arraylength, 1) := by decide +kernel
theorem own_d6_3 : decode method_7_code 3 = .ok (.if_icmp .lt 5, 3) := by decide +kernel
theorem own_d6_6 : decode method_7_code 6 = .ok (.iconst 1, 1) := by decide +kernel
theorem own_d6_7 : decode method_7_code 7 = .ok (.ireturn, 1) := by decide +kernel
theorem own_d6_8 : decode method_7_code 8 = .ok (.aload_n 0, 1) := by decide +kernel
theorem own_d6_9 : decode method_7_code 9 = .ok (.iload_n 3, 1) := by decide +kernel
theorem own_d6_10 : decode method_7_code 10 = .ok (.baload, 1) := by decide +kernel
theorem own_d6_11 : decode method_7_code 11 = .ok (.lload_n 1, 1) := by decide +kernel
theorem own_d6_12 : decode method_7_code 12 = .ok (.iload_n 3, 1) := by decide +kernel
theorem own_d6_13 : decode method_7_code 13 = .ok (.invokestatic 28, 3) := by decide +kernel
theorem own_d6_16 : decode method_7_code 16 = .ok (.if_icmp .ne 7, 3) := by decide +kernel
theorem own_d6_19 : decode method_7_code 19 = .ok (.iconst 1, 1) := by decide +kernel
theorem own_d6_20 : decode method_7_code 20 = .ok (.goto 4, 3) := by decide +kernel
theorem own_d6_23 : decode method_7_code 23 = .ok (.iconst 0, 1) := by decide +kernel
theorem own_d6_24 : decode method_7_code 24 = .ok (.ireturn, 1) := by decide +kernel
theorem own_ef6 (x0 : Addr) (x1 : Int64) (x2 : Int32) : ∀ m, entryFrame m #[(.ref x0), (.long x1), (.int x2)] 4 = mkF m 0 #[.val (.ref x0), .val (.long x1), .second, .val (.int x2)] [] := fun m => by first | (simp [entryFrame, mkF, argsToLocals, Value.category]; done) | rfl
set_option maxRecDepth 65536 in
set_option maxHeartbeats 40000000 in
theorem own_ma_w {l : Launch} {p : Program} {e : Env} {below : List Frame} {s : State} {m : MethodId} {meth : Method} {c : Code} {Z : State} {a0 args : Array Value} {T : State} {h0 : Heap} (X : Stand p l e ({ frames := 1, cells := 0, slots := 0, locals := 18 } : Room) s m args below meth c T [] 0 0) (C : own_Ctx p s m meth c Z a0 tables_1 (⟨"com/example/binlogue/binlogue/replication/AuthMethodXorPinLaw", "maskAt", "([BJI)Z"⟩ : MethodName) method_7_code 4 (some .boolean)) (hh : T.heap = h0) (x0 : Addr) (x1 : Int64) (x2 : Int32) (z : Int32) (f : Int32 → Int32) (n0 : Nat) (Z0 : n0 ≤ h0.size) (hi : ¬ x2 < 0) (hA : own_A Z h0 x0 .byte z f) (hf : x2 < z → f x2 = (own_f7_0 x1 x2)) :
    own_Fin p e below s (own_QP (some (.int (1 : Int32))) h0) 0 0 (T.setTop (mkF m 0 #[.val (.ref x0), .val (.long x1), .second, .val (.int x2)] [])) := by
  obtain ⟨hx, hby, hml, hZ, hown, hnm, hret, hlk, hw⟩ := id C
  show own_Fin p e below s (own_QP (some (.int (1 : Int32))) h0) 0 0 (T.setTop (mkF m 0 #[.val (.ref x0), .val (.long x1), .second, .val (.int x2)] []))
  refine own_go (fun tgt => XS.iloadN X.here hx rfl (hb hby own_d6_0) rfl) ?_
  show own_Fin p e below s (own_QP (some (.int (1 : Int32))) h0) 0 0 (T.setTop (mkF m 1 #[.val (.ref x0), .val (.long x1), .second, .val (.int x2)] [(.int x2)]))
  refine own_go (fun tgt => XS.aloadN X.here hx rfl (hb hby own_d6_1) rfl rfl) ?_
  show own_Fin p e below s (own_QP (some (.int (1 : Int32))) h0) 0 0 (T.setTop (mkF m 2 #[.val (.ref x0), .val (.long x1), .second, .val (.int x2)] [(.ref x0), (.int x2)]))
  refine own_go (own_len X hx hZ hh hA (g := (mkF m 2 #[.val (.ref x0), .val (.long x1), .second, .val (.int x2)] [(.ref x0), (.int x2)])) rfl rfl (hb hby own_d6_2)) ?_
  show own_Fin p e below s (own_QP (some (.int (1 : Int32))) h0) 0 0 (T.setTop (mkF m 3 #[.val (.ref x0), .val (.long x1), .second, .val (.int x2)] [(.int z), (.int x2)]))
  by_cases hbr : x2 < z
  · refine own_go (fun tgt => XS.icmpYes X.here hx rfl (pc0 := 3) (pc' := 8) rfl (hb hby own_d6_3) rfl (tlt hbr).1 (by decide) (by decide)) ?_
    show own_Fin p e below s (own_QP (some (.int (1 : Int32))) h0) 0 0 (T.setTop (mkF m 8 #[.val (.ref x0), .val (.long x1), .second, .val (.int x2)] []))
    refine own_go (fun tgt => XS.aloadN X.here hx rfl (hb hby own_d6_8) rfl rfl) ?_
    show own_Fin p e below s (own_QP (some (.int (1 : Int32))) h0) 0 0 (T.setTop (mkF m 9 #[.val (.ref x0), .val (.long x1), .second, .val (.int x2)] [(.ref x0)]))
    refine own_go (fun tgt => XS.iloadN X.here hx rfl (hb hby own_d6_9) rfl) ?_
    show own_Fin p e below s (own_QP (some (.int (1 : Int32))) h0) 0 0 (T.setTop (mkF m 10 #[.val (.ref x0), .val (.long x1), .second, .val (.int x2)] [(.int x2), (.ref x0)]))
    refine own_go (own_ldB X hx hZ hh hA (j := x2) hi hbr (g := (mkF m 10 #[.val (.ref x0), .val (.long x1), .second, .val (.int x2)] [(.int x2), (.ref x0)])) rfl rfl (hb hby own_d6_10)) ?_
    show own_Fin p e below s (own_QP (some (.int (1 : Int32))) h0) 0 0 (T.setTop (mkF m 11 #[.val (.ref x0), .val (.long x1), .second, .val (.int x2)] [(.int (f x2))]))
    refine own_go (fun tgt => XS.lloadN X.here hx rfl (hb hby own_d6_11) rfl) ?_
    show own_Fin p e below s (own_QP (some (.int (1 : Int32))) h0) 0 0 (T.setTop (mkF m 12 #[.val (.ref x0), .val (.long x1), .second, .val (.int x2)] [(.long x1), (.int (f x2))]))
    refine own_go (fun tgt => XS.iloadN X.here hx rfl (hb hby own_d6_12) rfl) ?_
    show own_Fin p e below s (own_QP (some (.int (1 : Int32))) h0) 0 0 (T.setTop (mkF m 13 #[.val (.ref x0), .val (.long x1), .second, .val (.int x2)] [(.int x2), (.long x1), (.int (f x2))]))
    obtain ⟨T101, X101, e101, st101⟩ := own_callP X hx hZ hh (y := (⟨"com/example/binlogue/binlogue/replication/AuthMethodXorPinLaw", "at", "(JI)B"⟩ : MethodName)) hown (hw _ (List.mem_of_getElem? (i := 22) rfl)) (hw _ (List.mem_of_getElem? (i := 23) rfl)) (hw _ (List.mem_of_getElem? (i := 4) rfl)) (hw _ (List.mem_of_getElem? (i := 24) rfl)) (by decide) (argsL := [(.long x1), (.int x2)]) (rest := [(.int (f x2))]) (own_c7 l Z a0 hw x1 x2 _) (by decide) 1 (by decide) (by decide) (by decide) (g := (mkF m 13 #[.val (.ref x0), .val (.long x1), .second, .val (.int x2)] [(.int x2), (.long x1), (.int (f x2))])) rfl (by rw [hml]; rfl) (lenOf own_pd0 rfl) rfl (by show 2 * 0 + _ ≤ _; exact Nat.le_of_eq rfl) (hb hby own_d6_13)
    refine own_go st101 ?_
    show own_Fin p e below s (own_QP (some (.int (1 : Int32))) h0) 0 0 (T101.setTop (mkF m 16 #[.val (.ref x0), .val (.long x1), .second, .val (.int x2)] [(.int (own_f7_0 x1 x2)), (.int (f x2))]))
    refine own_go (fun tgt => XS.icmpNo X101.here hx rfl (hb hby own_d6_16) rfl (teq (hf hbr)).2) ?_
    show own_Fin p e below s (own_QP (some (.int (1 : Int32))) h0) 0 0 (T101.setTop (mkF m 19 #[.val (.ref x0), .val (.long x1), .second, .val (.int x2)] []))
    refine own_go (fun tgt => XS.iconst X101.here hx rfl (hb hby own_d6_19)) ?_
    show own_Fin p e below s (own_QP (some (.int (1 : Int32))) h0) 0 0 (T101.setTop (mkF m 20 #[.val (.ref x0), .val (.long x1), .second, .val (.int x2)] [(.int (1 : Int32))]))
    refine own_go (fun tgt => XS.goto X101.here hx rfl (pc0 := 20) (pc' := 24) rfl (hb hby own_d6_20) (by decide) (by decide)) ?_
    show own_Fin p e below s (own_QP (some (.int (1 : Int32))) h0) 0 0 (T101.setTop (mkF m 24 #[.val (.ref x0), .val (.long x1), .second, .val (.int x2)] [(.int (1 : Int32))]))
    exact own_ret X101 hlk hx (t := .boolean) hret rfl (Or.inl ⟨rfl, by simp, _, rfl⟩) (hb hby own_d6_24) ⟨rfl, rfl, e101⟩ (by decide) (by decide)
  · refine own_go (fun tgt => XS.icmpNo X.here hx rfl (hb hby own_d6_3) rfl (flt hbr).1) ?_
    show own_Fin p e below s (own_QP (some (.int (1 : Int32))) h0) 0 0 (T.setTop (mkF m 6 #[.val (.ref x0), .val (.long x1), .second, .val (.int x2)] []))
    refine own_go (fun tgt => XS.iconst X.here hx rfl (hb hby own_d6_6)) ?_
    show own_Fin p e below s (own_QP (some (.int (1 : Int32))) h0) 0 0 (T.setTop (mkF m 7 #[.val (.ref x0), .val (.long x1), .second, .val (.int x2)] [(.int (1 : Int32))]))
    exact own_ret X hlk hx (t := .boolean) hret rfl (Or.inl ⟨rfl, by simp, _, rfl⟩) (hb hby own_d6_7) ⟨rfl, rfl, hh⟩ (by decide) (by decide)
theorem own_ma (l : Launch) (Z : State) (a0 : Array Value) (hw : ∀ d ∈ tables_1, d.before a0 Z = true) (x0 : Addr) (x1 : Int64) (x2 : Int32) (z : Int32) (f : Int32 → Int32) (h0 : Heap) (n0 : Nat) (Z0 : n0 ≤ h0.size) (hi : ¬ x2 < 0) (hA : own_A Z h0 x0 .byte z f) (hf : x2 < z → f x2 = (own_f7_0 x1 x2)) : own_Met l Z (⟨"com/example/binlogue/binlogue/replication/AuthMethodXorPinLaw", "maskAt", "([BJI)Z"⟩ : MethodName) method_7_code 4 (some .boolean) [] ({ frames := 1, cells := 0, slots := 0, locals := 18 } : Room) #[(.ref x0), (.long x1), (.int x2)] h0 (own_QP (some (.int (1 : Int32))) h0) :=
  own_enter (plainFor_of_name own_pn0) (own_ef6 x0 x1 x2) hw (fun p e s m below meth c T X C hh => own_ma_w X C hh x0 x1 x2 z f n0 Z0 hi hA hf)
theorem own_d5_0 : decode method_8_code 0 = .ok (.aload_n 0, 1) := by decide +kernel
theorem own_d5_1 : decode method_8_code 1 = .ok (.lload_n 1, 1) := by decide +kernel
theorem own_d5_2 : decode method_8_code 2 = .ok (.iconst 0, 1) := by decide +kernel
theorem own_d5_3 : decode method_8_code 3 = .ok (.invokestatic 36, 3) := by decide +kernel
theorem own_d5_6 : decode method_8_code 6 = .ok (.ifCond .eq 43, 3) := by decide +kernel
theorem own_d5_9 : decode method_8_code 9 = .ok (.aload_n 0, 1) := by decide +kernel
theorem own_d5_10 : decode method_8_code 10 = .ok (.lload_n 1, 1) := by decide +kernel
theorem own_d5_11 : decode method_8_code 11 = .ok (.iconst 1, 1) := by decide +kernel
theorem own_d5_12 : decode method_8_code 12 = .ok (.invokestatic 36, 3) := by decide +kernel
theorem own_d5_15 : decode method_8_code 15 = .ok (.ifCond .eq 34, 3) := by decide +kernel
theorem own_d5_18 : decode method_8_code 18 = .ok (.aload_n 0, 1) := by decide +kernel
theorem own_d5_19 : decode method_8_code 19 = .ok (.lload_n 1, 1) := by decide +kernel
theorem own_d5_20 : decode method_8_code 20 = .ok (.iconst 2, 1) := by decide +kernel
theorem own_d5_21 : decode method_8_code 21 = .ok (.invokestatic 36, 3) := by decide +kernel
theorem own_d5_24 : decode method_8_code 24 = .ok (.ifCond .eq 25, 3) := by decide +kernel
theorem own_d5_27 : decode method_8_code 27 = .ok (.aload_n 0, 1) := by decide +kernel
theorem own_d5_28 : decode method_8_code 28 = .ok (.lload_n 1, 1) := by decide +kernel
theorem own_d5_29 : decode method_8_code 29 = .ok (.iconst 3, 1) := by decide +kernel
theorem own_d5_30 : decode method_8_code 30 = .ok (.invokestatic 36, 3) := by decide +kernel
theorem own_d5_33 : decode method_8_code 33 = .ok (.ifCond .eq 16, 3) := by decide +kernel
theorem own_d5_36 : decode method_8_code 36 = .ok (.aload_n 0, 1) := by decide +kernel
theorem own_d5_37 : decode method_8_code 37 = .ok (.lload_n 1, 1) := by decide +kernel
theorem own_d5_38 : decode method_8_code 38 = .ok (.iconst 4, 1) := by decide +kernel
theorem own_d5_39 : decode method_8_code 39 = .ok (.invokestatic 36, 3) := by decide +kernel
theorem own_d5_42 : decode method_8_code 42 = .ok (.ifCond .eq 7, 3) := by decide +kernel
theorem own_d5_45 : decode method_8_code 45 = .ok (.iconst 1, 1) := by decide +kernel
theorem own_d5_46 : decode method_8_code 46 = .ok (.goto 4, 3) := by decide +kernel
theorem own_d5_49 : decode method_8_code 49 = .ok (.iconst 0, 1) := by decide +kernel
theorem own_d5_50 : decode method_8_code 50 = .ok (.ireturn, 1) := by decide +kernel
theorem own_pd2 : parseMethodDescriptor "([BJI)Z" = some ⟨[(.array .byte), .long, .int], some .boolean⟩ := by decide +kernel
theorem own_ef5 (x0 : Addr) (x1 : Int64) : ∀ m, entryFrame m #[(.ref x0), (.long x1)] 3 = mkF m 0 #[.val (.ref x0), .val (.long x1), .second] [] := fun m => by first | (simp [entryFrame, mkF, argsToLocals, Value.category]; done) | rfl
set_option maxRecDepth 65536 in
set_option maxHeartbeats 40000000 in
theorem own_cm_w {l : Launch} {p : Program} {e : Env} {below : List Frame} {s : State} {m : MethodId} {meth : Method} {c : Code} {Z : State} {a0 args : Array Value} {T : State} {h0 : Heap} (X : Stand p l e ({ frames := 2, cells := 0, slots := 0, locals := 36 } : Room) s m args below meth c T [] 0 0) (C : own_Ctx p s m meth c Z a0 tables_1 (⟨"com/example/binlogue/binlogue/replication/AuthMethodXorPinLaw", "checkMask", "([BJ)Z"⟩ : MethodName) method_8_code 3 (some .boolean)) (hh : T.heap = h0) (x0 : Addr) (x1 : Int64) (z : Int32) (f : Int32 → Int32) (n0 : Nat) (Z0 : n0 ≤ h0.size) (hA : own_A Z h0 x0 .byte z f) (hf : ∀ j : Int32, ¬ j < 0 → j < z → f j = (own_f7_0 x1 j)) :
    own_Fin p e below s (own_QP (some (.int (1 : Int32))) h0) 0 0 (T.setTop (mkF m 0 #[.val (.ref x0), .val (.long x1), .second] [])) := by
  obtain ⟨hx, hby, hml, hZ, hown, hnm, hret, hlk, hw⟩ := id C
  show own_Fin p e below s (own_QP (some (.int (1 : Int32))) h0) 0 0 (T.setTop (mkF m 0 #[.val (.ref x0), .val (.long x1), .second] []))
  refine own_go (fun tgt => XS.aloadN X.here hx rfl (hb hby own_d5_0) rfl rfl) ?_
  show own_Fin p e below s (own_QP (some (.int (1 : Int32))) h0) 0 0 (T.setTop (mkF m 1 #[.val (.ref x0), .val (.long x1), .second] [(.ref x0)]))
  refine own_go (fun tgt => XS.lloadN X.here hx rfl (hb hby own_d5_1) rfl) ?_
  show own_Fin p e below s (own_QP (some (.int (1 : Int32))) h0) 0 0 (T.setTop (mkF m 2 #[.val (.ref x0), .val (.long x1), .second] [(.long x1), (.ref x0)]))
  refine own_go (fun tgt => XS.iconst X.here hx rfl (hb hby own_d5_2)) ?_
  show own_Fin p e below s (own_QP (some (.int (1 : Int32))) h0) 0 0 (T.setTop (mkF m 3 #[.val (.ref x0), .val (.long x1), .second] [(.int (0 : Int32)), (.long x1), (.ref x0)]))
  obtain ⟨T1, X1, e1, st1⟩ := own_callP X hx hZ hh (y := (⟨"com/example/binlogue/binlogue/replication/AuthMethodXorPinLaw", "maskAt", "([BJI)Z"⟩ : MethodName)) hown (hw _ (List.mem_of_getElem? (i := 19) rfl)) (hw _ (List.mem_of_getElem? (i := 20) rfl)) (hw _ (List.mem_of_getElem? (i := 4) rfl)) (hw _ (List.mem_of_getElem? (i := 21) rfl)) (by decide) (argsL := [(.ref x0), (.long x1), (.int (0 : Int32))]) (rest := []) (own_ma l Z a0 hw x0 x1 (0 : Int32) z f _ 0 (Nat.zero_le _) (by decide) hA (hf (0 : Int32) (by decide))) (by decide) 0 (by decide) (by decide) (by decide) (g := (mkF m 3 #[.val (.ref x0), .val (.long x1), .second] [(.int (0 : Int32)), (.long x1), (.ref x0)])) rfl (by rw [hml]; rfl) (lenOf own_pd2 rfl) rfl (by show 2 * 0 + _ ≤ _; exact Nat.le_of_eq rfl) (hb hby own_d5_3)
  refine own_go st1 ?_
  show own_Fin p e below s (own_QP (some (.int (1 : Int32))) h0) 0 0 (T1.setTop (mkF m 6 #[.val (.ref x0), .val (.long x1), .second] [(.int (1 : Int32))]))
  refine own_go (fun tgt => XS.ifNo X1.here hx rfl (hb hby own_d5_6) rfl ((if0 _ _).trans (feq (by decide)).1)) ?_
  show own_Fin p e below s (own_QP (some (.int (1 : Int32))) h0) 0 0 (T1.setTop (mkF m 9 #[.val (.ref x0), .val (.long x1), .second] []))
  refine own_go (fun tgt => XS.aloadN X1.here hx rfl (hb hby own_d5_9) rfl rfl) ?_
  show own_Fin p e below s (own_QP (some (.int (1 : Int32))) h0) 0 0 (T1.setTop (mkF m 10 #[.val (.ref x0), .val (.long x1), .second] [(.ref x0)]))
  refine own_go (fun tgt => XS.lloadN X1.here hx rfl (hb hby own_d5_10) rfl) ?_
  show own_Fin p e below s (own_QP (some (.int (1 : Int32))) h0) 0 0 (T1.setTop (mkF m 11 #[.val (.ref x0), .val (.long x1), .second] [(.long x1), (.ref x0)]))
  refine own_go (fun tgt => XS.iconst X1.here hx rfl (hb hby own_d5_11)) ?_
  show own_Fin p e below s (own_QP (some (.int (1 : Int32))) h0) 0 0 (T1.setTop (mkF m 12 #[.val (.ref x0), .val (.long x1), .second] [(.int (1 : Int32)), (.long x1), (.ref x0)]))
  obtain ⟨T2, X2, e2, st2⟩ := own_callP X1 hx hZ e1 (y := (⟨"com/example/binlogue/binlogue/replication/AuthMethodXorPinLaw", "maskAt", "([BJI)Z"⟩ : MethodName)) hown (hw _ (List.mem_of_getElem? (i := 19) rfl)) (hw _ (List.mem_of_getElem? (i := 20) rfl)) (hw _ (List.mem_of_getElem? (i := 4) rfl)) (hw _ (List.mem_of_getElem? (i := 21) rfl)) (by decide) (argsL := [(.ref x0), (.long x1), (.int (1 : Int32))]) (rest := []) (own_ma l Z a0 hw x0 x1 (1 : Int32) z f _ 0 (Nat.zero_le _) (by decide) hA (hf (1 : Int32) (by decide))) (by decide) 0 (by decide) (by decide) (by decide) (g := (mkF m 12 #[.val (.ref x0), .val (.long x1), .second] [(.int (1 : Int32)), (.long x1), (.ref x0)])) rfl (by rw [hml]; rfl) (lenOf own_pd2 rfl) rfl (by show 2 * 0 + _ ≤ _; exact Nat.le_of_eq rfl) (hb hby own_d5_12)
  refine own_go st2 ?_
  show own_Fin p e below s (own_QP (some (.int (1 : Int32))) h0) 0 0 (T2.setTop (mkF m 15 #[.val (.ref x0), .val (.long x1), .second] [(.int (1 : Int32))]))
  refine own_go (fun tgt => XS.ifNo X2.here hx rfl (hb hby own_d5_15) rfl ((if0 _ _).trans (feq (by decide)).1)) ?_
  show own_Fin p e below s (own_QP (some (.int (1 : Int32))) h0) 0 0 (T2.setTop (mkF m 18 #[.val (.ref x0), .val (.long x1), .second] []))
  refine own_go (fun tgt => XS.aloadN X2.here hx rfl (hb hby own_d5_18) rfl rfl) ?_
  show own_Fin p e below s (own_QP (some (.int (1 : Int32))) h0) 0 0 (T2.setTop (mkF m 19 #[.val (.ref x0), .val (.long x1), .second] [(.ref x0)]))
  refine own_go (fun tgt => XS.lloadN X2.here hx rfl (hb hby own_d5_19) rfl) ?_
  show own_Fin p e below s (own_QP (some (.int (1 : Int32))) h0) 0 0 (T2.setTop (mkF m 20 #[.val (.ref x0), .val (.long x1), .second] [(.long x1), (.ref x0)]))
  refine own_go (fun tgt => XS.iconst X2.here hx rfl (hb hby own_d5_20)) ?_
  show own_Fin p e below s (own_QP (some (.int (1 : Int32))) h0) 0 0 (T2.setTop (mkF m 21 #[.val (.ref x0), .val (.long x1), .second] [(.int (2 : Int32)), (.long x1), (.ref x0)]))
  obtain ⟨T3, X3, e3, st3⟩ := own_callP X2 hx hZ e2 (y := (⟨"com/example/binlogue/binlogue/replication/AuthMethodXorPinLaw", "maskAt", "([BJI)Z"⟩ : MethodName)) hown (hw _ (List.mem_of_getElem? (i := 19) rfl)) (hw _ (List.mem_of_getElem? (i := 20) rfl)) (hw _ (List.mem_of_getElem? (i := 4) rfl)) (hw _ (List.mem_of_getElem? (i := 21) rfl)) (by decide) (argsL := [(.ref x0), (.long x1), (.int (2 : Int32))]) (rest := []) (own_ma l Z a0 hw x0 x1 (2 : Int32) z f _ 0 (Nat.zero_le _) (by decide) hA (hf (2 : Int32) (by decide))) (by decide) 0 (by decide) (by decide) (by decide) (g := (mkF m 21 #[.val (.ref x0), .val (.long x1), .second] [(.int (2 : Int32)), (.long x1), (.ref x0)])) rfl (by rw [hml]; rfl) (lenOf own_pd2 rfl) rfl (by show 2 * 0 + _ ≤ _; exact Nat.le_of_eq rfl) (hb hby own_d5_21)
  refine own_go st3 ?_
  show own_Fin p e below s (own_QP (some (.int (1 : Int32))) h0) 0 0 (T3.setTop (mkF m 24 #[.val (.ref x0), .val (.long x1), .second] [(.int (1 : Int32))]))
  refine own_go (fun tgt => XS.ifNo X3.here hx rfl (hb hby own_d5_24) rfl ((if0 _ _).trans (feq (by decide)).1)) ?_
  show own_Fin p e below s (own_QP (some (.int (1 : Int32))) h0) 0 0 (T3.setTop (mkF m 27 #[.val (.ref x0), .val (.long x1), .second] []))
  refine own_go (fun tgt => XS.aloadN X3.here hx rfl (hb hby own_d5_27) rfl rfl) ?_
  show own_Fin p e below s (own_QP (some (.int (1 : Int32))) h0) 0 0 (T3.setTop (mkF m 28 #[.val (.ref x0), .val (.long x1), .second] [(.ref x0)]))
  refine own_go (fun tgt => XS.lloadN X3.here hx rfl (hb hby own_d5_28) rfl) ?_
  show own_Fin p e below s (own_QP (some (.int (1 : Int32))) h0) 0 0 (T3.setTop (mkF m 29 #[.val (.ref x0), .val (.long x1), .second] [(.long x1), (.ref x0)]))
  refine own_go (fun tgt => XS.iconst X3.here hx rfl (hb hby own_d5_29)) ?_
  show own_Fin p e below s (own_QP (some (.int (1 : Int32))) h0) 0 0 (T3.setTop (mkF m 30 #[.val (.ref x0), .val (.long x1), .second] [(.int (3 : Int32)), (.long x1), (.ref x0)]))
  obtain ⟨T4, X4, e4, st4⟩ := own_callP X3 hx hZ e3 (y := (⟨"com/example/binlogue/binlogue/replication/AuthMethodXorPinLaw", "maskAt", "([BJI)Z"⟩ : MethodName)) hown (hw _ (List.mem_of_getElem? (i := 19) rfl)) (hw _ (List.mem_of_getElem? (i := 20) rfl)) (hw _ (List.mem_of_getElem? (i := 4) rfl)) (hw _ (List.mem_of_getElem? (i := 21) rfl)) (by decide) (argsL := [(.ref x0), (.long x1), (.int (3 : Int32))]) (rest := []) (own_ma l Z a0 hw x0 x1 (3 : Int32) z f _ 0 (Nat.zero_le _) (by decide) hA (hf (3 : Int32) (by decide))) (by decide) 0 (by decide) (by decide) (by decide) (g := (mkF m 30 #[.val (.ref x0), .val (.long x1), .second] [(.int (3 : Int32)), (.long x1), (.ref x0)])) rfl (by rw [hml]; rfl) (lenOf own_pd2 rfl) rfl (by show 2 * 0 + _ ≤ _; exact Nat.le_of_eq rfl) (hb hby own_d5_30)
  refine own_go st4 ?_
  show own_Fin p e below s (own_QP (some (.int (1 : Int32))) h0) 0 0 (T4.setTop (mkF m 33 #[.val (.ref x0), .val (.long x1), .second] [(.int (1 : Int32))]))
  refine own_go (fun tgt => XS.ifNo X4.here hx rfl (hb hby own_d5_33) rfl ((if0 _ _).trans (feq (by decide)).1)) ?_
  show own_Fin p e below s (own_QP (some (.int (1 : Int32))) h0) 0 0 (T4.setTop (mkF m 36 #[.val (.ref x0), .val (.long x1), .second] []))
  refine own_go (fun tgt => XS.aloadN X4.here hx rfl (hb hby own_d5_36) rfl rfl) ?_
  show own_Fin p e below s (own_QP (some (.int (1 : Int32))) h0) 0 0 (T4.setTop (mkF m 37 #[.val (.ref x0), .val (.long x1), .second] [(.ref x0)]))
  refine own_go (fun tgt => XS.lloadN X4.here hx rfl (hb hby own_d5_37) rfl) ?_
  show own_Fin p e below s (own_QP (some (.int (1 : Int32))) h0) 0 0 (T4.setTop (mkF m 38 #[.val (.ref x0), .val (.long x1), .second] [(.long x1), (.ref x0)]))
  refine own_go (fun tgt => XS.iconst X4.here hx rfl (hb hby own_d5_38)) ?_
  show own_Fin p e below s (own_QP (some (.int (1 : Int32))) h0) 0 0 (T4.setTop (mkF m 39 #[.val (.ref x0), .val (.long x1), .second] [(.int (4 : Int32)), (.long x1), (.ref x0)]))
  obtain ⟨T5, X5, e5, st5⟩ := own_callP X4 hx hZ e4 (y := (⟨"com/example/binlogue/binlogue/replication/AuthMethodXorPinLaw", "maskAt", "([BJI)Z"⟩ : MethodName)) hown (hw _ (List.mem_of_getElem? (i := 19) rfl)) (hw _ (List.mem_of_getElem? (i := 20) rfl)) (hw _ (List.mem_of_getElem? (i := 4) rfl)) (hw _ (List.mem_of_getElem? (i := 21) rfl)) (by decide) (argsL := [(.ref x0), (.long x1), (.int (4 : Int32))]) (rest := []) (own_ma l Z a0 hw x0 x1 (4 : Int32) z f _ 0 (Nat.zero_le _) (by decide) hA (hf (4 : Int32) (by decide))) (by decide) 0 (by decide) (by decide) (by decide) (g := (mkF m 39 #[.val (.ref x0), .val (.long x1), .second] [(.int (4 : Int32)), (.long x1), (.ref x0)])) rfl (by rw [hml]; rfl) (lenOf own_pd2 rfl) rfl (by show 2 * 0 + _ ≤ _; exact Nat.le_of_eq rfl) (hb hby own_d5_39)
  refine own_go st5 ?_
  show own_Fin p e below s (own_QP (some (.int (1 : Int32))) h0) 0 0 (T5.setTop (mkF m 42 #[.val (.ref x0), .val (.long x1), .second] [(.int (1 : Int32))]))
  refine own_go (fun tgt => XS.ifNo X5.here hx rfl (hb hby own_d5_42) rfl ((if0 _ _).trans (feq (by decide)).1)) ?_
  show own_Fin p e below s (own_QP (some (.int (1 : Int32))) h0) 0 0 (T5.setTop (mkF m 45 #[.val (.ref x0), .val (.long x1), .second] []))
  refine own_go (fun tgt => XS.iconst X5.here hx rfl (hb hby own_d5_45)) ?_
  show own_Fin p e below s (own_QP (some (.int (1 : Int32))) h0) 0 0 (T5.setTop (mkF m 46 #[.val (.ref x0), .val (.long x1), .second] [(.int (1 : Int32))]))
  refine own_go (fun tgt => XS.goto X5.here hx rfl (pc0 := 46) (pc' := 50) rfl (hb hby own_d5_46) (by decide) (by decide)) ?_
  show own_Fin p e below s (own_QP (some (.int (1 : Int32))) h0) 0 0 (T5.setTop (mkF m 50 #[.val (.ref x0), .val (.long x1), .second] [(.int (1 : Int32))]))
  exact own_ret X5 hlk hx (t := .boolean) hret rfl (Or.inl ⟨rfl, by simp, _, rfl⟩) (hb hby own_d5_50) ⟨rfl, rfl, e5⟩ (by decide) (by decide)
theorem own_cm (l : Launch) (Z : State) (a0 : Array Value) (hw : ∀ d ∈ tables_1, d.before a0 Z = true) (x0 : Addr) (x1 : Int64) (z : Int32) (f : Int32 → Int32) (h0 : Heap) (n0 : Nat) (Z0 : n0 ≤ h0.size) (hA : own_A Z h0 x0 .byte z f) (hf : ∀ j : Int32, ¬ j < 0 → j < z → f j = (own_f7_0 x1 j)) : own_Met l Z (⟨"com/example/binlogue/binlogue/replication/AuthMethodXorPinLaw", "checkMask", "([BJ)Z"⟩ : MethodName) method_8_code 3 (some .boolean) [] ({ frames := 2, cells := 0, slots := 0, locals := 36 } : Room) #[(.ref x0), (.long x1)] h0 (own_QP (some (.int (1 : Int32))) h0) :=
  own_enter (plainFor_of_name own_pn0) (own_ef5 x0 x1) hw (fun p e s m below meth c T X C hh => own_cm_w X C hh x0 x1 z f n0 Z0 hA hf)
theorem own_n5 (n q : Int32) (h : 0 ≤ n.toInt ∧ n.toInt < 5) (hq : 0 ≤ q.toInt ∧ q.toInt < 2) : (n + q).toInt = n.toInt + q.toInt := by
  have a := c_iadd n q
  have r := rng32 (n + q)
  omega
theorem own_ef0 (x0 : Int64) (x1 : Int64) (x2 : Int32) : ∀ m, entryFrame m #[(.long x0), (.long x1), (.int x2)] maxLocals = mkF m 0 #[.val (.long x0), .second, .val (.long x1), .second, .val (.int x2), .unset, .unset, .unset, .unset, .unset] [] := fun m => by first | (simp [entryFrame, mkF, argsToLocals, Value.category, maxLocals]; done) | rfl
theorem own_pd3 : parseMethodDescriptor "([BJ)V" = some ⟨[(.array .byte), .long], none⟩ := by decide +kernel
theorem own_pd4 : parseMethodDescriptor "([B[B)[B" = some ⟨[(.array .byte), (.array .byte)], some (.array .byte)⟩ := by decide +kernel
theorem own_pd5 : parseMethodDescriptor "([BJJI)Z" = some ⟨[(.array .byte), .long, .long, .int], some .boolean⟩ := by decide +kernel
theorem own_pd6 : parseMethodDescriptor "([BJ)Z" = some ⟨[(.array .byte), .long], some .boolean⟩ := by decide +kernel
def own_Q0 (n0 : Nat) (v : Option Value) (h : Heap) (L : List Loc) : Prop := v = some (.int 1) ∧ Fr n0 L
set_option maxRecDepth 65536 in
set_option maxHeartbeats 40000000 in
theorem own_law {l : Launch} {p : Program} {e : Env} {below : List Frame} {s : State} {m : MethodId} {meth : Method} {c : Code} {Z : State} {a0 args : Array Value} {T : State} {h0 : Heap} (X : Stand p l e room_1 s m args below meth c T [] 0 0) (C : own_Ctx p s m meth c Z a0 tables_1 x code maxLocals ret) (hh : T.heap = h0) (x0 : Int64) (x1 : Int64) (x2 : Int32) (n0 : Nat) (Z0 : n0 ≤ h0.size) :
    own_Fin p e below s (own_Q0 n0) room_1.cells room_1.slots (T.setTop (mkF m 0 #[.val (.long x0), .second, .val (.long x1), .second, .val (.int x2), .unset, .unset, .unset, .unset, .unset] [])) := by
  obtain ⟨hx, hby, hml, hZ, hown, hnm, hret, hlk, hw⟩ := id C
  show own_Fin p e below s (own_Q0 n0) room_1.cells room_1.slots (T.setTop (mkF m 0 #[.val (.long x0), .second, .val (.long x1), .second, .val (.int x2), .unset, .unset, .unset, .unset, .unset] []))
  have N0 := Fr.nil n0
  have KK0 : Keep h0 h0 [] := Keep.refl _ _
  refine own_go (fun tgt => XS.iload X.here hx rfl (hb hby at_0) rfl) ?_
  show own_Fin p e below s (own_Q0 n0) room_1.cells room_1.slots (T.setTop (mkF m 2 #[.val (.long x0), .second, .val (.long x1), .second, .val (.int x2), .unset, .unset, .unset, .unset, .unset] [(.int x2)]))
  refine own_go (fun tgt => X.ldcInt hx hown (mvT hZ (hw _ (List.mem_of_getElem? (i := 0) rfl))) (g := (mkF m 2 #[.val (.long x0), .second, .val (.long x1), .second, .val (.int x2), .unset, .unset, .unset, .unset, .unset] [(.int x2)])) rfl (hb hby at_2) tgt) ?_
  show own_Fin p e below s (own_Q0 n0) room_1.cells room_1.slots (T.setTop (mkF m 4 #[.val (.long x0), .second, .val (.long x1), .second, .val (.int x2), .unset, .unset, .unset, .unset, .unset] [(.int (2147483647 : Int32)), (.int x2)]))
  refine own_go (fun tgt => XS.iand X.here hx rfl (hb hby at_4) rfl) ?_
  show own_Fin p e below s (own_Q0 n0) room_1.cells room_1.slots (T.setTop (mkF m 5 #[.val (.long x0), .second, .val (.long x1), .second, .val (.int x2), .unset, .unset, .unset, .unset, .unset] [(.int (x2 &&& (2147483647 : Int32)))]))
  refine own_go (fun tgt => XS.iconst X.here hx rfl (hb hby at_5)) ?_
  show own_Fin p e below s (own_Q0 n0) room_1.cells room_1.slots (T.setTop (mkF m 6 #[.val (.long x0), .second, .val (.long x1), .second, .val (.int x2), .unset, .unset, .unset, .unset, .unset] [(.int (5 : Int32)), (.int (x2 &&& (2147483647 : Int32)))]))
  refine own_go (fun tgt => Jvm.RoadKit.iremM X hx rfl (hb hby at_6) rfl (by decide)) ?_
  show own_Fin p e below s (own_Q0 n0) room_1.cells room_1.slots (T.setTop (mkF m 7 #[.val (.long x0), .second, .val (.long x1), .second, .val (.int x2), .unset, .unset, .unset, .unset, .unset] [(.int ((x2 &&& (2147483647 : Int32)) % (5 : Int32)))]))
  refine own_go (fun tgt => XS.istore X.here hx rfl (hb hby at_7) rfl (l' := #[.val (.long x0), .second, .val (.long x1), .second, .val (.int x2), .val (.int ((x2 &&& (2147483647 : Int32)) % (5 : Int32))), .unset, .unset, .unset, .unset]) rfl) ?_
  show own_Fin p e below s (own_Q0 n0) room_1.cells room_1.slots (T.setTop (mkF m 9 #[.val (.long x0), .second, .val (.long x1), .second, .val (.int x2), .val (.int ((x2 &&& (2147483647 : Int32)) % (5 : Int32))), .unset, .unset, .unset, .unset] []))
  refine own_go (fun tgt => XS.iload X.here hx rfl (hb hby at_9) rfl) ?_
  show own_Fin p e below s (own_Q0 n0) room_1.cells room_1.slots (T.setTop (mkF m 11 #[.val (.long x0), .second, .val (.long x1), .second, .val (.int x2), .val (.int ((x2 &&& (2147483647 : Int32)) % (5 : Int32))), .unset, .unset, .unset, .unset] [(.int x2)]))
  refine own_go (fun tgt => XS.bipush X.here hx rfl (hb hby at_11)) ?_
  show own_Fin p e below s (own_Q0 n0) room_1.cells room_1.slots (T.setTop (mkF m 13 #[.val (.long x0), .second, .val (.long x1), .second, .val (.int x2), .val (.int ((x2 &&& (2147483647 : Int32)) % (5 : Int32))), .unset, .unset, .unset, .unset] [(.int (8 : Int32)), (.int x2)]))
  refine own_go (fun tgt => XS.iushr X.here hx rfl (hb hby at_13) rfl) ?_
  show own_Fin p e below s (own_Q0 n0) room_1.cells room_1.slots (T.setTop (mkF m 14 #[.val (.long x0), .second, .val (.long x1), .second, .val (.int x2), .val (.int ((x2 &&& (2147483647 : Int32)) % (5 : Int32))), .unset, .unset, .unset, .unset] [(.int ((x2.toUInt32 >>> ((8 : Int32) &&& 31).toUInt32).toInt32))]))
  refine own_go (fun tgt => XS.iconst X.here hx rfl (hb hby at_14)) ?_
  show own_Fin p e below s (own_Q0 n0) room_1.cells room_1.slots (T.setTop (mkF m 15 #[.val (.long x0), .second, .val (.long x1), .second, .val (.int x2), .val (.int ((x2 &&& (2147483647 : Int32)) % (5 : Int32))), .unset, .unset, .unset, .unset] [(.int (1 : Int32)), (.int ((x2.toUInt32 >>> ((8 : Int32) &&& 31).toUInt32).toInt32))]))
  refine own_go (fun tgt => XS.iand X.here hx rfl (hb hby at_15) rfl) ?_
  show own_Fin p e below s (own_Q0 n0) room_1.cells room_1.slots (T.setTop (mkF m 16 #[.val (.long x0), .second, .val (.long x1), .second, .val (.int x2), .val (.int ((x2 &&& (2147483647 : Int32)) % (5 : Int32))), .unset, .unset, .unset, .unset] [(.int (((x2.toUInt32 >>> ((8 : Int32) &&& 31).toUInt32).toInt32) &&& (1 : Int32)))]))
  refine own_go (fun tgt => XS.istore X.here hx rfl (hb hby at_16) rfl (l' := #[.val (.long x0), .second, .val (.long x1), .second, .val (.int x2), .val (.int ((x2 &&& (2147483647 : Int32)) % (5 : Int32))), .val (.int (((x2.toUInt32 >>> ((8 : Int32) &&& 31).toUInt32).toInt32) &&& (1 : Int32))), .unset, .unset, .unset]) rfl) ?_
  show own_Fin p e below s (own_Q0 n0) room_1.cells room_1.slots (T.setTop (mkF m 18 #[.val (.long x0), .second, .val (.long x1), .second, .val (.int x2), .val (.int ((x2 &&& (2147483647 : Int32)) % (5 : Int32))), .val (.int (((x2.toUInt32 >>> ((8 : Int32) &&& 31).toUInt32).toInt32) &&& (1 : Int32))), .unset, .unset, .unset] []))
  refine own_go (fun tgt => XS.iload X.here hx rfl (hb hby at_18) rfl) ?_
  show own_Fin p e below s (own_Q0 n0) room_1.cells room_1.slots (T.setTop (mkF m 20 #[.val (.long x0), .second, .val (.long x1), .second, .val (.int x2), .val (.int ((x2 &&& (2147483647 : Int32)) % (5 : Int32))), .val (.int (((x2.toUInt32 >>> ((8 : Int32) &&& 31).toUInt32).toInt32) &&& (1 : Int32))), .unset, .unset, .unset] [(.int ((x2 &&& (2147483647 : Int32)) % (5 : Int32)))]))
  have hn := own_modpos x2 5 5 (by decide) (by decide)
  generalize ((x2 &&& (2147483647 : Int32)) % (5 : Int32)) = n at hn ⊢
  have hq : 0 ≤ (((x2.toUInt32 >>> ((8 : Int32) &&& 31).toUInt32).toInt32) &&& (1 : Int32)).toInt ∧ (((x2.toUInt32 >>> ((8 : Int32) &&& 31).toUInt32).toInt32) &&& (1 : Int32)).toInt < 2 := own_maskpos _ 1 1 (by decide) (by decide) 2 (by decide) (by decide)
  generalize (((x2.toUInt32 >>> ((8 : Int32) &&& 31).toUInt32).toInt32) &&& (1 : Int32)) = q at hq ⊢
  show own_Fin p e below s (own_Q0 n0) room_1.cells room_1.slots (T.setTop (mkF m 20 #[.val (.long x0), .second, .val (.long x1), .second, .val (.int x2), .val (.int n), .val (.int q), .unset, .unset, .unset] [(.int n)]))
  have hnq := own_n5 n q hn hq
  obtain ⟨T1, b1, X1, E1, g1, A1, st1⟩ := own_newB X hx hZ hh (hw _ (List.mem_of_getElem? (i := 1) rfl)) (g := (mkF m 20 #[.val (.long x0), .second, .val (.long x1), .second, .val (.int x2), .val (.int n), .val (.int q), .unset, .unset, .unset] [(.int n)])) rfl (hb hby at_20) rfl (own_nlt 0 (by decide) hn.1) 4 (own_clamp _ 4 (by omega)) (by decide) (by decide) (by decide)
  have sz_b1 : Array.size h0 ≤ b1 := by rw [g1]; exact KK0.1
  have G_b1 : n0 ≤ b1 := Nat.le_trans Z0 sz_b1
  have KK1 := KK0.ext E1
  refine own_go st1 ?_
  show own_Fin p e below s (own_Q0 n0) room_1.cells room_1.slots (T1.setTop (mkF m 22 #[.val (.long x0), .second, .val (.long x1), .second, .val (.int x2), .val (.int n), .val (.int q), .unset, .unset, .unset] [(.ref b1)]))
  refine own_go (fun tgt => XS.astore X1.here hx rfl (hb hby at_22) rfl rfl (l' := #[.val (.long x0), .second, .val (.long x1), .second, .val (.int x2), .val (.int n), .val (.int q), .val (.ref b1), .unset, .unset]) rfl) ?_
  show own_Fin p e below s (own_Q0 n0) room_1.cells room_1.slots (T1.setTop (mkF m 24 #[.val (.long x0), .second, .val (.long x1), .second, .val (.int x2), .val (.int n), .val (.int q), .val (.ref b1), .unset, .unset] []))
  refine own_go (fun tgt => XS.iload X1.here hx rfl (hb hby at_24) rfl) ?_
  show own_Fin p e below s (own_Q0 n0) room_1.cells room_1.slots (T1.setTop (mkF m 26 #[.val (.long x0), .second, .val (.long x1), .second, .val (.int x2), .val (.int n), .val (.int q), .val (.ref b1), .unset, .unset] [(.int n)]))
  refine own_go (fun tgt => XS.iload X1.here hx rfl (hb hby at_26) rfl) ?_
  show own_Fin p e below s (own_Q0 n0) room_1.cells room_1.slots (T1.setTop (mkF m 28 #[.val (.long x0), .second, .val (.long x1), .second, .val (.int x2), .val (.int n), .val (.int q), .val (.ref b1), .unset, .unset] [(.int q), (.int n)]))
  refine own_go (fun tgt => XS.iadd X1.here hx rfl (hb hby at_28) rfl) ?_
  show own_Fin p e below s (own_Q0 n0) room_1.cells room_1.slots (T1.setTop (mkF m 29 #[.val (.long x0), .second, .val (.long x1), .second, .val (.int x2), .val (.int n), .val (.int q), .val (.ref b1), .unset, .unset] [(.int (n + q))]))
  obtain ⟨T2, b2, X2, E2, g2, A2, st2⟩ := own_newB X1 hx hZ rfl (hw _ (List.mem_of_getElem? (i := 1) rfl)) (g := (mkF m 29 #[.val (.long x0), .second, .val (.long x1), .second, .val (.int x2), .val (.int n), .val (.int q), .val (.ref b1), .unset, .unset] [(.int (n + q))])) rfl (hb hby at_29) rfl (own_nlt 0 (by decide) (by omega)) 5 (own_clamp _ 5 (by omega)) (by decide) (by decide) (by decide)
  have sz_b2 : Array.size h0 ≤ b2 := by rw [g2]; exact KK1.1
  have G_b2 : n0 ≤ b2 := Nat.le_trans Z0 sz_b2
  have ne_b1_b2 : b1 ≠ b2 := by rw [g2]; exact Nat.ne_of_lt A1.lt
  have A_b1_2 := A1.ext E2
  have KK2 := KK1.ext E2
  refine own_go st2 ?_
  show own_Fin p e below s (own_Q0 n0) room_1.cells room_1.slots (T2.setTop (mkF m 31 #[.val (.long x0), .second, .val (.long x1), .second, .val (.int x2), .val (.int n), .val (.int q), .val (.ref b1), .unset, .unset] [(.ref b2)]))
  refine own_go (fun tgt => XS.astore X2.here hx rfl (hb hby at_31) rfl rfl (l' := #[.val (.long x0), .second, .val (.long x1), .second, .val (.int x2), .val (.int n), .val (.int q), .val (.ref b1), .val (.ref b2), .unset]) rfl) ?_
  show own_Fin p e below s (own_Q0 n0) room_1.cells room_1.slots (T2.setTop (mkF m 33 #[.val (.long x0), .second, .val (.long x1), .second, .val (.int x2), .val (.int n), .val (.int q), .val (.ref b1), .val (.ref b2), .unset] []))
  refine own_go (fun tgt => XS.aload X2.here hx rfl (hb hby at_33) rfl rfl) ?_
  show own_Fin p e below s (own_Q0 n0) room_1.cells room_1.slots (T2.setTop (mkF m 35 #[.val (.long x0), .second, .val (.long x1), .second, .val (.int x2), .val (.int n), .val (.int q), .val (.ref b1), .val (.ref b2), .unset] [(.ref b1)]))
  refine own_go (fun tgt => XS.lloadN X2.here hx rfl (hb hby at_35) rfl) ?_
  show own_Fin p e below s (own_Q0 n0) room_1.cells room_1.slots (T2.setTop (mkF m 36 #[.val (.long x0), .second, .val (.long x1), .second, .val (.int x2), .val (.int n), .val (.int q), .val (.ref b1), .val (.ref b2), .unset] [(.long x0), (.ref b1)]))
  obtain ⟨_, T3, L3, X3, ⟨rfl, Nq3, K3, A3⟩, st3⟩ := own_callS X2 hx hZ rfl (y := (⟨"com/example/binlogue/binlogue/replication/AuthMethodXorPinLaw", "fill", "([BJ)V"⟩ : MethodName)) hown (hw _ (List.mem_of_getElem? (i := 2) rfl)) (hw _ (List.mem_of_getElem? (i := 3) rfl)) (hw _ (List.mem_of_getElem? (i := 4) rfl)) (hw _ (List.mem_of_getElem? (i := 5) rfl)) (by decide) (argsL := [(.ref b1), (.long x0)]) (rest := []) (own_fill l Z a0 hw b1 x0 n _ _ n0 (Nat.le_trans Z0 KK2.1) G_b1 A_b1_2 (by omega)) (by decide) 0 (by decide) (by decide) (by decide) (g := (mkF m 36 #[.val (.long x0), .second, .val (.long x1), .second, .val (.int x2), .val (.int n), .val (.int q), .val (.ref b1), .val (.ref b2), .unset] [(.long x0), (.ref b1)])) rfl (by rw [hml]; rfl) (lenOf own_pd3 rfl) rfl (by show 2 * 0 + _ ≤ _; exact Nat.le_of_eq rfl) (hb hby at_36)
  have N3 := Fr.app N0 Nq3
  have A_b2_3 := A2.keep K3 (ninS (Ne.symm ne_b1_b2) nin0)
  have KK3 := KK2.trans K3 (allS (Or.inr sz_b1) all0)
  refine own_go st3 ?_
  show own_Fin p e below s (own_Q0 n0) room_1.cells room_1.slots (T3.setTop (mkF m 39 #[.val (.long x0), .second, .val (.long x1), .second, .val (.int x2), .val (.int n), .val (.int q), .val (.ref b1), .val (.ref b2), .unset] []))
  refine own_go (fun tgt => XS.aload X3.here hx rfl (hb hby at_39) rfl rfl) ?_
  show own_Fin p e below s (own_Q0 n0) room_1.cells room_1.slots (T3.setTop (mkF m 41 #[.val (.long x0), .second, .val (.long x1), .second, .val (.int x2), .val (.int n), .val (.int q), .val (.ref b1), .val (.ref b2), .unset] [(.ref b2)]))
  refine own_go (fun tgt => XS.lloadN X3.here hx rfl (hb hby at_41) rfl) ?_
  show own_Fin p e below s (own_Q0 n0) room_1.cells room_1.slots (T3.setTop (mkF m 42 #[.val (.long x0), .second, .val (.long x1), .second, .val (.int x2), .val (.int n), .val (.int q), .val (.ref b1), .val (.ref b2), .unset] [(.long x1), (.ref b2)]))
  obtain ⟨_, T4, L4, X4, ⟨rfl, Nq4, K4, A4⟩, st4⟩ := own_callS X3 hx hZ rfl (y := (⟨"com/example/binlogue/binlogue/replication/AuthMethodXorPinLaw", "fill", "([BJ)V"⟩ : MethodName)) hown (hw _ (List.mem_of_getElem? (i := 2) rfl)) (hw _ (List.mem_of_getElem? (i := 3) rfl)) (hw _ (List.mem_of_getElem? (i := 4) rfl)) (hw _ (List.mem_of_getElem? (i := 5) rfl)) (by decide) (argsL := [(.ref b2), (.long x1)]) (rest := []) (own_fill l Z a0 hw b2 x1 (n + q) _ _ n0 (Nat.le_trans Z0 KK3.1) G_b2 A_b2_3 (by omega)) (by decide) 0 (by decide) (by decide) (by decide) (g := (mkF m 42 #[.val (.long x0), .second, .val (.long x1), .second, .val (.int x2), .val (.int n), .val (.int q), .val (.ref b1), .val (.ref b2), .unset] [(.long x1), (.ref b2)])) rfl (by rw [hml]; rfl) (lenOf own_pd3 rfl) rfl (by show 2 * 0 + _ ≤ _; exact Nat.le_of_eq rfl) (hb hby at_42)
  have N4 := Fr.app N3 Nq4
  have A_b1_4 := A3.keep K4 (ninS ne_b1_b2 nin0)
  have KK4 := KK3.trans K4 (allS (Or.inr sz_b2) all0)
  refine own_go st4 ?_
  show own_Fin p e below s (own_Q0 n0) room_1.cells room_1.slots (T4.setTop (mkF m 45 #[.val (.long x0), .second, .val (.long x1), .second, .val (.int x2), .val (.int n), .val (.int q), .val (.ref b1), .val (.ref b2), .unset] []))
  refine own_go (fun tgt => XS.aload X4.here hx rfl (hb hby at_45) rfl rfl) ?_
  show own_Fin p e below s (own_Q0 n0) room_1.cells room_1.slots (T4.setTop (mkF m 47 #[.val (.long x0), .second, .val (.long x1), .second, .val (.int x2), .val (.int n), .val (.int q), .val (.ref b1), .val (.ref b2), .unset] [(.ref b1)]))
  refine own_go (fun tgt => XS.aload X4.here hx rfl (hb hby at_47) rfl rfl) ?_
  show own_Fin p e below s (own_Q0 n0) room_1.cells room_1.slots (T4.setTop (mkF m 49 #[.val (.long x0), .second, .val (.long x1), .second, .val (.int x2), .val (.int n), .val (.int q), .val (.ref b1), .val (.ref b2), .unset] [(.ref b2), (.ref b1)]))
  obtain ⟨_, T5, L5, X5, ⟨rfl, Nq5, K5, A5⟩, st5⟩ := own_callS X4 hx hZ rfl (y := (⟨"com/example/binlogue/binlogue/replication/AuthMethod", "xor", "([B[B)[B"⟩ : MethodName)) hown (hw _ (List.mem_of_getElem? (i := 6) rfl)) (hw _ (List.mem_of_getElem? (i := 7) rfl)) (hw _ (List.mem_of_getElem? (i := 8) rfl)) (hw _ (List.mem_of_getElem? (i := 9) rfl)) (by decide) (argsL := [(.ref b1), (.ref b2)]) (rest := []) (own_xor l Z a0 hw b1 b2 n (n + q) _ _ _ n0 (Nat.le_trans Z0 KK4.1) G_b1 A_b1_4 A4 ne_b1_b2 (by omega)) (by decide) 0 (by decide) (by decide) (by decide) (g := (mkF m 49 #[.val (.long x0), .second, .val (.long x1), .second, .val (.int x2), .val (.int n), .val (.int q), .val (.ref b1), .val (.ref b2), .unset] [(.ref b2), (.ref b1)])) rfl (by rw [hml]; rfl) (lenOf own_pd4 rfl) rfl (by show 2 * 0 + _ ≤ _; exact Nat.le_of_eq rfl) (hb hby at_49)
  have N5 := Fr.app N4 Nq5
  have A_b2_5 := A4.keep K5 (ninS (Ne.symm ne_b1_b2) nin0)
  have KK5 := KK4.trans K5 (allS (Or.inr sz_b1) all0)
  refine own_go st5 ?_
  show own_Fin p e below s (own_Q0 n0) room_1.cells room_1.slots (T5.setTop (mkF m 52 #[.val (.long x0), .second, .val (.long x1), .second, .val (.int x2), .val (.int n), .val (.int q), .val (.ref b1), .val (.ref b2), .unset] [(.ref b1)]))
  refine own_go (fun tgt => XS.astore X5.here hx rfl (hb hby at_52) rfl rfl (l' := #[.val (.long x0), .second, .val (.long x1), .second, .val (.int x2), .val (.int n), .val (.int q), .val (.ref b1), .val (.ref b2), .val (.ref b1)]) rfl) ?_
  show own_Fin p e below s (own_Q0 n0) room_1.cells room_1.slots (T5.setTop (mkF m 54 #[.val (.long x0), .second, .val (.long x1), .second, .val (.int x2), .val (.int n), .val (.int q), .val (.ref b1), .val (.ref b2), .val (.ref b1)] []))
  refine own_go (fun tgt => XS.aload X5.here hx rfl (hb hby at_54) rfl rfl) ?_
  show own_Fin p e below s (own_Q0 n0) room_1.cells room_1.slots (T5.setTop (mkF m 56 #[.val (.long x0), .second, .val (.long x1), .second, .val (.int x2), .val (.int n), .val (.int q), .val (.ref b1), .val (.ref b2), .val (.ref b1)] [(.ref b1)]))
  refine own_go (fun tgt => XS.aload X5.here hx rfl (hb hby at_56) rfl rfl) ?_
  show own_Fin p e below s (own_Q0 n0) room_1.cells room_1.slots (T5.setTop (mkF m 58 #[.val (.long x0), .second, .val (.long x1), .second, .val (.int x2), .val (.int n), .val (.int q), .val (.ref b1), .val (.ref b2), .val (.ref b1)] [(.ref b1), (.ref b1)]))
  refine own_go (fun t => XS.acmpYes X5.here hx rfl (pc0 := 58) (pc' := 63) rfl (hb hby at_58) rfl (by simp [if_acmp.holds]) (by decide) (by decide)) ?_
  show own_Fin p e below s (own_Q0 n0) room_1.cells room_1.slots (T5.setTop (mkF m 63 #[.val (.long x0), .second, .val (.long x1), .second, .val (.int x2), .val (.int n), .val (.int q), .val (.ref b1), .val (.ref b2), .val (.ref b1)] []))
  refine own_go (fun tgt => XS.aload X5.here hx rfl (hb hby at_63) rfl rfl) ?_
  show own_Fin p e below s (own_Q0 n0) room_1.cells room_1.slots (T5.setTop (mkF m 65 #[.val (.long x0), .second, .val (.long x1), .second, .val (.int x2), .val (.int n), .val (.int q), .val (.ref b1), .val (.ref b2), .val (.ref b1)] [(.ref b1)]))
  refine own_go (own_len X5 hx hZ rfl A5 (g := (mkF m 65 #[.val (.long x0), .second, .val (.long x1), .second, .val (.int x2), .val (.int n), .val (.int q), .val (.ref b1), .val (.ref b2), .val (.ref b1)] [(.ref b1)])) rfl rfl (hb hby at_65)) ?_
  show own_Fin p e below s (own_Q0 n0) room_1.cells room_1.slots (T5.setTop (mkF m 66 #[.val (.long x0), .second, .val (.long x1), .second, .val (.int x2), .val (.int n), .val (.int q), .val (.ref b1), .val (.ref b2), .val (.ref b1)] [(.int n)]))
  refine own_go (fun tgt => XS.iload X5.here hx rfl (hb hby at_66) rfl) ?_
  show own_Fin p e below s (own_Q0 n0) room_1.cells room_1.slots (T5.setTop (mkF m 68 #[.val (.long x0), .second, .val (.long x1), .second, .val (.int x2), .val (.int n), .val (.int q), .val (.ref b1), .val (.ref b2), .val (.ref b1)] [(.int n), (.int n)]))
  refine own_go (fun tgt => XS.icmpNo X5.here hx rfl (hb hby at_68) rfl (teq rfl).2) ?_
  show own_Fin p e below s (own_Q0 n0) room_1.cells room_1.slots (T5.setTop (mkF m 71 #[.val (.long x0), .second, .val (.long x1), .second, .val (.int x2), .val (.int n), .val (.int q), .val (.ref b1), .val (.ref b2), .val (.ref b1)] []))
  refine own_go (fun tgt => XS.aload X5.here hx rfl (hb hby at_71) rfl rfl) ?_
  show own_Fin p e below s (own_Q0 n0) room_1.cells room_1.slots (T5.setTop (mkF m 73 #[.val (.long x0), .second, .val (.long x1), .second, .val (.int x2), .val (.int n), .val (.int q), .val (.ref b1), .val (.ref b2), .val (.ref b1)] [(.ref b2)]))
  refine own_go (own_len X5 hx hZ rfl A_b2_5 (g := (mkF m 73 #[.val (.long x0), .second, .val (.long x1), .second, .val (.int x2), .val (.int n), .val (.int q), .val (.ref b1), .val (.ref b2), .val (.ref b1)] [(.ref b2)])) rfl rfl (hb hby at_73)) ?_
  show own_Fin p e below s (own_Q0 n0) room_1.cells room_1.slots (T5.setTop (mkF m 74 #[.val (.long x0), .second, .val (.long x1), .second, .val (.int x2), .val (.int n), .val (.int q), .val (.ref b1), .val (.ref b2), .val (.ref b1)] [(.int (n + q))]))
  refine own_go (fun tgt => XS.iload X5.here hx rfl (hb hby at_74) rfl) ?_
  show own_Fin p e below s (own_Q0 n0) room_1.cells room_1.slots (T5.setTop (mkF m 76 #[.val (.long x0), .second, .val (.long x1), .second, .val (.int x2), .val (.int n), .val (.int q), .val (.ref b1), .val (.ref b2), .val (.ref b1)] [(.int n), (.int (n + q))]))
  refine own_go (fun tgt => XS.iload X5.here hx rfl (hb hby at_76) rfl) ?_
  show own_Fin p e below s (own_Q0 n0) room_1.cells room_1.slots (T5.setTop (mkF m 78 #[.val (.long x0), .second, .val (.long x1), .second, .val (.int x2), .val (.int n), .val (.int q), .val (.ref b1), .val (.ref b2), .val (.ref b1)] [(.int q), (.int n), (.int (n + q))]))
  refine own_go (fun tgt => XS.iadd X5.here hx rfl (hb hby at_78) rfl) ?_
  show own_Fin p e below s (own_Q0 n0) room_1.cells room_1.slots (T5.setTop (mkF m 79 #[.val (.long x0), .second, .val (.long x1), .second, .val (.int x2), .val (.int n), .val (.int q), .val (.ref b1), .val (.ref b2), .val (.ref b1)] [(.int (n + q)), (.int (n + q))]))
  refine own_go (fun tgt => XS.icmpYes X5.here hx rfl (pc0 := 79) (pc' := 84) rfl (hb hby at_79) rfl (teq rfl).1 (by decide) (by decide)) ?_
  show own_Fin p e below s (own_Q0 n0) room_1.cells room_1.slots (T5.setTop (mkF m 84 #[.val (.long x0), .second, .val (.long x1), .second, .val (.int x2), .val (.int n), .val (.int q), .val (.ref b1), .val (.ref b2), .val (.ref b1)] []))
  refine own_go (fun tgt => XS.aload X5.here hx rfl (hb hby at_84) rfl rfl) ?_
  show own_Fin p e below s (own_Q0 n0) room_1.cells room_1.slots (T5.setTop (mkF m 86 #[.val (.long x0), .second, .val (.long x1), .second, .val (.int x2), .val (.int n), .val (.int q), .val (.ref b1), .val (.ref b2), .val (.ref b1)] [(.ref b1)]))
  refine own_go (fun tgt => XS.lloadN X5.here hx rfl (hb hby at_86) rfl) ?_
  show own_Fin p e below s (own_Q0 n0) room_1.cells room_1.slots (T5.setTop (mkF m 87 #[.val (.long x0), .second, .val (.long x1), .second, .val (.int x2), .val (.int n), .val (.int q), .val (.ref b1), .val (.ref b2), .val (.ref b1)] [(.long x0), (.ref b1)]))
  refine own_go (fun tgt => XS.lloadN X5.here hx rfl (hb hby at_87) rfl) ?_
  show own_Fin p e below s (own_Q0 n0) room_1.cells room_1.slots (T5.setTop (mkF m 88 #[.val (.long x0), .second, .val (.long x1), .second, .val (.int x2), .val (.int n), .val (.int q), .val (.ref b1), .val (.ref b2), .val (.ref b1)] [(.long x1), (.long x0), (.ref b1)]))
  refine own_go (fun tgt => XS.iload X5.here hx rfl (hb hby at_88) rfl) ?_
  show own_Fin p e below s (own_Q0 n0) room_1.cells room_1.slots (T5.setTop (mkF m 90 #[.val (.long x0), .second, .val (.long x1), .second, .val (.int x2), .val (.int n), .val (.int q), .val (.ref b1), .val (.ref b2), .val (.ref b1)] [(.int n), (.long x1), (.long x0), (.ref b1)]))
  obtain ⟨T6, X6, e6, st6⟩ := own_callP X5 hx hZ rfl (y := (⟨"com/example/binlogue/binlogue/replication/AuthMethodXorPinLaw", "checkResult", "([BJJI)Z"⟩ : MethodName)) hown (hw _ (List.mem_of_getElem? (i := 10) rfl)) (hw _ (List.mem_of_getElem? (i := 11) rfl)) (hw _ (List.mem_of_getElem? (i := 4) rfl)) (hw _ (List.mem_of_getElem? (i := 12) rfl)) (by decide) (argsL := [(.ref b1), (.long x0), (.long x1), (.int n)]) (rest := []) (own_cr l Z a0 hw b1 x0 x1 n _ _ 0 (Nat.zero_le _) A5 (fun j _ _ => rfl)) (by decide) 0 (by decide) (by decide) (by decide) (g := (mkF m 90 #[.val (.long x0), .second, .val (.long x1), .second, .val (.int x2), .val (.int n), .val (.int q), .val (.ref b1), .val (.ref b2), .val (.ref b1)] [(.int n), (.long x1), (.long x0), (.ref b1)])) rfl (by rw [hml]; rfl) (lenOf own_pd5 rfl) rfl (by show 2 * 0 + _ ≤ _; exact Nat.le_of_eq rfl) (hb hby at_90)
  refine own_go st6 ?_
  show own_Fin p e below s (own_Q0 n0) room_1.cells room_1.slots (T6.setTop (mkF m 93 #[.val (.long x0), .second, .val (.long x1), .second, .val (.int x2), .val (.int n), .val (.int q), .val (.ref b1), .val (.ref b2), .val (.ref b1)] [(.int (1 : Int32))]))
  refine own_go (fun tgt => XS.ifNo X6.here hx rfl (hb hby at_93) rfl ((if0 _ _).trans (feq (by decide)).1)) ?_
  show own_Fin p e below s (own_Q0 n0) room_1.cells room_1.slots (T6.setTop (mkF m 96 #[.val (.long x0), .second, .val (.long x1), .second, .val (.int x2), .val (.int n), .val (.int q), .val (.ref b1), .val (.ref b2), .val (.ref b1)] []))
  refine own_go (fun tgt => XS.aload X6.here hx rfl (hb hby at_96) rfl rfl) ?_
  show own_Fin p e below s (own_Q0 n0) room_1.cells room_1.slots (T6.setTop (mkF m 98 #[.val (.long x0), .second, .val (.long x1), .second, .val (.int x2), .val (.int n), .val (.int q), .val (.ref b1), .val (.ref b2), .val (.ref b1)] [(.ref b2)]))
  refine own_go (fun tgt => XS.lloadN X6.here hx rfl (hb hby at_98) rfl) ?_
  show own_Fin p e below s (own_Q0 n0) room_1.cells room_1.slots (T6.setTop (mkF m 99 #[.val (.long x0), .second, .val (.long x1), .second, .val (.int x2), .val (.int n), .val (.int q), .val (.ref b1), .val (.ref b2), .val (.ref b1)] [(.long x1), (.ref b2)]))
  obtain ⟨T7, X7, e7, st7⟩ := own_callP X6 hx hZ e6 (y := (⟨"com/example/binlogue/binlogue/replication/AuthMethodXorPinLaw", "checkMask", "([BJ)Z"⟩ : MethodName)) hown (hw _ (List.mem_of_getElem? (i := 16) rfl)) (hw _ (List.mem_of_getElem? (i := 17) rfl)) (hw _ (List.mem_of_getElem? (i := 4) rfl)) (hw _ (List.mem_of_getElem? (i := 18) rfl)) (by decide) (argsL := [(.ref b2), (.long x1)]) (rest := []) (own_cm l Z a0 hw b2 x1 (n + q) _ _ 0 (Nat.zero_le _) A_b2_5 (fun j _ _ => rfl)) (by decide) 0 (by decide) (by decide) (by decide) (g := (mkF m 99 #[.val (.long x0), .second, .val (.long x1), .second, .val (.int x2), .val (.int n), .val (.int q), .val (.ref b1), .val (.ref b2), .val (.ref b1)] [(.long x1), (.ref b2)])) rfl (by rw [hml]; rfl) (lenOf own_pd6 rfl) rfl (by show 2 * 0 + _ ≤ _; exact Nat.le_of_eq rfl) (hb hby at_99)
  refine own_go st7 ?_
  show own_Fin p e below s (own_Q0 n0) room_1.cells room_1.slots (T7.setTop (mkF m 102 #[.val (.long x0), .second, .val (.long x1), .second, .val (.int x2), .val (.int n), .val (.int q), .val (.ref b1), .val (.ref b2), .val (.ref b1)] [(.int (1 : Int32))]))
  refine own_go (fun tgt => XS.ifNo X7.here hx rfl (hb hby at_102) rfl ((if0 _ _).trans (feq (by decide)).1)) ?_
  show own_Fin p e below s (own_Q0 n0) room_1.cells room_1.slots (T7.setTop (mkF m 105 #[.val (.long x0), .second, .val (.long x1), .second, .val (.int x2), .val (.int n), .val (.int q), .val (.ref b1), .val (.ref b2), .val (.ref b1)] []))
  refine own_go (fun tgt => XS.iconst X7.here hx rfl (hb hby at_105)) ?_
  show own_Fin p e below s (own_Q0 n0) room_1.cells room_1.slots (T7.setTop (mkF m 106 #[.val (.long x0), .second, .val (.long x1), .second, .val (.int x2), .val (.int n), .val (.int q), .val (.ref b1), .val (.ref b2), .val (.ref b1)] [(.int (1 : Int32))]))
  refine own_go (fun tgt => XS.goto X7.here hx rfl (pc0 := 106) (pc' := 110) rfl (hb hby at_106) (by decide) (by decide)) ?_
  show own_Fin p e below s (own_Q0 n0) room_1.cells room_1.slots (T7.setTop (mkF m 110 #[.val (.long x0), .second, .val (.long x1), .second, .val (.int x2), .val (.int n), .val (.int q), .val (.ref b1), .val (.ref b2), .val (.ref b1)] [(.int (1 : Int32))]))
  exact own_ret X7 hlk hx (t := .boolean) hret rfl (Or.inl ⟨rfl, by simp, _, rfl⟩) (hb hby at_110) ⟨rfl, N5⟩ (by decide) (by decide)
theorem own_rm0 (l : Launch) (Z : State) (a0 : Array Value) (hw : ∀ d ∈ tables_1, d.before a0 Z = true) (ws : List Jvm.Cond) (x0 : Int64) (x1 : Int64) (x2 : Int32) (h0 : Heap) (n0 : Nat) (Z0 : n0 ≤ h0.size) : own_Met l Z x code maxLocals ret ws room_1 #[(.long x0), (.long x1), (.int x2)] h0 (own_Q0 n0) :=
  own_enter (plainFor_of_name own_pn0) (own_ef0 x0 x1 x2) hw (fun p e s m below meth c T X C hh => own_law X C hh x0 x1 x2 n0 Z0)
set_option maxRecDepth 65536 in
set_option maxHeartbeats 40000000 in
theorem own_comes {Post : Tables → Env → Array Value → State → Outcome → State → Prop} (hpost : ∀ tb e args s v u, (limb_1_1.after args s (.returned v) u = true ∧ limb_1_2.after args s (.returned v) u = true ∧ True) → FrameEnd s (.returned v) u (Jvm.fieldLocs frame_1_writes args s ++ Jvm.arrayLocs frame_1_arrays args s ++ Jvm.staticLocs frame_1_statics s) 16 128 → Post tb e args s (.returned v) u) :
    ArmFor flags0 classFile x code maxLocals ret World_1 tables_1 room_1 Calls_1 rest_1 Pre_1 Post := by
  intro l hfl _ _ p e ha hc hk s m args below hf hA hF happ hP
  obtain ⟨hcalls, hrest, hpre⟩ := hP
  obtain ⟨-, -, -, hnamed, -, -, -, hat⟩ := (Spec.applies_iff hf).mp happ
  obtain ⟨hg, hn⟩ := and_e (Cond.before_iff.mp (show (Jvm.Cond.and given_1 narrow_1).before args s = true from hpre))
  obtain ⟨g0, r0⟩ := and_e hg
  obtain ⟨g1, r1⟩ := and_e r0
  obtain ⟨g2, r2⟩ := and_e r1
  obtain ⟨w0, w1, w2, rfl⟩ : ∃ w0 w1 w2 : Value, args = #[w0, w1, w2] := by
    have hs : args.size = 3 := by simpa [Cond.value, given_1] using g0
    obtain ⟨L⟩ := args
    match L, hs with
    | [w0, w1, w2], _ => exact ⟨w0, w1, w2, rfl⟩
  have hw := fun d (hd : d ∈ tables_1) => atoms_spec (ws := Jvm.Cond.code x code maxLocals ret :: tables_1) hat d (List.mem_cons_of_mem _ hd)
  obtain ⟨i0, ei0⟩ := isL_v g1
  obtain rfl : w0 = (.long i0) := Option.some.inj ei0
  obtain ⟨i1, ei1⟩ := isL_v g2
  obtain rfl : w1 = (.long i1) := Option.some.inj ei1
  obtain ⟨i2, ei2⟩ := is_v r2
  obtain rfl : w2 = (.int i2) := Option.some.inj ei2
  obtain ⟨n, o, h1, h2, h3, _, L, rfl, ⟨rfl, N⟩, hq⟩ := own_rm0 l s _ hw tables_1 i0 i1 i2 s.heap s.heap.size (Nat.le_refl _) p e ha hc hk s m _ below hf ((Spec.applies_iff_loose hf).mp happ).1 ⟨rfl, State.Warmed39.refl s, rfl⟩ trivial
  refine ⟨n, _, h1, h2, h3, hpost _ _ _ _ _ _ ⟨Cond.after_iff.mpr rfl, Cond.after_iff.mpr (eq_i res_at (Term.int_eval (1)) rfl), trivial⟩ ⟨hq.1, hq.2.1, (hq.2.2.sift fun y hy => Or.inr (N y hy)).mono (by decide) (by decide)⟩⟩
theorem main_1_1 : Claimed_1_1 := own_comes fun _ _ _ _ _ _ h hF => ⟨h.1, hF⟩
theorem main_1_2 : Claimed_1_2 := own_comes fun _ _ _ _ _ _ h hF => ⟨h.2.1, hF⟩
end Jvm.Pilot.@@N@@
namespace Jvm.Pilot.@@N@@
open Jvm Jvm.ClassFile Sem Op Lib Jvm.Free Jvm.Stand Jvm.Pilot.@@N@@.Jvm.D
/-! MADE BY PROGRAM (witnessworld.py) out of the Statement's table words and the real class files: 12 classes; the members and pool entries that the words name. The judged class is class 1, her method 1. -/
namespace start1
open Jvm.ClassFile
def u (s : String) : CpInfo := .utf8 (stringToUtf16 s)
/-- a pool by its gaps: so many unusable entries, then the entry; so many at the end -/
def gap : Nat → List CpInfo → List CpInfo
  | 0, r => r
  | n + 1, r => .unusable :: gap n r
def poolList (es : List (Nat × CpInfo)) (last : Nat) : List CpInfo := es.foldr (fun e r => gap e.1 (e.2 :: r)) (gap last [])
def pool (es : List (Nat × CpInfo)) (last : Nat) : Array CpInfo := ⟨poolList es last⟩
def fileOf (pool : Array CpInfo) (this : Nat) (attrs : Array Attribute := #[]) (ms : Array MethodInfo := #[]) (fl : Nat := 33) (sup : Nat := 0) (ifs : Array Nat := #[]) (fds : Array FieldInfo := #[]) : ClassFile where
  minorVersion := 0
  majorVersion := 65
  constantPool := pool
  accessFlags := fl
  thisClass := this
  superClass := sup
  interfaces := ifs
  fields := fds
  methods := ms
  attributes := attrs
def plain (name : String) (sup : Option ClassId) : Class where
  name := name
  kind := .ordinary
  loader := none
  accessFlags := 33
  super := sup
  interfaces := #[]
  cf := none
  fields := #[]
  methods := #[]
  instanceTypes := #[]
  staticTypes := #[]
  resolved := #[]
  callSites := []
  init := .initialized
  statics := none
  mirror := none

def pool0 : Array CpInfo := pool [(5, u "<init>"), (0, u "()V"), (1, .class_ 10), (1, u "java/lang/Object")] 113

def k0m0 : Method := { name := "<init>", desc := "()V", sig := { parameters := [], returnType := none }, accessFlags := 1, code := none }
/-- java/lang/Object -/
def k0 : Class := { plain "java/lang/Object" none with
  accessFlags := 33
  interfaces := #[]
  cf := some (fileOf pool0 8 #[] #[{ accessFlags := 1, nameIndex := 5, descriptorIndex := 6, attributes := #[] }] 33 0 #[] #[])
  fields := #[]
  methods := #[k0m0]
  instanceTypes := #[]
  staticTypes := #[]
  resolved := Array.replicate 124 none
  statics := none }

def pool1 : Array CpInfo := pool [(2, .class_ 4), (1, u "java/lang/Object"), (0, u "<init>"), (0, u "()V"), (0, .integer 2147483647), (0, .methodref 9 10), (0, .class_ 11), (0, .nameAndType 12 13), (0, u "com/example/binlogue/binlogue/replication/AuthMethodXorPinLaw"), (0, u "fill"), (0, u "([BJ)V"), (0, .methodref 15 16), (0, .class_ 17), (0, .nameAndType 18 19), (0, u "com/example/binlogue/binlogue/replication/AuthMethod"), (0, u "xor"), (0, u "([B[B)[B"), (0, .methodref 9 21), (0, .nameAndType 22 23), (0, u "checkResult"), (0, u "([BJJI)Z"), (0, .methodref 9 25), (0, .nameAndType 26 27), (0, u "checkMask"), (0, u "([BJ)Z"), (0, .methodref 9 29), (0, .nameAndType 30 31), (0, u "at"), (0, u "(JI)B"), (0, .methodref 9 33), (0, .nameAndType 34 35), (0, u "okAt"), (0, u "([BJJII)Z"), (0, .methodref 9 37), (0, .nameAndType 38 39), (0, u "maskAt"), (0, u "([BJI)Z"), (2, u "law"), (0, u "(JJI)Z")] 5

def k1m0 : Method := { name := "<init>", desc := "()V", sig := { parameters := [], returnType := none }, accessFlags := 1, code := none }
def k1c1 : Code := { maxStack := 6, maxLocals := 10, code := code, exceptionTable := #[], attributes := #[] }
def k1m1 : Method := { name := "law", desc := "(JJI)Z", sig := { parameters := [.long, .long, .int], returnType := some .boolean }, accessFlags := 9, code := some k1c1 }
def k1c2 : Code := { maxStack := 4, maxLocals := 3, code := method_3_code, exceptionTable := #[], attributes := #[] }
def k1m2 : Method := { name := "at", desc := "(JI)B", sig := { parameters := [.long, .int], returnType := some .byte }, accessFlags := 10, code := some k1c2 }
def k1c3 : Code := { maxStack := 5, maxLocals := 3, code := method_4_code, exceptionTable := #[], attributes := #[] }
def k1m3 : Method := { name := "fill", desc := "([BJ)V", sig := { parameters := [(.array .byte), .long], returnType := none }, accessFlags := 10, code := some k1c3 }
def k1c4 : Code := { maxStack := 5, maxLocals := 7, code := method_5_code, exceptionTable := #[], attributes := #[] }
def k1m4 : Method := { name := "okAt", desc := "([BJJII)Z", sig := { parameters := [(.array .byte), .long, .long, .int, .int], returnType := some .boolean }, accessFlags := 10, code := some k1c4 }
def k1c5 : Code := { maxStack := 7, maxLocals := 6, code := method_6_code, exceptionTable := #[], attributes := #[] }
def k1m5 : Method := { name := "checkResult", desc := "([BJJI)Z", sig := { parameters := [(.array .byte), .long, .long, .int], returnType := some .boolean }, accessFlags := 10, code := some k1c5 }
def k1c6 : Code := { maxStack := 4, maxLocals := 4, code := method_7_code, exceptionTable := #[], attributes := #[] }
def k1m6 : Method := { name := "maskAt", desc := "([BJI)Z", sig := { parameters := [(.array .byte), .long, .int], returnType := some .boolean }, accessFlags := 10, code := some k1c6 }
def k1c7 : Code := { maxStack := 4, maxLocals := 3, code := method_8_code, exceptionTable := #[], attributes := #[] }
def k1m7 : Method := { name := "checkMask", desc := "([BJ)Z", sig := { parameters := [(.array .byte), .long], returnType := some .boolean }, accessFlags := 10, code := some k1c7 }
/-- com/example/binlogue/binlogue/replication/AuthMethodXorPinLaw -/
def k1 : Class := { plain "com/example/binlogue/binlogue/replication/AuthMethodXorPinLaw" (some 0) with
  accessFlags := 49
  interfaces := #[]
  cf := some (fileOf pool1 9 #[] #[{ accessFlags := 1, nameIndex := 5, descriptorIndex := 6, attributes := #[] }, { accessFlags := 9, nameIndex := 42, descriptorIndex := 43, attributes := #[] }, { accessFlags := 10, nameIndex := 30, descriptorIndex := 31, attributes := #[] }, { accessFlags := 10, nameIndex := 12, descriptorIndex := 13, attributes := #[] }, { accessFlags := 10, nameIndex := 34, descriptorIndex := 35, attributes := #[] }, { accessFlags := 10, nameIndex := 22, descriptorIndex := 23, attributes := #[] }, { accessFlags := 10, nameIndex := 38, descriptorIndex := 39, attributes := #[] }, { accessFlags := 10, nameIndex := 26, descriptorIndex := 27, attributes := #[] }] 49 2 #[] #[])
  fields := #[]
  methods := #[k1m0, k1m1, k1m2, k1m3, k1m4, k1m5, k1m6, k1m7]
  instanceTypes := #[]
  staticTypes := #[]
  resolved := Array.replicate 49 none
  statics := none }

def pool2 : Array CpInfo := pool [(1, .class_ 2), (0, u "java/lang/constant/Constable"), (0, .class_ 4), (0, u "java/lang/Object")] 6

/-- java/lang/constant/Constable -/
def k2 : Class := { plain "java/lang/constant/Constable" (some 0) with
  accessFlags := 1537
  interfaces := #[]
  cf := some (fileOf pool2 1 #[] #[] 1537 3 #[] #[])
  fields := #[]
  methods := #[]
  instanceTypes := #[]
  staticTypes := #[]
  resolved := Array.replicate 11 none
  statics := none }

def pool3 : Array CpInfo := pool [(1, .class_ 2), (0, u "java/lang/Comparable"), (0, .class_ 4), (0, u "java/lang/Object")] 7

/-- java/lang/Comparable -/
def k3 : Class := { plain "java/lang/Comparable" (some 0) with
  accessFlags := 1537
  interfaces := #[]
  cf := some (fileOf pool3 1 #[] #[] 1537 3 #[] #[])
  fields := #[]
  methods := #[]
  instanceTypes := #[]
  staticTypes := #[]
  resolved := Array.replicate 12 none
  statics := none }

def pool4 : Array CpInfo := pool [(1, .class_ 2), (0, u "java/io/Serializable"), (0, .class_ 4), (0, u "java/lang/Object")] 2

/-- java/io/Serializable -/
def k4 : Class := { plain "java/io/Serializable" (some 0) with
  accessFlags := 1537
  interfaces := #[]
  cf := some (fileOf pool4 1 #[] #[] 1537 3 #[] #[])
  fields := #[]
  methods := #[]
  instanceTypes := #[]
  staticTypes := #[]
  resolved := Array.replicate 7 none
  statics := none }

def pool5 : Array CpInfo := pool [(2, .class_ 4), (1, u "java/lang/Enum"), (0, u "name"), (0, u "Ljava/lang/String;"), (2, u "ordinal"), (0, u "I"), (1, .class_ 14), (1, u "java/lang/Object"), (4, u "hash"), (86, .class_ 108), (1, u "java/lang/Enum$EnumDesc"), (2, .class_ 112), (0, u "java/lang/constant/Constable"), (0, .class_ 114), (0, u "java/lang/Comparable"), (0, .class_ 116), (0, u "java/io/Serializable")] 87

/-- java/lang/Enum -/
def k5 : Class := { plain "java/lang/Enum" (some 0) with
  accessFlags := 1057
  interfaces := #[2, 3, 4]
  cf := some (fileOf pool5 2 #[.nestMembers #[106]] #[] 1057 12 #[111, 113, 115] #[{ accessFlags := 18, nameIndex := 5, descriptorIndex := 6, attributes := #[] }, { accessFlags := 18, nameIndex := 9, descriptorIndex := 10, attributes := #[] }, { accessFlags := 2, nameIndex := 19, descriptorIndex := 10, attributes := #[] }])
  fields := #[{ name := "name", type := (.object "java/lang/String"), accessFlags := 18, slot := 0, constantValue := 0 }, { name := "ordinal", type := .int, accessFlags := 18, slot := 1, constantValue := 0 }, { name := "hash", type := .int, accessFlags := 2, slot := 2, constantValue := 0 }]
  methods := #[]
  instanceTypes := #[(.object "java/lang/String"), .int, .int]
  staticTypes := #[]
  resolved := Array.replicate 204 none
  statics := none }

def pool6 : Array CpInfo := pool [(1, .class_ 2), (0, u "com/example/binlogue/binlogue/replication/AuthMethod"), (2, u "NATIVE_PASSWORD"), (0, u "Lcom/example/binlogue/binlogue/replication/AuthMethod;"), (2, u "CACHING_SHA2_PASSWORD"), (2, u "$VALUES"), (0, u "[Lcom/example/binlogue/binlogue/replication/AuthMethod;"), (6, .class_ 22), (1, u "java/lang/Enum"), (8, u "pluginName"), (0, u "Ljava/lang/String;"), (123, .class_ 157), (0, u "com/example/binlogue/binlogue/replication/AuthMethod$1"), (6, .class_ 165), (0, u "com/example/binlogue/binlogue/replication/AuthMethod$2"), (7, u "SEED_SIZE"), (0, u "I"), (2, u "RSA_OAEP"), (19, u "xor"), (0, u "([B[B)[B")] 8

def k6c0 : Code := { maxStack := 5, maxLocals := 3, code := prog_82_method_11_code, exceptionTable := #[], attributes := #[] }
def k6m0 : Method := { name := "xor", desc := "([B[B)[B", sig := { parameters := [(.array .byte), (.array .byte)], returnType := some (.array .byte) }, accessFlags := 8, code := some k6c0 }
/-- com/example/binlogue/binlogue/replication/AuthMethod -/
def k6 : Class := { plain "com/example/binlogue/binlogue/replication/AuthMethod" (some 5) with
  accessFlags := 17440
  interfaces := #[]
  cf := some (fileOf pool6 1 #[.nestMembers #[164, 156]] #[{ accessFlags := 8, nameIndex := 197, descriptorIndex := 198, attributes := #[] }] 17440 20 #[] #[{ accessFlags := 16409, nameIndex := 5, descriptorIndex := 6, attributes := #[] }, { accessFlags := 16409, nameIndex := 9, descriptorIndex := 6, attributes := #[] }, { accessFlags := 24, nameIndex := 173, descriptorIndex := 174, attributes := #[] }, { accessFlags := 26, nameIndex := 177, descriptorIndex := 32, attributes := #[] }, { accessFlags := 18, nameIndex := 31, descriptorIndex := 32, attributes := #[] }, { accessFlags := 4122, nameIndex := 12, descriptorIndex := 13, attributes := #[] }])
  fields := #[{ name := "NATIVE_PASSWORD", type := (.object "com/example/binlogue/binlogue/replication/AuthMethod"), accessFlags := 16409, slot := 0, constantValue := 0 }, { name := "CACHING_SHA2_PASSWORD", type := (.object "com/example/binlogue/binlogue/replication/AuthMethod"), accessFlags := 16409, slot := 1, constantValue := 0 }, { name := "SEED_SIZE", type := .int, accessFlags := 24, slot := 2, constantValue := 0 }, { name := "RSA_OAEP", type := (.object "java/lang/String"), accessFlags := 26, slot := 3, constantValue := 0 }, { name := "pluginName", type := (.object "java/lang/String"), accessFlags := 18, slot := 3, constantValue := 0 }, { name := "$VALUES", type := (.array (.object "com/example/binlogue/binlogue/replication/AuthMethod")), accessFlags := 4122, slot := 4, constantValue := 0 }]
  methods := #[k6m0]
  instanceTypes := #[(.object "java/lang/String"), .int, .int, (.object "java/lang/String")]
  staticTypes := #[(.object "com/example/binlogue/binlogue/replication/AuthMethod"), (.object "com/example/binlogue/binlogue/replication/AuthMethod"), .int, (.object "java/lang/String"), (.array (.object "com/example/binlogue/binlogue/replication/AuthMethod"))]
  resolved := Array.replicate 207 none
  statics := none }

def pool7 : Array CpInfo := pool [(1, u "java/lang/Cloneable"), (0, .class_ 1), (0, u "java/lang/Object"), (0, .class_ 3)] 3

/-- java/lang/Cloneable -/
def k7 : Class := { plain "java/lang/Cloneable" (some 0) with
  accessFlags := 1537
  interfaces := #[]
  cf := some (fileOf pool7 2 #[] #[] 1537 4 #[] #[])
  fields := #[]
  methods := #[]
  instanceTypes := #[]
  staticTypes := #[]
  resolved := Array.replicate 8 none
  statics := none }

/-- the primitive byte -/
def k8 : Class := { plain "byte" none with kind := .primitive 'B', accessFlags := 0x411 }
/-- [B -/
def k9 : Class := { plain "[B" (some 0) with kind := .array 8 .byte, interfaces := #[7, 4], accessFlags := 1041 }

/-- the primitive int -/
def k10 : Class := { plain "int" none with kind := .primitive 'I', accessFlags := 0x411 }
/-- [I -/
def k11 : Class := { plain "[I" (some 0) with kind := .array 10 .int, interfaces := #[7, 4], accessFlags := 1041 }

def heap : Heap := #[]
def classes : Array Class := #[k0, k1, k2, k3, k4, k5, k6, k7, k8, k9, k10, k11]
def interned : List (Array UInt16 × Addr) := []
def slotsUsed : Nat := 0
def theMethod : MethodId := ⟨1, 1⟩
def args0 : Array Value := #[.long 5, .long 7, .int 3]
def aboutOver (below : List Frame) : State where
  vm := { classes := classes, interned := interned.toArray }
  heap := heap
  slotsUsed := slotsUsed
  threads := #[{ frames := .invoking theMethod args0 :: below }]
def below0 : List Frame := [.native { method := ⟨0, 0⟩, args := #[] }]
def about1 : State := aboutOver below0
def p0 : Program := .bare "" "" ""
def e0 : Env := launch0.env 0 0 0
theorem w_frames : about1.frames = Frame.invoking theMethod args0 :: below0 := rfl
set_option maxRecDepth 65536 in
theorem w_args : argsFit about1.vm theMethod args0 = true := by decide +kernel
set_option maxRecDepth 65536 in
theorem w_heap : heapFits about1 = true := by decide +kernel
set_option maxRecDepth 65536 in
theorem w_runnable : about1.curStatus? = some .runnable := by decide +kernel
set_option maxRecDepth 65536 in
theorem w_alone : about1.alone = true := by decide +kernel
set_option maxRecDepth 65536 in
theorem w_named : about1.methodNamed? x = some theMethod := by decide +kernel
set_option maxRecDepth 65536 in
theorem w_hears : about1.hears theMethod below0 = true := by decide +kernel
set_option maxRecDepth 65536 in
theorem w_ripe : about1.ripe theMethod args0 below0 = true := by decide +kernel
theorem w_running : about1.status = .running := rfl
set_option maxRecDepth 65536 in
theorem w_room : about1.hasRoom e0.platform room_1 = true :=
  launch0.hasRoom_least _ room_1 (by decide +kernel) (by decide +kernel) (by decide +kernel) (by decide +kernel) (by decide +kernel) (by decide +kernel)
theorem allAtoms_all (ts : List Jvm.Cond) (a : Array Jvm.Value) (st : Jvm.State) : (allAtoms ts).before a st = ts.all (fun c => c.before a st) := by
  induction ts with
  | nil => rfl
  | cons c t ih =>
    show (Jvm.Cond.and c (allAtoms t)).before a st = _
    rw [Jvm.Cond.before_and, ih, List.all_cons]
def words1 : List Jvm.Cond := Jvm.Cond.code x code maxLocals ret :: tables_1
/-- a 'code' word, met by the world's own term for the bytes: nothing is compared byte by byte -/
theorem code_word {y : MethodName} {bytes : ByteArray} {mx : Nat} {rt : Option FieldType} {a : Array Value} {s : State} {m : MethodId} {meth : Method} {c : Code} (h1 : s.methodNamed? y = some m) (h2 : s.vm.method? m = some meth) (h3 : meth.code = some c) (h4 : c.code = bytes)
    (h5 : (c.maxLocals == mx && c.exceptionTable.isEmpty && decide (c.maxStack ≤ mostOperands) && decide (meth.sig.returnType = rt) && !meth.locks && decide (parseMethodDescriptor y.desc = some meth.sig)) = true) : (Jvm.Cond.code y bytes mx rt).before a s = true := by
  simp only [Bool.and_eq_true, beq_iff_eq, Bool.not_eq_true', decide_eq_true_eq] at h5
  obtain ⟨⟨⟨⟨⟨g1, g2⟩, g3⟩, g4⟩, g5⟩, g6⟩ := h5
  simp [Cond.before, Cond.holds, Cond.value, h1, h2, h3, h4, g1, g2, g3, g4, g5, g6]
def isCode : Jvm.Cond → Bool
  | .code _ _ _ _ => true
  | _ => false
theorem all_split {L : List Jvm.Cond} {P : Jvm.Cond → Bool} (h1 : L.all (fun c => isCode c || P c) = true) (h2 : ∀ c ∈ L.filter isCode, P c = true) : L.all P = true := by
  refine List.all_eq_true.mpr fun c hc => ?_
  have h := List.all_eq_true.mp h1 c hc
  rcases Bool.eq_false_or_eq_true (isCode c) with hi | hi
  · exact h2 c (List.mem_filter.mpr ⟨hc, hi⟩)
  · simpa [hi] using h
set_option maxRecDepth 65536 in
theorem w_c0 : (Jvm.Cond.code x code maxLocals ret).before args0 about1 = true := code_word (m := ⟨1, 1⟩) (meth := k1m1) (c := k1c1) (by decide +kernel) rfl rfl rfl (by decide +kernel)
set_option maxRecDepth 65536 in
theorem w_c1 : (Jvm.Cond.code ({ cls := "com/example/binlogue/binlogue/replication/AuthMethodXorPinLaw", name := "fill", desc := "([BJ)V" } : Jvm.MethodName) method_4_code (3 : Nat) (Option.none : Option Jvm.ClassFile.FieldType)).before args0 about1 = true := code_word (m := ⟨1, 3⟩) (meth := k1m3) (c := k1c3) (by decide +kernel) rfl rfl rfl (by decide +kernel)
set_option maxRecDepth 65536 in
theorem w_c2 : (Jvm.Cond.code ({ cls := "com/example/binlogue/binlogue/replication/AuthMethod", name := "xor", desc := "([B[B)[B" } : Jvm.MethodName) prog_82_method_11_code (3 : Nat) (Option.some (Jvm.ClassFile.FieldType.array Jvm.ClassFile.FieldType.byte))).before args0 about1 = true := code_word (m := ⟨6, 0⟩) (meth := k6m0) (c := k6c0) (by decide +kernel) rfl rfl rfl (by decide +kernel)
set_option maxRecDepth 65536 in
theorem w_c3 : (Jvm.Cond.code ({ cls := "com/example/binlogue/binlogue/replication/AuthMethodXorPinLaw", name := "checkResult", desc := "([BJJI)Z" } : Jvm.MethodName) method_6_code (6 : Nat) (Option.some Jvm.ClassFile.FieldType.boolean)).before args0 about1 = true := code_word (m := ⟨1, 5⟩) (meth := k1m5) (c := k1c5) (by decide +kernel) rfl rfl rfl (by decide +kernel)
set_option maxRecDepth 65536 in
theorem w_c4 : (Jvm.Cond.code ({ cls := "com/example/binlogue/binlogue/replication/AuthMethodXorPinLaw", name := "okAt", desc := "([BJJII)Z" } : Jvm.MethodName) method_5_code (7 : Nat) (Option.some Jvm.ClassFile.FieldType.boolean)).before args0 about1 = true := code_word (m := ⟨1, 4⟩) (meth := k1m4) (c := k1c4) (by decide +kernel) rfl rfl rfl (by decide +kernel)
set_option maxRecDepth 65536 in
theorem w_c5 : (Jvm.Cond.code ({ cls := "com/example/binlogue/binlogue/replication/AuthMethodXorPinLaw", name := "checkMask", desc := "([BJ)Z" } : Jvm.MethodName) method_8_code (3 : Nat) (Option.some Jvm.ClassFile.FieldType.boolean)).before args0 about1 = true := code_word (m := ⟨1, 7⟩) (meth := k1m7) (c := k1c7) (by decide +kernel) rfl rfl rfl (by decide +kernel)
set_option maxRecDepth 65536 in
theorem w_c6 : (Jvm.Cond.code ({ cls := "com/example/binlogue/binlogue/replication/AuthMethodXorPinLaw", name := "maskAt", desc := "([BJI)Z" } : Jvm.MethodName) method_7_code (4 : Nat) (Option.some Jvm.ClassFile.FieldType.boolean)).before args0 about1 = true := code_word (m := ⟨1, 6⟩) (meth := k1m6) (c := k1c6) (by decide +kernel) rfl rfl rfl (by decide +kernel)
set_option maxRecDepth 65536 in
theorem w_c7 : (Jvm.Cond.code ({ cls := "com/example/binlogue/binlogue/replication/AuthMethodXorPinLaw", name := "at", desc := "(JI)B" } : Jvm.MethodName) method_3_code (3 : Nat) (Option.some Jvm.ClassFile.FieldType.byte)).before args0 about1 = true := code_word (m := ⟨1, 2⟩) (meth := k1m2) (c := k1c2) (by decide +kernel) rfl rfl rfl (by decide +kernel)
def codes1 : List Jvm.Cond := [Jvm.Cond.code x code maxLocals ret, Jvm.Cond.code ({ cls := "com/example/binlogue/binlogue/replication/AuthMethodXorPinLaw", name := "fill", desc := "([BJ)V" } : Jvm.MethodName) method_4_code (3 : Nat) (Option.none : Option Jvm.ClassFile.FieldType), Jvm.Cond.code ({ cls := "com/example/binlogue/binlogue/replication/AuthMethod", name := "xor", desc := "([B[B)[B" } : Jvm.MethodName) prog_82_method_11_code (3 : Nat) (Option.some (Jvm.ClassFile.FieldType.array Jvm.ClassFile.FieldType.byte)), Jvm.Cond.code ({ cls := "com/example/binlogue/binlogue/replication/AuthMethodXorPinLaw", name := "checkResult", desc := "([BJJI)Z" } : Jvm.MethodName) method_6_code (6 : Nat) (Option.some Jvm.ClassFile.FieldType.boolean), Jvm.Cond.code ({ cls := "com/example/binlogue/binlogue/replication/AuthMethodXorPinLaw", name := "okAt", desc := "([BJJII)Z" } : Jvm.MethodName) method_5_code (7 : Nat) (Option.some Jvm.ClassFile.FieldType.boolean), Jvm.Cond.code ({ cls := "com/example/binlogue/binlogue/replication/AuthMethodXorPinLaw", name := "checkMask", desc := "([BJ)Z" } : Jvm.MethodName) method_8_code (3 : Nat) (Option.some Jvm.ClassFile.FieldType.boolean), Jvm.Cond.code ({ cls := "com/example/binlogue/binlogue/replication/AuthMethodXorPinLaw", name := "maskAt", desc := "([BJI)Z" } : Jvm.MethodName) method_7_code (4 : Nat) (Option.some Jvm.ClassFile.FieldType.boolean), Jvm.Cond.code ({ cls := "com/example/binlogue/binlogue/replication/AuthMethodXorPinLaw", name := "at", desc := "(JI)B" } : Jvm.MethodName) method_3_code (3 : Nat) (Option.some Jvm.ClassFile.FieldType.byte)]
set_option maxRecDepth 65536 in
theorem codes_eq : words1.filter isCode = codes1 := rfl
theorem w_codes : ∀ c ∈ words1.filter isCode, c.before args0 about1 = true := by
  rw [codes_eq]
  intro c hc
  simp only [codes1, List.mem_cons, List.not_mem_nil, or_false] at hc
  rcases hc with rfl | rfl | rfl | rfl | rfl | rfl | rfl | rfl
  · exact w_c0
  · exact w_c1
  · exact w_c2
  · exact w_c3
  · exact w_c4
  · exact w_c5
  · exact w_c6
  · exact w_c7
set_option maxRecDepth 65536 in
theorem w_t1 : (words1.take 24).all (fun c => isCode c || c.before args0 about1) = true := by decide +kernel
set_option maxRecDepth 65536 in
theorem w_t2 : (words1.drop 24).all (fun c => isCode c || c.before args0 about1) = true := by decide +kernel
theorem w_tables : (allAtoms (Jvm.Cond.code x code maxLocals ret :: tables_1)).before args0 about1 = true := by
  rw [allAtoms_all]
  show words1.all (fun c => c.before args0 about1) = true
  refine all_split ?_ w_codes
  rw [← List.take_append_drop 24 words1, List.all_append, w_t1, w_t2]
  rfl
set_option maxRecDepth 65536 in
theorem w_case : (Jvm.Cond.and given_1 narrow_1).before args0 about1 = true := by decide +kernel
theorem w_applies : (headSpec (Jvm.Cond.code x code maxLocals ret :: tables_1) room_1).applies x e0.platform about1 = true :=
  (Spec.applies_iff w_frames).mpr ⟨w_running, w_runnable, w_alone, w_named, w_hears, w_ripe, w_room, w_tables⟩
theorem atStart : AtStart classFile x code maxLocals ret World_1 tables_1 room_1 Calls_1 rest_1 Pre_1 launch0 p0 e0 about1 theMethod args0 below0 :=
  ⟨lists_1, trivial, launch0.admits_env _ _ _, launch0.least_env, fairChoices_fair.cas, fairChoices_fair.clock, w_frames, w_args, w_heap, w_applies, trivial, trivial, w_case⟩
end start1
theorem witness_1 : WitnessClaimed_1 := ⟨start1.p0, start1.e0, start1.about1, start1.theMethod, start1.args0, start1.below0, start1.atStart⟩
end Jvm.Pilot.@@N@@
