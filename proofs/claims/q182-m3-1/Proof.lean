import JvmDerived
import JvmDerived.Pilot.@@N@@Statement
import JvmDerived.Pilot.@@N@@Code
set_option linter.unusedVariables false
set_option linter.unusedSimpArgs false
namespace Jvm.RoadKit
open Sem ClassFile Op Lib Jvm.Stand Jvm.Free Jvm.LawKit
section OwnKit
variable {p : Program} {l : Launch} {e : Env} {R : Room} {s : State} {m : MethodId} {args : Array Value} {below : List Frame} {meth : Method} {c : Code} {T : State} {locs : List Loc} {cells slots : Nat} {Z : State} {a0 : Array Value} {Q : Option Value → Heap → List Loc → Prop} {kc ks : Nat}
/-- the run from A ends, returns, and leaves what Q says -/
def own_Fin (p : Program) (e : Env) (below : List Frame) (s : State) (Q : Option Value → Heap → List Loc → Prop) (kc ks : Nat) (A : State) : Prop :=
  ∃ s₂ o, Steps p.tables e below A s₂ ∧ s₂.status = .running ∧ Ended s₂ below o ∧ ∃ v L, o = .returned v ∧ Q v s₂.heap L ∧ FrameEnd s o s₂ L kc ks
theorem own_go {A A' : State} (h : ∀ t, Steps p.tables e below A' t → Steps p.tables e below A t) (k : own_Fin p e below s Q kc ks A') : own_Fin p e below s Q kc ks A := by
  obtain ⟨s₂, o, h1, r⟩ := k
  exact ⟨s₂, o, h _ h1, r⟩
theorem own_to {A A' : State} (h : Steps p.tables e below A A') (k : own_Fin p e below s Q kc ks A') : own_Fin p e below s Q kc ks A := own_go (fun _ q => h.trans q) k
theorem own_mono {A : State} {Q' : Option Value → Heap → List Loc → Prop} (k : own_Fin p e below s Q kc ks A) (q : ∀ v h L, Q v h L → Q' v h L) : own_Fin p e below s Q' kc ks A := by
  obtain ⟨s₂, o, h1, h2, h3, v, L, h4, h5, h6⟩ := k
  exact ⟨s₂, o, h1, h2, h3, v, L, h4, q _ _ _ h5, h6⟩
/-- what a body knows of itself -/
def own_Ctx (p : Program) (s : State) (m : MethodId) (meth : Method) (c : Code) (Z : State) (a0 : Array Value) (tb : List Cond) (y : MethodName) (bytes : ByteArray) (maxL : Nat) (ret : Option FieldType) : Prop :=
  p.tables.exec = Jvm.exec ∧ c.code = bytes ∧ c.maxLocals = maxL ∧ Z.Warmed39 s.vm ∧ s.vm.findClass y.cls = some m.cls ∧ meth.name = y.name ∧ meth.sig.returnType = ret ∧ meth.locks = false ∧ (∀ d ∈ tb, d.before a0 Z = true)
/-- a contract -/
def own_Met (l : Launch) (Z : State) (y : MethodName) (bytes : ByteArray) (maxL : Nat) (ret : Option FieldType) (ws : List Cond) (rm : Room) (as' : Array Value) (h0 : Heap) (Q : Option Value → Heap → List Loc → Prop) : Prop :=
  MetFree l y (head1 (Cond.code y bytes maxL ret :: ws) rm) (fun a U => a = as' ∧ Z.Warmed39 U.vm ∧ U.heap = h0) (fun _ _ _ _ _ => True) (fun _ U o U' => ∃ v L, o = .returned v ∧ Q v U'.heap L ∧ FrameEnd U o U' L rm.cells rm.slots)
theorem own_enter {y : MethodName} {bytes : ByteArray} {maxL : Nat} {ret : Option FieldType} {rm : Room} {as' : Array Value} {h0 : Heap} {ws tb : List Cond} {Ls : Array Slot} (hp : plainFor y = true) (hef : ∀ m, entryFrame m as' maxL = mkF m 0 Ls []) (hw : ∀ d ∈ tb, d.before a0 Z = true)
    (body : ∀ (p : Program) (e : Env) (s : State) (m : MethodId) (below : List Frame) (meth : Method) (c : Code) (T : State), Stand p l e rm s m as' below meth c T [] 0 0 → own_Ctx p s m meth c Z a0 tb y bytes maxL ret → T.heap = h0 → own_Fin p e below s Q rm.cells rm.slots (T.setTop (mkF m 0 Ls []))) :
    own_Met l Z y bytes maxL ret ws rm as' h0 Q := by
  refine MetFree.of_bodySF hp hisR ?_
  intro p e s m args below meth c s₁ Bd hml0 hP hK
  obtain ⟨rfl, hZ, hh⟩ := hP
  have e0 : s₁.heap = h0 := by rw [← hh, Bd.state]; rfl
  obtain ⟨s₂, o, h1, r⟩ := body p e s m below meth c s₁ (Stand.of_body Bd) ⟨Bd.exec, Bd.bytes, hml0, hZ, findClass_of_methodNamed Bd.named, (name_of_methodNamed Bd.named Bd.method).1, Bd.returns, Bd.notSynchronized, hw⟩ e0
  exact ⟨s₂, o, castTop (hef m) h1, r⟩
/-- a return of a value -/
theorem own_ret (X : Stand p l e R s m args below meth c T locs cells slots) (hlk : meth.locks = false) (hx : p.tables.exec = Jvm.exec) {pc : Nat} {Ls : Array Slot} {w : Value} {t : FieldType} {i : Instr} {rest : List Value} (hret : meth.sig.returnType = some t) (hn : narrow t w = w)
    (hi : (i = .ireturn ∧ (t = .int ∨ t = .boolean ∨ t = .byte ∨ t = .char ∨ t = .short) ∧ ∃ z, w = .int z) ∨ (i = .lreturn ∧ t = .long ∧ ∃ z, w = .long z) ∨ (i = .dreturn ∧ t = .double ∧ ∃ z, w = .double z) ∨ (i = .freturn ∧ t = .float ∧ ∃ z, w = .float z) ∨ (i = .areturn ∧ t.isReference = true ∧ w.isRef = true))
    (hd : decode c.code pc = .ok (i, 1)) (hq : Q (some w) T.heap locs) (hc : cells ≤ kc) (hs : slots ≤ ks) : own_Fin p e below s Q kc ks (T.setTop (mkF m pc Ls (w :: rest))) := by
  obtain ⟨fs, hr, hrun, hended, hW, hsame⟩ := X.leave (v := some w) (fun h => by rw [hret] at h; cases h) hlk
  exact ⟨_, _, retOut X hx hret hn hi hd hr, hrun, hended, _, _, rfl, hq, ⟨_, rfl⟩, hW, hsame.mono hc hs⟩
/-- a return of a boolean, byte, char, short that may be narrowed -/
theorem own_retN (X : Stand p l e R s m args below meth c T locs cells slots) (hlk : meth.locks = false) (hx : p.tables.exec = Jvm.exec) {pc : Nat} {Ls : Array Slot} {z : Int32} {t : FieldType} {rest : List Value} (hret : meth.sig.returnType = some t) (ht : t = .boolean ∨ t = .byte ∨ t = .char ∨ t = .short)
    (hd : decode c.code pc = .ok (.ireturn, 1)) (hq : Q (some (.int (nar t z))) T.heap locs) (hc : cells ≤ kc) (hs : slots ≤ ks) : own_Fin p e below s Q kc ks (T.setTop (mkF m pc Ls (.int z :: rest))) := by
  obtain ⟨fs, hr, hrun, hended, hW, hsame⟩ := X.leave (v := some (.int (nar t z))) (fun h => by rw [hret] at h; cases h) hlk
  exact ⟨_, _, retN X hx hret ht hd hr, hrun, hended, _, _, rfl, hq, ⟨_, rfl⟩, hW, hsame.mono hc hs⟩
/-- a return of nothing -/
theorem own_ret0 (X : Stand p l e R s m args below meth c T locs cells slots) (hlk : meth.locks = false) (hx : p.tables.exec = Jvm.exec) {pc : Nat} {Ls : Array Slot} (hret : meth.sig.returnType = none)
    (hd : decode c.code pc = .ok (.return_, 1)) (hq : Q none T.heap locs) (hc : cells ≤ kc) (hs : slots ≤ ks) : own_Fin p e below s Q kc ks (T.setTop (mkF m pc Ls [])) := by
  obtain ⟨fs, hr, hrun, hended, hW, hsame⟩ := X.leave (v := none) (fun _ => rfl) hlk
  exact ⟨_, _, X.returnOut hx hret hd hr, hrun, hended, _, _, rfl, hq, ⟨_, rfl⟩, hW, hsame.mono hc hs⟩
/-- calls by contract -/
theorem own_callS (X : Stand p l e R s m args below meth c T locs cells slots) (hx : p.tables.exec = Jvm.exec) (hZ : Z.Warmed39 s.vm) {h : Heap} (eT : T.heap = h) {own : String} {index : Nat} {y : MethodName} {bytes : ByteArray} {maxL : Nat} {ret : Option FieldType} (hown : s.vm.findClass own = some m.cls)
    (w1 : (Cond.methodLink own index y).before a0 Z = true) (w2 : (Cond.static y).before a0 Z = true) (w3 : (Cond.initialized y.cls).before a0 Z = true) (w4 : (Cond.code y bytes maxL ret).before a0 Z = true) (hy : y.cls ≠ "java/lang/invoke/MethodHandle" ∧ y.cls ≠ "java/lang/invoke/VarHandle")
    {rm : Room} {argsL rest : List Value} (hM : own_Met l Z y bytes maxL ret [] rm argsL.toArray h Q) (hf : rm.frames + 1 ≤ R.frames) (W : Nat) (hl : W + (maxL + 11) + rm.locals ≤ R.locals) (hcR : cells + rm.cells ≤ R.cells) (hsR : slots + rm.slots ≤ R.slots)
    {g : JFrame} (hg : g.method = m) (hsize : g.locals.size = c.maxLocals) (hlen : ∀ sig, parseMethodDescriptor y.desc = some sig → argsL.length = sig.parameters.length) (hstack : g.stack = argsL.reverse ++ rest) (hW : 2 * g.monitorRoom + (rest.map fun v => v.category).sum ≤ W) (hdg : decode c.code g.pc = .ok (.invokestatic index, 3)) :
    ∃ v T' L, Stand p l e R s m args below meth c T' (locs ++ L) (cells + rm.cells) (slots + rm.slots) ∧ Q v T'.heap L ∧ ∀ target, Steps p.tables e below (T'.setTop { g with pc := g.pc + 3, stack := v.toList ++ rest }) target → Steps p.tables e below (T.setTop g) target := by
  obtain ⟨v, _, ⟨T', L', k', n'⟩, -, X', ⟨L, hQ, l1, y1, z1⟩, st⟩ := Jvm.LawKit.callS X hx hown (mvT hZ w1) (mvT hZ w2) (mvT hZ w3) (mvT hZ w4) hy (backOf (W := W) hM hZ w4 w3 hf hl) hg hsize hlen hstack hW hdg (fun _ _ => ⟨rfl, eT, hcR, hsR⟩)
  dsimp only [Pt.U, Pt.locs, Pt.cells, Pt.slots] at X' l1 y1 z1 st hQ
  subst l1 y1 z1
  exact ⟨v, T', L, X', hQ, st⟩
/-- a result, and nothing else -/
def own_QP (r : Option Value) (h0 : Heap) (v : Option Value) (h : Heap) (L : List Loc) : Prop := v = r ∧ L = [] ∧ h = h0
theorem own_callP (X : Stand p l e R s m args below meth c T locs cells slots) (hx : p.tables.exec = Jvm.exec) (hZ : Z.Warmed39 s.vm) {h : Heap} (eT : T.heap = h) {own : String} {index : Nat} {y : MethodName} {bytes : ByteArray} {maxL : Nat} {ret : Option FieldType} (hown : s.vm.findClass own = some m.cls)
    (w1 : (Cond.methodLink own index y).before a0 Z = true) (w2 : (Cond.static y).before a0 Z = true) (w3 : (Cond.initialized y.cls).before a0 Z = true) (w4 : (Cond.code y bytes maxL ret).before a0 Z = true) (hy : y.cls ≠ "java/lang/invoke/MethodHandle" ∧ y.cls ≠ "java/lang/invoke/VarHandle")
    {fr lo : Nat} {r : Option Value} {argsL rest : List Value} (hM : own_Met l Z y bytes maxL ret [] { frames := fr, cells := 0, slots := 0, locals := lo } argsL.toArray h (own_QP r h)) (hf : fr + 1 ≤ R.frames) (W : Nat) (hl : W + (maxL + 11) + lo ≤ R.locals) (hcR : cells ≤ R.cells) (hsR : slots ≤ R.slots)
    {g : JFrame} (hg : g.method = m) (hsize : g.locals.size = c.maxLocals) (hlen : ∀ sig, parseMethodDescriptor y.desc = some sig → argsL.length = sig.parameters.length) (hstack : g.stack = argsL.reverse ++ rest) (hW : 2 * g.monitorRoom + (rest.map fun v => v.category).sum ≤ W) (hdg : decode c.code g.pc = .ok (.invokestatic index, 3)) :
    ∃ T', Stand p l e R s m args below meth c T' locs cells slots ∧ T'.heap = h ∧ ∀ target, Steps p.tables e below (T'.setTop { g with pc := g.pc + 3, stack := r.toList ++ rest }) target → Steps p.tables e below (T.setTop g) target := by
  obtain ⟨v, T', L, X', ⟨rfl, rfl, e1⟩, st⟩ := own_callS X hx hZ eT hown w1 w2 w3 w4 hy hM hf W hl hcR hsR hg hsize hlen hstack hW hdg
  rw [List.append_nil] at X'
  exact ⟨T', X', e1, st⟩
theorem own_callI (X : Stand p l e R s m args below meth c T locs cells slots) (hx : p.tables.exec = Jvm.exec) (hZ : Z.Warmed39 s.vm) {h : Heap} (eT : T.heap = h) {own : String} {index : Nat} {y : MethodName} {bytes : ByteArray} {maxL : Nat} (hy1 : y.name = "<init>") (hown : s.vm.findClass own = some m.cls)
    (w1 : (Cond.methodLink own index y).before a0 Z = true) (w2 : (Cond.instanceMethod y).before a0 Z = true) (w3 : (Cond.initialized y.cls).before a0 Z = true) (w4 : (Cond.code y bytes maxL none).before a0 Z = true) (hy : y.cls ≠ "java/lang/invoke/MethodHandle" ∧ y.cls ≠ "java/lang/invoke/VarHandle")
    {rm : Room} {a : Addr} {argsL rest : List Value} (hM : own_Met l Z y bytes maxL none [] rm (.ref a :: argsL).toArray h Q) (hf : rm.frames + 1 ≤ R.frames) (W : Nat) (hl : W + (maxL + 11) + rm.locals ≤ R.locals) (hcR : cells + rm.cells ≤ R.cells) (hsR : slots + rm.slots ≤ R.slots)
    {g : JFrame} (hg : g.method = m) (hsize : g.locals.size = c.maxLocals) (hlen : ∀ sig, parseMethodDescriptor y.desc = some sig → argsL.length = sig.parameters.length) (hstack : g.stack = argsL.reverse ++ .ref a :: rest) (hW : 2 * g.monitorRoom + (rest.map fun v => v.category).sum ≤ W) (hdg : decode c.code g.pc = .ok (.invokespecial index, 3)) :
    ∃ v T' L, Stand p l e R s m args below meth c T' (locs ++ L) (cells + rm.cells) (slots + rm.slots) ∧ Q v T'.heap L ∧ ∀ target, Steps p.tables e below (T'.setTop { g with pc := g.pc + 3, stack := v.toList ++ rest }) target → Steps p.tables e below (T.setTop g) target := by
  obtain ⟨v, _, ⟨T', L', k', n'⟩, -, X', ⟨L, hQ, l1, y1, z1⟩, st⟩ := X.specialBack hx hy1 hown (mvT hZ w1) (mvT hZ w2) (mvT hZ w4) hy (backOf (W := W) hM hZ w4 w3 hf hl) hg hsize (Steps.refl _) hlen hstack hW hdg (fun _ _ => ⟨rfl, eT, hcR, hsR⟩)
  dsimp only [Pt.U, Pt.locs, Pt.cells, Pt.slots] at X' l1 y1 z1 st hQ
  subst l1 y1 z1
  exact ⟨v, T', L, X', hQ, fun _ q => st.trans q⟩
theorem own_callIP (X : Stand p l e R s m args below meth c T locs cells slots) (hx : p.tables.exec = Jvm.exec) (hZ : Z.Warmed39 s.vm) {h : Heap} (eT : T.heap = h) {own : String} {index : Nat} {y : MethodName} {bytes : ByteArray} {maxL : Nat} (hy1 : y.name = "<init>") (hown : s.vm.findClass own = some m.cls)
    (w1 : (Cond.methodLink own index y).before a0 Z = true) (w2 : (Cond.instanceMethod y).before a0 Z = true) (w3 : (Cond.initialized y.cls).before a0 Z = true) (w4 : (Cond.code y bytes maxL none).before a0 Z = true) (hy : y.cls ≠ "java/lang/invoke/MethodHandle" ∧ y.cls ≠ "java/lang/invoke/VarHandle")
    {fr lo : Nat} {a : Addr} {argsL rest : List Value} (hM : own_Met l Z y bytes maxL none [] { frames := fr, cells := 0, slots := 0, locals := lo } (.ref a :: argsL).toArray h (own_QP none h)) (hf : fr + 1 ≤ R.frames) (W : Nat) (hl : W + (maxL + 11) + lo ≤ R.locals) (hcR : cells ≤ R.cells) (hsR : slots ≤ R.slots)
    {g : JFrame} (hg : g.method = m) (hsize : g.locals.size = c.maxLocals) (hlen : ∀ sig, parseMethodDescriptor y.desc = some sig → argsL.length = sig.parameters.length) (hstack : g.stack = argsL.reverse ++ .ref a :: rest) (hW : 2 * g.monitorRoom + (rest.map fun v => v.category).sum ≤ W) (hdg : decode c.code g.pc = .ok (.invokespecial index, 3)) :
    ∃ T', Stand p l e R s m args below meth c T' locs cells slots ∧ T'.heap = h ∧ ∀ target, Steps p.tables e below (T'.setTop { g with pc := g.pc + 3, stack := rest }) target → Steps p.tables e below (T.setTop g) target := by
  obtain ⟨v, T', L, X', ⟨rfl, rfl, e1⟩, st⟩ := own_callI X hx hZ eT hy1 hown w1 w2 w3 w4 hy hM hf W hl hcR hsR hg hsize hlen hstack hW hdg
  rw [List.append_nil] at X'
  exact ⟨T', X', e1, st⟩
theorem own_callV (X : Stand p l e R s m args below meth c T locs cells slots) (hx : p.tables.exec = Jvm.exec) (hZ : Z.Warmed39 s.vm) {h : Heap} (eT : T.heap = h) {own C : String} {index : Nat} {y : MethodName} {bytes : ByteArray} {maxL : Nat} {ret : Option FieldType} (hown : s.vm.findClass own = some m.cls)
    (w1 : (Cond.methodLink own index y).before a0 Z = true) (wd : (Cond.declares y).before a0 Z = true) (ws : (Cond.selects C y y).before a0 Z = true) (w2 : (Cond.instanceMethod y).before a0 Z = true) (w3 : (Cond.initialized y.cls).before a0 Z = true) (w4 : (Cond.code y bytes maxL ret).before a0 Z = true) (hy : y.cls ≠ "java/lang/invoke/MethodHandle" ∧ y.cls ≠ "java/lang/invoke/VarHandle")
    {rm : Room} {a : Addr} (hE : Exa Z h a C) {argsL rest : List Value} (hM : own_Met l Z y bytes maxL ret [] rm (.ref a :: argsL).toArray h Q) (hf : rm.frames + 1 ≤ R.frames) (W : Nat) (hl : W + (maxL + 11) + rm.locals ≤ R.locals) (hcR : cells + rm.cells ≤ R.cells) (hsR : slots + rm.slots ≤ R.slots)
    {g : JFrame} (hg : g.method = m) (hsize : g.locals.size = c.maxLocals) (hlen : ∀ sig, parseMethodDescriptor y.desc = some sig → argsL.length = sig.parameters.length) (hstack : g.stack = argsL.reverse ++ .ref a :: rest) (hW : 2 * g.monitorRoom + (rest.map fun v => v.category).sum ≤ W) (hdg : decode c.code g.pc = .ok (.invokevirtual index, 3)) :
    ∃ v T' L, Stand p l e R s m args below meth c T' (locs ++ L) (cells + rm.cells) (slots + rm.slots) ∧ Q v T'.heap L ∧ ∀ target, Steps p.tables e below (T'.setTop { g with pc := g.pc + 3, stack := v.toList ++ rest }) target → Steps p.tables e below (T.setTop g) target := by
  obtain ⟨cq, kq, qa, qb, qc⟩ := isOf hZ eT hE
  obtain ⟨v, _, ⟨T', L', k', n'⟩, -, X', ⟨L, hQ, l1, y1, z1⟩, st⟩ := X.virtualBack hx hown (mvT hZ w1) (mvT hZ wd) (notFace_of_selects (args := #[]) (mvT hZ ws)) (mvT hZ ws) (mvT hZ w2) hy (backOf (W := W) hM hZ w4 w3 hf hl) qa qc hg hsize (Steps.refl _) hlen hstack hW hdg (fun _ _ => ⟨rfl, eT, hcR, hsR⟩)
  dsimp only [Pt.U, Pt.locs, Pt.cells, Pt.slots] at X' l1 y1 z1 st hQ
  subst l1 y1 z1
  exact ⟨v, T', L, X', hQ, fun _ q => st.trans q⟩
/-- a virtual call that only reads -/
theorem own_callVP (X : Stand p l e R s m args below meth c T locs cells slots) (hx : p.tables.exec = Jvm.exec) (hZ : Z.Warmed39 s.vm) {h : Heap} (eT : T.heap = h) {own C : String} {index : Nat} {y : MethodName} {bytes : ByteArray} {maxL : Nat} {ret : Option FieldType} (hown : s.vm.findClass own = some m.cls)
    (w1 : (Cond.methodLink own index y).before a0 Z = true) (wd : (Cond.declares y).before a0 Z = true) (ws : (Cond.selects C y y).before a0 Z = true) (w2 : (Cond.instanceMethod y).before a0 Z = true) (w3 : (Cond.initialized y.cls).before a0 Z = true) (w4 : (Cond.code y bytes maxL ret).before a0 Z = true) (hy : y.cls ≠ "java/lang/invoke/MethodHandle" ∧ y.cls ≠ "java/lang/invoke/VarHandle")
    {fr lo : Nat} {r : Option Value} {a : Addr} (hE : Exa Z h a C) {argsL rest : List Value} (hM : own_Met l Z y bytes maxL ret [] { frames := fr, cells := 0, slots := 0, locals := lo } (.ref a :: argsL).toArray h (own_QP r h)) (hf : fr + 1 ≤ R.frames) (W : Nat) (hl : W + (maxL + 11) + lo ≤ R.locals) (hcR : cells ≤ R.cells) (hsR : slots ≤ R.slots)
    {g : JFrame} (hg : g.method = m) (hsize : g.locals.size = c.maxLocals) (hlen : ∀ sig, parseMethodDescriptor y.desc = some sig → argsL.length = sig.parameters.length) (hstack : g.stack = argsL.reverse ++ .ref a :: rest) (hW : 2 * g.monitorRoom + (rest.map fun v => v.category).sum ≤ W) (hdg : decode c.code g.pc = .ok (.invokevirtual index, 3)) :
    ∃ T', Stand p l e R s m args below meth c T' locs cells slots ∧ T'.heap = h ∧ ∀ target, Steps p.tables e below (T'.setTop { g with pc := g.pc + 3, stack := r.toList ++ rest }) target → Steps p.tables e below (T.setTop g) target := by
  obtain ⟨v, T', L, X', ⟨rfl, rfl, e1⟩, st⟩ := own_callV X hx hZ eT hown w1 wd ws w2 w3 w4 hy hE hM hf W hl hcR hsR hg hsize hlen hstack hW hdg
  rw [List.append_nil] at X'
  exact ⟨T', X', e1, st⟩
/-- an array of ints or bytes, its elements by a function -/
def own_A (Z : State) (h : Heap) (a : Addr) (ty : FieldType) (z : Int32) (f : Int32 → Int32) : Prop :=
  ∃ cl : Cell, Arr Z h a cl ty ∧ cl.slots.size = z.toNatClampNeg ∧ ¬ z < 0 ∧ ∀ j : Int32, ¬ j < 0 → j < z → cl.slots[j.toNatClampNeg]? = some (.int (f j))
section A
variable {h h' : Heap} {a b : Addr} {ty : FieldType} {z : Int32} {f : Int32 → Int32} {ws : List Addr} {sl : Nat} {v : Value}
theorem own_A.lt (F : own_A Z h a ty z f) : a < h.size := by obtain ⟨cl, A, -⟩ := F; exact A.lt
theorem own_A.ext (F : own_A Z h a ty z f) (E : Ext h h') : own_A Z h' a ty z f := by obtain ⟨cl, A, r⟩ := F; exact ⟨cl, A.ext E, r⟩
theorem own_A.other (F : own_A Z h a ty z f) (W : Wr h h' b sl v) (q : a ≠ b) : own_A Z h' a ty z f := by obtain ⟨cl, A, r⟩ := F; exact ⟨cl, A.other W q, r⟩
theorem own_A.keep (F : own_A Z h a ty z f) (K : Keep h h' ws) (q : a ∉ ws) : own_A Z h' a ty z f := by obtain ⟨cl, A, r⟩ := F; exact ⟨cl, ⟨K.2.1 a cl A.1 q, A.2⟩, r⟩
theorem own_A.cong (F : own_A Z h a ty z f) {f' : Int32 → Int32} (q : ∀ j : Int32, ¬ j < 0 → j < z → f j = f' j) : own_A Z h a ty z f' := by
  obtain ⟨cl, A, S, n, H⟩ := F
  exact ⟨cl, A, S, n, fun j h1 h2 => by rw [← q j h1 h2]; exact H j h1 h2⟩
theorem own_A.set (F : own_A Z h a ty z f) {j w : Int32} (h0 : ¬ j < 0) (hj : j < z) (W : Wr h h' a j.toNatClampNeg (.int w)) : own_A Z h' a ty z (fun i => if i = j then w else f i) := by
  obtain ⟨cl, A, S, n, H⟩ := F
  refine ⟨_, A.same W, by rw [sz_set]; exact S, n, fun i h1 h2 => ?_⟩
  by_cases q : i = j
  · rw [get_hit (inb_of S ⟨h0, hj⟩) q]; show _ = some (Value.int (if i = j then w else f i)); rw [if_pos q]
  · rw [get_miss h0 h1 q, H i h1 h2]; show _ = some (Value.int (if i = j then w else f i)); rw [if_neg q]
theorem own_A.new {k : ClassId} (A : Arr Z h a (newA k ty z) ty) (q : ¬ z < 0) (d : defaultValue ty = .int 0) : own_A Z h a ty z (fun _ => 0) :=
  ⟨_, A, sz_new _ _ _, q, fun j h1 h2 => by rw [get_new (by have := inb_of (sz_new k ty z) ⟨h1, h2⟩; rw [sz_new] at this; exact this), d]⟩
theorem own_A.nn (F : own_A Z h a ty z f) : ¬ z < 0 := by obtain ⟨cl, A, S, n, H⟩ := F; exact n
end A
theorem own_newI (X : Stand p l e R s m args below meth c T locs cells slots) (hx : p.tables.exec = Jvm.exec) (hZ : Z.Warmed39 s.vm) {h : Heap} (eT : T.heap = h) (w : (Cond.arrayClass .int).before a0 Z = true) {g : JFrame} (hg : g.method = m) (hd : decode c.code g.pc = .ok (.newarray .int, 2)) {n : Int32} {rest : List Value} (hs : g.stack = .int n :: rest)
    (hn : ¬ n < 0) (cap : Nat) (hcap : n.toNatClampNeg ≤ cap) (hb : cap * 8 ≤ 536870912) (hc : cells + 1 ≤ R.cells) (hl : slots + cap ≤ R.slots) :
    ∃ T' a, Stand p l e R s m args below meth c T' locs (cells + 1) (slots + cap) ∧ Ext h T'.heap ∧ a = h.size ∧ own_A Z T'.heap a .int n (fun _ => 0) ∧ ∀ target, Steps p.tables e below (T'.setTop { g with pc := g.pc + 2, stack := .ref a :: rest }) target → Steps p.tables e below (T.setTop g) target := by
  obtain ⟨T', h', cA, X', e1, E, A, st⟩ := newP (aty := .int) X hx hZ w eT hg hd hs hn hcap hb hc hl
  subst e1
  exact ⟨T', _, X', E, rfl, own_A.new A hn rfl, st⟩
theorem own_newB (X : Stand p l e R s m args below meth c T locs cells slots) (hx : p.tables.exec = Jvm.exec) (hZ : Z.Warmed39 s.vm) {h : Heap} (eT : T.heap = h) (w : (Cond.arrayClass .byte).before a0 Z = true) {g : JFrame} (hg : g.method = m) (hd : decode c.code g.pc = .ok (.newarray .byte, 2)) {n : Int32} {rest : List Value} (hs : g.stack = .int n :: rest)
    (hn : ¬ n < 0) (cap : Nat) (hcap : n.toNatClampNeg ≤ cap) (hb : cap * 8 ≤ 536870912) (hc : cells + 1 ≤ R.cells) (hl : slots + cap ≤ R.slots) :
    ∃ T' a, Stand p l e R s m args below meth c T' locs (cells + 1) (slots + cap) ∧ Ext h T'.heap ∧ a = h.size ∧ own_A Z T'.heap a .byte n (fun _ => 0) ∧ ∀ target, Steps p.tables e below (T'.setTop { g with pc := g.pc + 2, stack := .ref a :: rest }) target → Steps p.tables e below (T.setTop g) target := by
  obtain ⟨T', h', cA, X', e1, E, A, st⟩ := newP (aty := .byte) X hx hZ w eT hg hd hs hn hcap hb hc hl
  subst e1
  exact ⟨T', _, X', E, rfl, own_A.new A hn rfl, st⟩
theorem own_stI (X : Stand p l e R s m args below meth c T locs cells slots) (hx : p.tables.exec = Jvm.exec) (hZ : Z.Warmed39 s.vm) {h : Heap} (eT : T.heap = h) {a : Addr} {z : Int32} {f : Int32 → Int32} (F : own_A Z h a .int z f) {j x : Int32} (h0 : ¬ j < 0) (hj : j < z) {g : JFrame} (hg : g.method = m) {rest : List Value} (hs : g.stack = .int x :: .int j :: .ref a :: rest) (hd : decode c.code g.pc = .ok (.iastore, 1)) :
    ∃ T', Stand p l e R s m args below meth c T' (locs ++ [⟨a, j.toNatClampNeg⟩]) cells slots ∧ Wr h T'.heap a j.toNatClampNeg (.int x) ∧ own_A Z T'.heap a .int z (fun i => if i = j then x else f i) ∧ ∀ target, Steps p.tables e below (T'.setTop { g with pc := g.pc + 1, stack := rest }) target → Steps p.tables e below (T.setTop g) target := by
  obtain ⟨cl, A, S, n, H⟩ := id F
  obtain ⟨T', h', X', e1, W, st⟩ := stI X hx hZ eT A (inb_of S ⟨h0, hj⟩) hg hs hd
  subst e1
  exact ⟨T', X', W, F.set h0 hj W, st⟩
theorem own_stB (X : Stand p l e R s m args below meth c T locs cells slots) (hx : p.tables.exec = Jvm.exec) (hZ : Z.Warmed39 s.vm) {h : Heap} (eT : T.heap = h) {a : Addr} {z : Int32} {f : Int32 → Int32} (F : own_A Z h a .byte z f) {j x : Int32} (h0 : ¬ j < 0) (hj : j < z) {g : JFrame} (hg : g.method = m) {rest : List Value} (hs : g.stack = .int x :: .int j :: .ref a :: rest) (hd : decode c.code g.pc = .ok (.bastore, 1)) :
    ∃ T', Stand p l e R s m args below meth c T' (locs ++ [⟨a, j.toNatClampNeg⟩]) cells slots ∧ Wr h T'.heap a j.toNatClampNeg (.int x.toInt8.toInt32) ∧ own_A Z T'.heap a .byte z (fun i => if i = j then x.toInt8.toInt32 else f i) ∧ ∀ target, Steps p.tables e below (T'.setTop { g with pc := g.pc + 1, stack := rest }) target → Steps p.tables e below (T.setTop g) target := by
  obtain ⟨cl, A, S, n, H⟩ := id F
  obtain ⟨T', h', X', e1, W, st⟩ := stB X hx hZ eT A (inb_of S ⟨h0, hj⟩) hg hs hd
  subst e1
  exact ⟨T', X', W, F.set h0 hj W, st⟩
theorem own_ldI (X : Stand p l e R s m args below meth c T locs cells slots) (hx : p.tables.exec = Jvm.exec) (hZ : Z.Warmed39 s.vm) {h : Heap} (eT : T.heap = h) {a : Addr} {z : Int32} {f : Int32 → Int32} (F : own_A Z h a .int z f) {j : Int32} (h0 : ¬ j < 0) (hj : j < z) {g : JFrame} (hg : g.method = m) {rest : List Value} (hs : g.stack = .int j :: .ref a :: rest) (hd : decode c.code g.pc = .ok (.iaload, 1)) :
    ∀ target, Steps p.tables e below (T.setTop { g with pc := g.pc + 1, stack := .int (f j) :: rest }) target → Steps p.tables e below (T.setTop g) target := by
  obtain ⟨cl, A, S, n, H⟩ := id F
  exact fun target q => X.iaload hx (by rw [eT]; exact A.1) (State.isArrayOf_alike hZ.alike A.2.1) A.2.2 (inb_of S ⟨h0, hj⟩) (H j h0 hj) hg hs hd target q
theorem own_ldB (X : Stand p l e R s m args below meth c T locs cells slots) (hx : p.tables.exec = Jvm.exec) (hZ : Z.Warmed39 s.vm) {h : Heap} (eT : T.heap = h) {a : Addr} {z : Int32} {f : Int32 → Int32} (F : own_A Z h a .byte z f) {j : Int32} (h0 : ¬ j < 0) (hj : j < z) {g : JFrame} (hg : g.method = m) {rest : List Value} (hs : g.stack = .int j :: .ref a :: rest) (hd : decode c.code g.pc = .ok (.baload, 1)) :
    ∀ target, Steps p.tables e below (T.setTop { g with pc := g.pc + 1, stack := .int (f j) :: rest }) target → Steps p.tables e below (T.setTop g) target := by
  obtain ⟨cl, A, S, n, H⟩ := id F
  exact fun target q => X.baloadBytes hx (by rw [eT]; exact A.1) (State.isArrayOf_alike hZ.alike A.2.1) A.2.2 (inb_of S ⟨h0, hj⟩) (H j h0 hj) hg hs hd target q
theorem own_len (X : Stand p l e R s m args below meth c T locs cells slots) (hx : p.tables.exec = Jvm.exec) (hZ : Z.Warmed39 s.vm) {h : Heap} (eT : T.heap = h) {a : Addr} {ty : FieldType} {z : Int32} {f : Int32 → Int32} (F : own_A Z h a ty z f) {g : JFrame} (hg : g.method = m) {rest : List Value} (hs : g.stack = .ref a :: rest) (hd : decode c.code g.pc = .ok (.arraylength, 1)) :
    ∀ target, Steps p.tables e below (T.setTop { g with pc := g.pc + 1, stack := .int z :: rest }) target → Steps p.tables e below (T.setTop g) target := by
  obtain ⟨cl, A, S, n, H⟩ := id F
  exact fun target q => X.arraylength hx (by rw [eT]; exact A.1) (State.isArrayOf_alike hZ.alike A.2.1) hg hs hd target (by rw [len_of S n]; exact q)
/-- fields -/
theorem own_getF (X : Stand p l e R s m args below meth c T locs cells slots) (hx : p.tables.exec = Jvm.exec) (hZ : Z.Warmed39 s.vm) {h : Heap} (eT : T.heap = h) {own O n d : String} {index : Nat} (hown : s.vm.findClass own = some m.cls) (w : (Cond.fieldLink own index O n d).before a0 Z = true)
    {a : Addr} {v : Value} (F : Fld Z h a O n d v) {g : JFrame} (hg : g.method = m) {rest : List Value} (hs : g.stack = .ref a :: rest) (hd : decode c.code g.pc = .ok (.getfield index, 3)) :
    ∃ T', Stand p l e R s m args below meth c T' locs cells slots ∧ T'.heap = h ∧ ∀ target, Steps p.tables e below (T'.setTop { g with pc := g.pc + 3, stack := v :: rest }) target → Steps p.tables e below (T.setTop g) target :=
  getF X hx hZ hown (host := "") (Or.inl w) Via.refl eT F hg hs hd
theorem own_putF (X : Stand p l e R s m args below meth c T locs cells slots) (hx : p.tables.exec = Jvm.exec) (hZ : Z.Warmed39 s.vm) {h : Heap} (eT : T.heap = h) {own O n d C : String} {index kk : Nat} {ty : FieldType} (hown : s.vm.findClass own = some m.cls) (w : (Cond.fieldLink own index O n d).before a0 Z = true)
    {a : Addr} {v old : Value} (F : Fld Z h a O n d old) (E : Exa Z h a C) (L : (Cond.lays C O n d).before a0 Z = true ∨ ((Cond.laysFinal C O n d).before a0 Z = true ∧ own = O ∧ meth.name = "<init>")) (wi : (Cond.instantiable C kk).before a0 Z = true)
    (hty : parseFieldDescriptor d = some ty) (hn : narrow ty v = v) (hf : fits ty v = true) {g : JFrame} (hg : g.method = m) {rest : List Value} (hs : g.stack = v :: .ref a :: rest) (hd : decode c.code g.pc = .ok (.putfield index, 3)) :
    ∃ T', Stand p l e R s m args below meth c T' (locs ++ [⟨a, slotOf Z O n d⟩]) cells slots ∧ Wr h T'.heap a (slotOf Z O n d) v ∧ ∀ target, Steps p.tables e below (T'.setTop { g with pc := g.pc + 3, stack := rest }) target → Steps p.tables e below (T.setTop g) target := by
  obtain ⟨T', h', X', e1, W, st⟩ := putF X hx hZ hown (host := "") (Or.inl w) Via.refl eT F E L wi hty hn hf hg hs hd
  subst e1
  exact ⟨T', X', W, st⟩
/-- comparisons with literals, through Int -/
theorem own_lt {x k : Int32} (K : Int) (hk : k.toInt = K) (h : x.toInt < K) : x < k := by rw [Int32.lt_iff_toInt_lt, hk]; exact h
theorem own_nlt {x k : Int32} (K : Int) (hk : k.toInt = K) (h : K ≤ x.toInt) : ¬ x < k := by rw [Int32.lt_iff_toInt_lt, hk]; omega
theorem own_gt {x k : Int32} (K : Int) (hk : k.toInt = K) (h : K < x.toInt) : k < x := by rw [Int32.lt_iff_toInt_lt, hk]; exact h
theorem own_ngt {x k : Int32} (K : Int) (hk : k.toInt = K) (h : x.toInt ≤ K) : ¬ k < x := by rw [Int32.lt_iff_toInt_lt, hk]; omega
theorem own_ieq {x k : Int32} (K : Int) (hk : k.toInt = K) (h : x.toInt = K) : x = k := Int32.toInt_inj.mp (by rw [hk]; exact h)
theorem own_ineq {x k : Int32} (K : Int) (hk : k.toInt = K) (h : x.toInt < K ∨ K < x.toInt) : ¬ x = k := fun q => by subst q; omega
end OwnKit
end Jvm.RoadKit
namespace Jvm.RoadKit
open Sem ClassFile Op Lib Jvm.Stand Jvm.Free Jvm.LawKit
theorem own_mask31 (b : Int32) : 0 ≤ (b &&& 2147483647).toInt := by
  have h := c_mask b 2147483647 31 (by decide) (by decide)
  rw [h]; exact Int.emod_nonneg _ (by decide)
theorem own_modpos (b k : Int32) (K : Int) (hk : k.toInt = K) (h0 : 0 < K) : 0 ≤ ((b &&& 2147483647) % k).toInt ∧ ((b &&& 2147483647) % k).toInt < K := by
  rw [(c_irem (b &&& 2147483647) k K hk).1 (own_mask31 b)]
  exact ⟨Int.emod_nonneg _ (by omega), Int.emod_lt_of_pos _ h0⟩
theorem own_maskpos (b m : Int32) (k : Nat) (hk : k ≤ 31) (hm : m.toBitVec.toNat = 2 ^ k - 1) (K : Int) (hK : K = ((2 ^ k : Nat) : Int)) (h0 : 0 < K) : 0 ≤ (b &&& m).toInt ∧ (b &&& m).toInt < K := by
  rw [c_mask b m k hk hm, ← hK]
  exact ⟨Int.emod_nonneg _ (by omega), Int.emod_lt_of_pos _ h0⟩
end Jvm.RoadKit
namespace Jvm.RoadKit
open Sem ClassFile Op Lib Jvm.Stand Jvm.Free Jvm.LawKit
theorem own_clamp (n : Int32) (k : Nat) (h : n.toInt ≤ k) : n.toNatClampNeg ≤ k := by
  show n.toInt.toNat ≤ k
  omega
theorem own_bb (x : Int32) : x.toInt8.toInt32.toInt8.toInt32 = x.toInt8.toInt32 := by rw [Int8.toInt8_toInt32]
theorem own_ltT {x y : Int32} (h : x < y) : x.toInt < y.toInt := Int32.lt_iff_toInt_lt.mp h
theorem own_nltT {x y : Int32} (h : ¬ x < y) : y.toInt ≤ x.toInt := by rw [Int32.lt_iff_toInt_lt] at h; omega
theorem own_Tlt {x y : Int32} (h : x.toInt < y.toInt) : x < y := Int32.lt_iff_toInt_lt.mpr h
theorem own_Tnlt {x y : Int32} (h : y.toInt ≤ x.toInt) : ¬ x < y := by rw [Int32.lt_iff_toInt_lt]; omega
theorem own_neT {x y : Int32} (h : ¬ x = y) : ¬ x.toInt = y.toInt := fun q => h (Int32.toInt_inj.mp q)
end Jvm.RoadKit
namespace Jvm.RoadKit
open Sem ClassFile Op Lib Jvm.Stand Jvm.Free Jvm.LawKit
section OwnJson
variable {p : Program} {l : Launch} {e : Env} {R : Room} {s : State} {m : MethodId} {args : Array Value} {below : List Frame} {meth : Method} {c : Code} {T : State} {locs : List Loc} {cells slots : Nat} {Z : State} {a0 : Array Value} {Q : Option Value → Heap → List Loc → Prop}
/-- a byte array, its class by name, its elements by a function, each a byte -/
def own_AB (Z : State) (h : Heap) (a : Addr) (z : Int32) (f : Int32 → Int32) : Prop :=
  ∃ cl : Cell, Arr Z h a cl .byte ∧ Z.vm.findClass "[B" = some cl.cls ∧ cl.slots.size = z.toNatClampNeg ∧ ¬ z < 0 ∧ (∀ j : Int32, ¬ j < 0 → j < z → cl.slots[j.toNatClampNeg]? = some (.int (f j))) ∧ ∀ j : Int32, fits .byte (.int (f j)) = true
section A
variable {h h' : Heap} {a b : Addr} {z : Int32} {f : Int32 → Int32} {ws : List Addr} {sl : Nat} {v : Value}
theorem own_AB.toA (F : own_AB Z h a z f) : own_A Z h a .byte z f := by obtain ⟨cl, A, -, S, n, H, -⟩ := F; exact ⟨cl, A, S, n, H⟩
theorem own_AB.lt (F : own_AB Z h a z f) : a < h.size := F.toA.lt
theorem own_AB.nn (F : own_AB Z h a z f) : ¬ z < 0 := F.toA.nn
theorem own_AB.ext (F : own_AB Z h a z f) (E : Ext h h') : own_AB Z h' a z f := by obtain ⟨cl, A, r⟩ := F; exact ⟨cl, A.ext E, r⟩
theorem own_AB.other (F : own_AB Z h a z f) (W : Wr h h' b sl v) (q : a ≠ b) : own_AB Z h' a z f := by obtain ⟨cl, A, r⟩ := F; exact ⟨cl, A.other W q, r⟩
theorem own_AB.keep (F : own_AB Z h a z f) (K : Keep h h' ws) (q : a ∉ ws) : own_AB Z h' a z f := by obtain ⟨cl, A, r⟩ := F; exact ⟨cl, ⟨K.2.1 a cl A.1 q, A.2⟩, r⟩
theorem own_AB.set (F : own_AB Z h a z f) {j w : Int32} (h0 : ¬ j < 0) (hj : j < z) (W : Wr h h' a j.toNatClampNeg (.int w)) (hf : fits .byte (.int w) = true) : own_AB Z h' a z (fun i => if i = j then w else f i) := by
  obtain ⟨cl, A, K, S, n, H, G⟩ := F
  refine ⟨_, A.same W, K, by rw [sz_set]; exact S, n, fun i h1 h2 => ?_, fun i => ?_⟩
  · by_cases q : i = j
    · rw [get_hit (inb_of S ⟨h0, hj⟩) q]; show _ = some (Value.int (if i = j then w else f i)); rw [if_pos q]
    · rw [get_miss h0 h1 q, H i h1 h2]; show _ = some (Value.int (if i = j then w else f i)); rw [if_neg q]
  · show fits .byte (.int (if i = j then w else f i)) = true
    by_cases q : i = j
    · rw [if_pos q]; exact hf
    · rw [if_neg q]; exact G i
end A
theorem own_newBB (X : Stand p l e R s m args below meth c T locs cells slots) (hx : p.tables.exec = Jvm.exec) (hZ : Z.Warmed39 s.vm) {h : Heap} (eT : T.heap = h) (w : (Cond.arrayClass .byte).before a0 Z = true) {g : JFrame} (hg : g.method = m) (hd : decode c.code g.pc = .ok (.newarray .byte, 2)) {n : Int32} {rest : List Value} (hs : g.stack = .int n :: rest)
    (hn : ¬ n < 0) (cap : Nat) (hcap : n.toNatClampNeg ≤ cap) (hb : cap * 8 ≤ 536870912) (hc : cells + 1 ≤ R.cells) (hl : slots + cap ≤ R.slots) :
    ∃ T' a, Stand p l e R s m args below meth c T' locs (cells + 1) (slots + cap) ∧ Ext h T'.heap ∧ a = h.size ∧ own_AB Z T'.heap a n (fun _ => 0) ∧ ∀ target, Steps p.tables e below (T'.setTop { g with pc := g.pc + 2, stack := .ref a :: rest }) target → Steps p.tables e below (T.setTop g) target := by
  obtain ⟨cA, kA, comp, h1, h2, h3, X', st⟩ := X.newarrayPrim (atype := .byte) hx (mvA hZ w) hg hd hs hn (by show n.toNatClampNeg * 1 ≤ _; omega) hc (by omega)
  subst eT
  have hf : Z.vm.findClass "[B" = some cA := (hZ.alike.findClass "[B" none).symm.trans h1
  have hk : ∃ kZ, Z.vm.classes[cA]? = some kZ ∧ kA.kind = kZ.kind := by
    obtain ⟨kZ, z1, -⟩ := Vm.findClass_spec hf
    obtain ⟨k', z2, z3⟩ := hZ.alike.2.2 _ _ z1
    exact ⟨kZ, z1, by rw [Option.some.inj (h2.symm.trans z2), z3]⟩
  obtain ⟨kZ, z1, z3⟩ := hk
  have E : Ext T.heap (T.pushCell { cls := cA, slots := Array.replicate n.toNatClampNeg (defaultValue .byte), vm := .none }).heap :=
    ext_of fun a ha => by
      show (T.heap.push _)[a]? = _
      simp [Array.getElem?_push, Nat.ne_of_lt ha]
  have A : Arr Z (T.pushCell { cls := cA, slots := Array.replicate n.toNatClampNeg (defaultValue .byte), vm := .none }).heap T.heap.size (newA cA .byte n) .byte := by
    refine ⟨?_, ⟨nofun, kZ, z1, comp, z3 ▸ h3⟩, nofun⟩
    show (T.heap.push _)[T.heap.size]? = _
    simp [newA]
  obtain ⟨cl, A', S, nn, H⟩ := own_A.new A hn rfl
  have ec : cl = newA cA .byte n := Option.some.inj (A'.1.symm.trans A.1)
  exact ⟨_, _, X'.mono (Nat.le_refl _) (by omega), E, rfl, ⟨cl, A', by rw [ec]; exact hf, S, nn, H, fun _ => (by decide : fits .byte (.int (0 : Int32)) = true)⟩, st⟩
theorem own_idx {i : Nat} (h : i < 2 ^ 31) : i.toInt32.toNatClampNeg = i := by
  have q : i.toInt32.toInt = i := len_toInt h
  show i.toInt32.toInt.toNat = i
  omega
theorem own_nlt0 {j : Int32} (h : ¬ j < 0) : 0 ≤ j.toInt := by
  rw [Int32.lt_iff_toInt_lt] at h
  have o : (0 : Int32).toInt = 0 := by decide
  omega
theorem own_copyOf (X : Stand p l e R s m args below meth c T locs cells slots) (hx : p.tables.exec = Jvm.exec) (hZ : Z.Warmed39 s.vm) {h : Heap} (eT : T.heap = h) {own : String} {index : Nat} (hown : s.vm.findClass own = some m.cls)
    (w1 : (Cond.methodLink own index Jvm.Free.JA.CopyOfB.yN).before a0 Z = true) (w2 : (Cond.static Jvm.Free.JA.CopyOfB.yN).before a0 Z = true) (w3 : (Cond.initialized "java/util/Arrays").before a0 Z = true) (w4 : (Cond.code Jvm.Free.JA.CopyOfB.yN Jvm.Free.JA.CopyOfB.yB 3 (some (.array .byte))).before a0 Z = true)
    (htab : Jvm.Free.JA.CopyOfB.tab.before args s = true) {d : Addr} {z : Int32} {f : Int32 → Int32} (F : own_AB Z h d z f) {n : Int32} (hn : ¬ n < 0) (cap : Nat) (hcap : n.toNatClampNeg ≤ cap) (hb : cap ≤ 536870912) (hfr : 2 ≤ R.frames) (W : Nat) (hlo : W + 54 ≤ R.locals) (hc : cells + 1 ≤ R.cells) (hs : slots + cap ≤ R.slots)
    {g : JFrame} (hg : g.method = m) (hsize : g.locals.size = c.maxLocals) {rest : List Value} (hstack : g.stack = .int n :: .ref d :: rest) (hW : 2 * g.monitorRoom + (rest.map fun v => v.category).sum ≤ W) (hdg : decode c.code g.pc = .ok (.invokestatic index, 3)) :
    ∃ T' b, Stand p l e R s m args below meth c T' locs (cells + 1) (slots + cap) ∧ Ext h T'.heap ∧ b = h.size ∧ own_AB Z T'.heap b n (fun j => if j < 0 then 0 else if j < z then f j else 0) ∧ ∀ target, Steps p.tables e below (T'.setTop { g with pc := g.pc + 3, stack := .ref b :: rest }) target → Steps p.tables e below (T.setTop g) target := by
  obtain ⟨cl, A, K, S, nn, H, G⟩ := F
  subst eT
  have hsz : cl.slots.size < 2 ^ 31 := by rw [S]; exact (back32 nn).2
  obtain ⟨v, vm₁, ⟨T', L', k', n'⟩, hWm, X', ⟨hE, l1, y1, z1⟩, st⟩ := Jvm.LawKit.callS X hx (y := Jvm.Free.JA.CopyOfB.yN) hown (mvT hZ w1) (mvT hZ w2) (mvT hZ w3) (mvT hZ w4) (by decide) (Jvm.Free.JA.CopyOfB.pays (len := 3) (W := W) d cl n.toNatClampNeg htab hfr hlo) hg hsize (argsL := [.ref d, .int n]) (rest := rest) (lenOf (ps := [.array .byte, .int]) (r := some (.array .byte)) (by decide +kernel) rfl) hstack hW hdg
    (fun vm₁ hv => ⟨hc, Nat.le_trans (Nat.add_le_add_left hcap _) hs, by
      have hU : Z.Warmed39 (T.setVm vm₁).vm := wtrans hZ hv
      refine ⟨?_, ⟨A.1, State.isArrayOf_alike hU.alike A.2.1, A.2.2, hsz⟩, by rw [hU.alike.findClass]; exact K, ?_, Nat.le_trans hcap hb⟩
      · show #[Value.ref d, Value.int n] = #[Value.ref d, Value.int (Int32.ofNat n.toNatClampNeg)]
        rw [show Int32.ofNat n.toNatClampNeg = n from (back32 hn).1]
      · intro i v hv
        have hi : i < cl.slots.size := (Array.getElem?_eq_some_iff.mp hv).1
        have e1 := own_idx (i := i) (by omega)
        have q : i.toInt32.toInt = i := len_toInt (by omega)
        have zz : (z.toNatClampNeg : Int) = z.toInt := by
          have := nn
          rw [Int32.lt_iff_toInt_lt] at this
          have o : (0 : Int32).toInt = 0 := by decide
          show ((z.toInt.toNat : Nat) : Int) = _
          omega
        have hh := H i.toInt32 (by rw [Int32.lt_iff_toInt_lt, q]; have o : (0 : Int32).toInt = 0 := (by decide); omega) (by rw [Int32.lt_iff_toInt_lt, q]; omega)
        rw [e1, hv] at hh
        cases Option.some.inj hh
        exact G _⟩)
  dsimp only [Pt.U, Pt.locs, Pt.cells, Pt.slots] at X' l1 y1 z1 st hE
  obtain ⟨rfl, B, ⟨b1, b2, b3, b4⟩, b5, b6, b7, b8, b9⟩ := hE
  subst l1 y1 z1
  have hU : Z.Warmed39 T'.vm := wtrans hZ X'.warmed
  have b1' : T'.heap[T.heap.size]? = some B := b1
  rw [List.append_nil] at X'
  refine ⟨T', _, X'.mono (Nat.le_refl _) (Nat.add_le_add_left hcap _), ⟨Nat.le_of_lt (Array.getElem?_eq_some_iff.mp b1').1, fun x cx q => b9 x cx q⟩, rfl, ⟨B, ⟨b1', State.isArrayOf_alike hU.alike.symm b2, b3⟩, by rw [← hU.alike.findClass]; exact b6, b7, hn, fun j h1 h2 => ?_, fun j => ?_⟩, st⟩
  · have hj : j.toNatClampNeg < n.toNatClampNeg := by
      have a1 := own_nlt0 h1
      have a2 := Int32.lt_iff_toInt_lt.mp h2
      show j.toInt.toNat < n.toInt.toNat
      omega
    rw [b8 _ hj]
    show some (cl.slots.getD j.toNatClampNeg (defaultValue .byte)) = some (Value.int (if j < 0 then 0 else if j < z then f j else 0))
    rw [if_neg h1]
    by_cases q : j < z
    · rw [if_pos q, Array.getD_eq_getD_getElem?, H j h1 q]; rfl
    · rw [if_neg q, Array.getD_eq_getD_getElem?, Array.getElem?_eq_none (by
        rw [S]
        have a1 := own_nlt0 h1
        have a2 : ¬ j.toInt < z.toInt := fun t => q (Int32.lt_iff_toInt_lt.mpr t)
        show z.toInt.toNat ≤ j.toInt.toNat
        omega)]; rfl
  · show fits .byte (.int (if j < 0 then 0 else if j < z then f j else 0)) = true
    by_cases q0 : j < 0
    · rw [if_pos q0]; decide
    · rw [if_neg q0]
      by_cases q : j < z
      · rw [if_pos q]; exact G j
      · rw [if_neg q]; decide
theorem own_callX (X : Stand p l e R s m args below meth c T locs cells slots) (hx : p.tables.exec = Jvm.exec) (hZ : Z.Warmed39 s.vm) {h : Heap} (eT : T.heap = h) {own : String} {index k : Nat} {y : MethodName} {bytes : ByteArray} {maxL : Nat} {ret : Option FieldType} (hown : s.vm.findClass own = some m.cls)
    (w1 : (Cond.methodLink own index y).before a0 Z = true) (wi : (Cond.instantiable y.cls k).before a0 Z = true) (wp : (Cond.privateMethod y).before a0 Z = true) (w2 : (Cond.instanceMethod y).before a0 Z = true) (w3 : (Cond.initialized y.cls).before a0 Z = true) (w4 : (Cond.code y bytes maxL ret).before a0 Z = true) (hy : y.cls ≠ "java/lang/invoke/MethodHandle" ∧ y.cls ≠ "java/lang/invoke/VarHandle")
    {rm : Room} {a : Addr} (hE : Exa Z h a y.cls) {argsL rest : List Value} (hM : own_Met l Z y bytes maxL ret [] rm (.ref a :: argsL).toArray h Q) (hf : rm.frames + 1 ≤ R.frames) (W : Nat) (hl : W + (maxL + 11) + rm.locals ≤ R.locals) (hcR : cells + rm.cells ≤ R.cells) (hsR : slots + rm.slots ≤ R.slots)
    {g : JFrame} (hg : g.method = m) (hsize : g.locals.size = c.maxLocals) (hlen : ∀ sig, parseMethodDescriptor y.desc = some sig → argsL.length = sig.parameters.length) (hstack : g.stack = argsL.reverse ++ .ref a :: rest) (hW : 2 * g.monitorRoom + (rest.map fun v => v.category).sum ≤ W) (hdg : decode c.code g.pc = .ok (.invokevirtual index, 3)) :
    ∃ v T' L, Stand p l e R s m args below meth c T' (locs ++ L) (cells + rm.cells) (slots + rm.slots) ∧ Q v T'.heap L ∧ ∀ target, Steps p.tables e below (T'.setTop { g with pc := g.pc + 3, stack := v.toList ++ rest }) target → Steps p.tables e below (T.setTop g) target := by
  obtain ⟨cq, q, q'⟩ := hE.cell
  have hpr : s.PrivateAt y := Cond.privateMethod_at (mvP hZ wp (args := #[]))
  have wi' : (Cond.instantiable y.cls k).before args s = true := mvT hZ wi
  obtain ⟨cI, kI, i1, i2, -, i4, -, -⟩ := Cond.instantiable_spec wi'
  have hsel : (Cond.selects y.cls y y).before args s = true := selects_self_of_private i1 i2 (Bool.or_eq_false_iff.mp i4).1 hpr (mvT hZ w2) hy
  obtain ⟨v, _, ⟨T', L', k', n'⟩, -, X', ⟨L, hQ, l1, y1, z1⟩, st⟩ := X.privateBack hx hown (mvT hZ w1) (mvT hZ w2) hsel hpr (mvT hZ w4) hy (backOf (W := W) hM hZ w4 w3 hf hl) hg hsize (Steps.refl _) (a := a) (by rw [eT]; exact q) q' hlen hstack hW hdg (fun _ _ => ⟨rfl, eT, hcR, hsR⟩)
  dsimp only [Pt.U, Pt.locs, Pt.cells, Pt.slots] at X' l1 y1 z1 st hQ
  subst l1 y1 z1
  exact ⟨v, T', L, X', hQ, fun _ q => st.trans q⟩
end OwnJson
end Jvm.RoadKit
namespace Jvm.Pilot.@@N@@
open Jvm Jvm.ClassFile Sem Op Lib Jvm.Free Jvm.Stand Jvm.LawKit Jvm.RoadKit Bundle Jvm.Pilot.@@N@@.Jvm.D
theorem own_htab (l : Launch) {Z s : State} {a0 : Array Value} (hw : ∀ d ∈ tables_1, d.before a0 Z = true) (hZ : Z.Warmed39 s.vm) (args : Array Value) : Jvm.Free.JA.CopyOfB.tab.before args s = true := by
  refine Jvm.Free.XT.unparts (mvT hZ (hw _ (List.mem_of_getElem? (i := 38) rfl))) (fun w hm => ?_)
  have hm : w ∈ (_ :: _ :: _ :: _ :: _ :: _ :: _ :: _ :: _ :: _ :: _ :: _ :: _ :: _ :: _ :: _ :: _ :: [] : List Jvm.Cond) := hm
  rcases List.mem_cons.mp hm with rfl | hm
  · exact mvT hZ (hw _ (List.mem_of_getElem? (i := 37) rfl))
  rcases List.mem_cons.mp hm with rfl | hm
  · exact mvT hZ (hw _ (List.mem_of_getElem? (i := 68) rfl))
  rcases List.mem_cons.mp hm with rfl | hm
  · exact mvT hZ (hw _ (List.mem_of_getElem? (i := 69) rfl))
  rcases List.mem_cons.mp hm with rfl | hm
  · exact mvA hZ (hw _ (List.mem_of_getElem? (i := 9) rfl))
  rcases List.mem_cons.mp hm with rfl | hm
  · refine Jvm.Free.XT.unparts (mvT hZ (hw _ (List.mem_of_getElem? (i := 41) rfl))) (fun w hm => ?_)
    rcases List.mem_cons.mp hm with rfl | hm
    · exact mvT hZ (hw _ (List.mem_of_getElem? (i := 30) rfl))
    · cases hm
  rcases List.mem_cons.mp hm with rfl | hm
  · exact mvT hZ (hw _ (List.mem_of_getElem? (i := 61) rfl))
  rcases List.mem_cons.mp hm with rfl | hm
  · exact mvT hZ (hw _ (List.mem_of_getElem? (i := 62) rfl))
  rcases List.mem_cons.mp hm with rfl | hm
  · exact mvT hZ (hw _ (List.mem_of_getElem? (i := 66) rfl))
  rcases List.mem_cons.mp hm with rfl | hm
  · exact mvT hZ (hw _ (List.mem_of_getElem? (i := 64) rfl))
  rcases List.mem_cons.mp hm with rfl | hm
  · exact mvT hZ (hw _ (List.mem_of_getElem? (i := 65) rfl))
  rcases List.mem_cons.mp hm with rfl | hm
  · exact mvT hZ (hw _ (List.mem_of_getElem? (i := 67) rfl))
  rcases List.mem_cons.mp hm with rfl | hm
  · exact mvT hZ (hw _ (List.mem_of_getElem? (i := 39) rfl))
  rcases List.mem_cons.mp hm with rfl | hm
  · exact mvT hZ (hw _ (List.mem_of_getElem? (i := 40) rfl))
  rcases List.mem_cons.mp hm with rfl | hm
  · exact mvT hZ (hw _ (List.mem_of_getElem? (i := 42) rfl))
  rcases List.mem_cons.mp hm with rfl | hm
  · exact mvT hZ (hw _ (List.mem_of_getElem? (i := 45) rfl))
  rcases List.mem_cons.mp hm with rfl | hm
  · exact mvT hZ (hw _ (List.mem_of_getElem? (i := 43) rfl))
  rcases List.mem_cons.mp hm with rfl | hm
  · exact mvT hZ (hw _ (List.mem_of_getElem? (i := 44) rfl))
  cases hm
theorem own_d5_0 : decode jdk_29_method_66_code 0 = .ok (.lload_n 0, 1) := by decide +kernel
theorem own_d5_1 : decode jdk_29_method_66_code 1 = .ok (.lload_n 2, 1) := by decide +kernel
theorem own_d5_2 : decode jdk_29_method_66_code 2 = .ok (.lcmp, 1) := by decide +kernel
theorem own_d5_3 : decode jdk_29_method_66_code 3 = .ok (.ifCond .lt 7, 3) := by decide +kernel
theorem own_d5_6 : decode jdk_29_method_66_code 6 = .ok (.lload_n 0, 1) := by decide +kernel
theorem own_d5_7 : decode jdk_29_method_66_code 7 = .ok (.goto 4, 3) := by decide +kernel
theorem own_d5_10 : decode jdk_29_method_66_code 10 = .ok (.lload_n 2, 1) := by decide +kernel
theorem own_d5_11 : decode jdk_29_method_66_code 11 = .ok (.lreturn, 1) := by decide +kernel
theorem own_ef5 (x0 : Int64) (x1 : Int64) : ∀ m, entryFrame m #[(.long x0), (.long x1)] 4 = mkF m 0 #[.val (.long x0), .second, .val (.long x1), .second] [] := fun m => by first | (simp [entryFrame, mkF, argsToLocals, Value.category]; done) | rfl
def own_f5_10 (v0 : Int64) (v2 : Int64) : Int64 := v2
set_option maxRecDepth 65536 in
theorem own_b5_10 {l : Launch} {p : Program} {e : Env} {below : List Frame} {s : State} {m : MethodId} {meth : Method} {c : Code} {Z : State} {a0 args : Array Value} {T : State} {h0 : Heap} (X : Stand p l e ({ frames := 0, cells := 0, slots := 0, locals := 0 } : Room) s m args below meth c T [] 0 0) (C : own_Ctx p s m meth c Z a0 tables_1 (⟨"java/lang/Math", "max", "(JJ)J"⟩ : MethodName) jdk_29_method_66_code 4 (some .long)) (hh : T.heap = h0) (v0 : Int64) (v2 : Int64) :
    own_Fin p e below s (own_QP (some (.long (own_f5_10 v0 v2))) h0) 0 0 (T.setTop (mkF m 10 #[.val (.long v0), .second, .val (.long v2), .second] [])) := by
  obtain ⟨hx, hby, hml, hZ, hown, hnm, hret, hlk, hw⟩ := id C
  refine own_go (fun tgt => XS.lloadN X.here hx rfl (hb hby own_d5_10) rfl) ?_
  show own_Fin p e below s (own_QP (some (.long (own_f5_10 v0 v2))) h0) 0 0 (T.setTop (mkF m 11 #[.val (.long v0), .second, .val (.long v2), .second] [(.long v2)]))
  exact own_ret X hlk hx hret rfl (Or.inr (Or.inl ⟨rfl, rfl, _, rfl⟩)) (hb hby own_d5_11) ⟨rfl, rfl, hh⟩ (by decide) (by decide)
def own_f5_6 (v0 : Int64) (v2 : Int64) : Int64 := v0
set_option maxRecDepth 65536 in
theorem own_b5_6 {l : Launch} {p : Program} {e : Env} {below : List Frame} {s : State} {m : MethodId} {meth : Method} {c : Code} {Z : State} {a0 args : Array Value} {T : State} {h0 : Heap} (X : Stand p l e ({ frames := 0, cells := 0, slots := 0, locals := 0 } : Room) s m args below meth c T [] 0 0) (C : own_Ctx p s m meth c Z a0 tables_1 (⟨"java/lang/Math", "max", "(JJ)J"⟩ : MethodName) jdk_29_method_66_code 4 (some .long)) (hh : T.heap = h0) (v0 : Int64) (v2 : Int64) :
    own_Fin p e below s (own_QP (some (.long (own_f5_6 v0 v2))) h0) 0 0 (T.setTop (mkF m 6 #[.val (.long v0), .second, .val (.long v2), .second] [])) := by
  obtain ⟨hx, hby, hml, hZ, hown, hnm, hret, hlk, hw⟩ := id C
  refine own_go (fun tgt => XS.lloadN X.here hx rfl (hb hby own_d5_6) rfl) ?_
  show own_Fin p e below s (own_QP (some (.long (own_f5_6 v0 v2))) h0) 0 0 (T.setTop (mkF m 7 #[.val (.long v0), .second, .val (.long v2), .second] [(.long v0)]))
  refine own_go (fun tgt => XS.goto X.here hx rfl (pc0 := 7) (pc' := 11) rfl (hb hby own_d5_7) (by decide) (by decide)) ?_
  show own_Fin p e below s (own_QP (some (.long (own_f5_6 v0 v2))) h0) 0 0 (T.setTop (mkF m 11 #[.val (.long v0), .second, .val (.long v2), .second] [(.long v0)]))
  exact own_ret X hlk hx hret rfl (Or.inr (Or.inl ⟨rfl, rfl, _, rfl⟩)) (hb hby own_d5_11) ⟨rfl, rfl, hh⟩ (by decide) (by decide)
def own_f5_0 (v0 : Int64) (v2 : Int64) : Int64 := if v0 < v2 then (own_f5_10 v0 v2) else (own_f5_6 v0 v2)
set_option maxRecDepth 65536 in
theorem own_b5_0 {l : Launch} {p : Program} {e : Env} {below : List Frame} {s : State} {m : MethodId} {meth : Method} {c : Code} {Z : State} {a0 args : Array Value} {T : State} {h0 : Heap} (X : Stand p l e ({ frames := 0, cells := 0, slots := 0, locals := 0 } : Room) s m args below meth c T [] 0 0) (C : own_Ctx p s m meth c Z a0 tables_1 (⟨"java/lang/Math", "max", "(JJ)J"⟩ : MethodName) jdk_29_method_66_code 4 (some .long)) (hh : T.heap = h0) (v0 : Int64) (v2 : Int64) :
    own_Fin p e below s (own_QP (some (.long (own_f5_0 v0 v2))) h0) 0 0 (T.setTop (mkF m 0 #[.val (.long v0), .second, .val (.long v2), .second] [])) := by
  obtain ⟨hx, hby, hml, hZ, hown, hnm, hret, hlk, hw⟩ := id C
  refine own_go (fun tgt => XS.lloadN X.here hx rfl (hb hby own_d5_0) rfl) ?_
  show own_Fin p e below s (own_QP (some (.long (own_f5_0 v0 v2))) h0) 0 0 (T.setTop (mkF m 1 #[.val (.long v0), .second, .val (.long v2), .second] [(.long v0)]))
  refine own_go (fun tgt => XS.lloadN X.here hx rfl (hb hby own_d5_1) rfl) ?_
  show own_Fin p e below s (own_QP (some (.long (own_f5_0 v0 v2))) h0) 0 0 (T.setTop (mkF m 2 #[.val (.long v0), .second, .val (.long v2), .second] [(.long v2), (.long v0)]))
  refine own_go (fun tgt => XS.lcmp X.here hx rfl (hb hby own_d5_2) rfl) ?_
  show own_Fin p e below s (own_QP (some (.long (own_f5_0 v0 v2))) h0) 0 0 (T.setTop (mkF m 3 #[.val (.long v0), .second, .val (.long v2), .second] [(.int (lcmpW v0 v2))]))
  by_cases hq : v0 < v2
  · show own_Fin p e below s (own_QP (some (.long (own_f5_0 v0 v2))) h0) 0 0 _
    rw [show (own_f5_0 v0 v2) = (own_f5_10 v0 v2) from if_pos hq]
    refine own_go (fun tgt => XS.ifYes X.here hx rfl (pc0 := 3) (pc' := 10) rfl (hb hby own_d5_3) rfl ((if0 _ _).trans (tlt ((lw_lt v0 v2).mpr hq)).1) (by decide) (by decide)) ?_
    show own_Fin p e below s (own_QP (some (.long (own_f5_10 v0 v2))) h0) 0 0 (T.setTop (mkF m 10 #[.val (.long v0), .second, .val (.long v2), .second] []))
    exact own_b5_10 X C hh v0 v2
  · show own_Fin p e below s (own_QP (some (.long (own_f5_0 v0 v2))) h0) 0 0 _
    rw [show (own_f5_0 v0 v2) = (own_f5_6 v0 v2) from if_neg hq]
    refine own_go (fun tgt => XS.ifNo X.here hx rfl (hb hby own_d5_3) rfl ((if0 _ _).trans (flt (fun q => hq ((lw_lt v0 v2).mp q))).1)) ?_
    show own_Fin p e below s (own_QP (some (.long (own_f5_6 v0 v2))) h0) 0 0 (T.setTop (mkF m 6 #[.val (.long v0), .second, .val (.long v2), .second] []))
    exact own_b5_6 X C hh v0 v2
theorem own_c5 (l : Launch) (Z : State) (a0 : Array Value) (hw : ∀ d ∈ tables_1, d.before a0 Z = true) (x0 : Int64) (x1 : Int64) (h0 : Heap) : own_Met l Z (⟨"java/lang/Math", "max", "(JJ)J"⟩ : MethodName) jdk_29_method_66_code 4 (some .long) [] ({ frames := 0, cells := 0, slots := 0, locals := 0 } : Room) #[(.long x0), (.long x1)] h0 (own_QP (some (.long (own_f5_0 x0 x1))) h0) :=
  own_enter (Jvm.Free.JP.mathPlain rfl (by decide +kernel)) (own_ef5 x0 x1) hw (fun p e s m below meth c T X C hh => own_b5_0 X C hh x0 x1)
theorem own_d6_0 : decode jdk_29_method_70_code 0 = .ok (.lload_n 0, 1) := by decide +kernel
theorem own_d6_1 : decode jdk_29_method_70_code 1 = .ok (.lload_n 2, 1) := by decide +kernel
theorem own_d6_2 : decode jdk_29_method_70_code 2 = .ok (.lcmp, 1) := by decide +kernel
theorem own_d6_3 : decode jdk_29_method_70_code 3 = .ok (.ifCond .gt 7, 3) := by decide +kernel
theorem own_d6_6 : decode jdk_29_method_70_code 6 = .ok (.lload_n 0, 1) := by decide +kernel
theorem own_d6_7 : decode jdk_29_method_70_code 7 = .ok (.goto 4, 3) := by decide +kernel
theorem own_d6_10 : decode jdk_29_method_70_code 10 = .ok (.lload_n 2, 1) := by decide +kernel
theorem own_d6_11 : decode jdk_29_method_70_code 11 = .ok (.lreturn, 1) := by decide +kernel
theorem own_ef6 (x0 : Int64) (x1 : Int64) : ∀ m, entryFrame m #[(.long x0), (.long x1)] 4 = mkF m 0 #[.val (.long x0), .second, .val (.long x1), .second] [] := fun m => by first | (simp [entryFrame, mkF, argsToLocals, Value.category]; done) | rfl
def own_f6_10 (v0 : Int64) (v2 : Int64) : Int64 := v2
set_option maxRecDepth 65536 in
theorem own_b6_10 {l : Launch} {p : Program} {e : Env} {below : List Frame} {s : State} {m : MethodId} {meth : Method} {c : Code} {Z : State} {a0 args : Array Value} {T : State} {h0 : Heap} (X : Stand p l e ({ frames := 0, cells := 0, slots := 0, locals := 0 } : Room) s m args below meth c T [] 0 0) (C : own_Ctx p s m meth c Z a0 tables_1 (⟨"java/lang/Math", "min", "(JJ)J"⟩ : MethodName) jdk_29_method_70_code 4 (some .long)) (hh : T.heap = h0) (v0 : Int64) (v2 : Int64) :
    own_Fin p e below s (own_QP (some (.long (own_f6_10 v0 v2))) h0) 0 0 (T.setTop (mkF m 10 #[.val (.long v0), .second, .val (.long v2), .second] [])) := by
  obtain ⟨hx, hby, hml, hZ, hown, hnm, hret, hlk, hw⟩ := id C
  refine own_go (fun tgt => XS.lloadN X.here hx rfl (hb hby own_d6_10) rfl) ?_
  show own_Fin p e below s (own_QP (some (.long (own_f6_10 v0 v2))) h0) 0 0 (T.setTop (mkF m 11 #[.val (.long v0), .second, .val (.long v2), .second] [(.long v2)]))
  exact own_ret X hlk hx hret rfl (Or.inr (Or.inl ⟨rfl, rfl, _, rfl⟩)) (hb hby own_d6_11) ⟨rfl, rfl, hh⟩ (by decide) (by decide)
def own_f6_6 (v0 : Int64) (v2 : Int64) : Int64 := v0
set_option maxRecDepth 65536 in
theorem own_b6_6 {l : Launch} {p : Program} {e : Env} {below : List Frame} {s : State} {m : MethodId} {meth : Method} {c : Code} {Z : State} {a0 args : Array Value} {T : State} {h0 : Heap} (X : Stand p l e ({ frames := 0, cells := 0, slots := 0, locals := 0 } : Room) s m args below meth c T [] 0 0) (C : own_Ctx p s m meth c Z a0 tables_1 (⟨"java/lang/Math", "min", "(JJ)J"⟩ : MethodName) jdk_29_method_70_code 4 (some .long)) (hh : T.heap = h0) (v0 : Int64) (v2 : Int64) :
    own_Fin p e below s (own_QP (some (.long (own_f6_6 v0 v2))) h0) 0 0 (T.setTop (mkF m 6 #[.val (.long v0), .second, .val (.long v2), .second] [])) := by
  obtain ⟨hx, hby, hml, hZ, hown, hnm, hret, hlk, hw⟩ := id C
  refine own_go (fun tgt => XS.lloadN X.here hx rfl (hb hby own_d6_6) rfl) ?_
  show own_Fin p e below s (own_QP (some (.long (own_f6_6 v0 v2))) h0) 0 0 (T.setTop (mkF m 7 #[.val (.long v0), .second, .val (.long v2), .second] [(.long v0)]))
  refine own_go (fun tgt => XS.goto X.here hx rfl (pc0 := 7) (pc' := 11) rfl (hb hby own_d6_7) (by decide) (by decide)) ?_
  show own_Fin p e below s (own_QP (some (.long (own_f6_6 v0 v2))) h0) 0 0 (T.setTop (mkF m 11 #[.val (.long v0), .second, .val (.long v2), .second] [(.long v0)]))
  exact own_ret X hlk hx hret rfl (Or.inr (Or.inl ⟨rfl, rfl, _, rfl⟩)) (hb hby own_d6_11) ⟨rfl, rfl, hh⟩ (by decide) (by decide)
def own_f6_0 (v0 : Int64) (v2 : Int64) : Int64 := if v2 < v0 then (own_f6_10 v0 v2) else (own_f6_6 v0 v2)
set_option maxRecDepth 65536 in
theorem own_b6_0 {l : Launch} {p : Program} {e : Env} {below : List Frame} {s : State} {m : MethodId} {meth : Method} {c : Code} {Z : State} {a0 args : Array Value} {T : State} {h0 : Heap} (X : Stand p l e ({ frames := 0, cells := 0, slots := 0, locals := 0 } : Room) s m args below meth c T [] 0 0) (C : own_Ctx p s m meth c Z a0 tables_1 (⟨"java/lang/Math", "min", "(JJ)J"⟩ : MethodName) jdk_29_method_70_code 4 (some .long)) (hh : T.heap = h0) (v0 : Int64) (v2 : Int64) :
    own_Fin p e below s (own_QP (some (.long (own_f6_0 v0 v2))) h0) 0 0 (T.setTop (mkF m 0 #[.val (.long v0), .second, .val (.long v2), .second] [])) := by
  obtain ⟨hx, hby, hml, hZ, hown, hnm, hret, hlk, hw⟩ := id C
  refine own_go (fun tgt => XS.lloadN X.here hx rfl (hb hby own_d6_0) rfl) ?_
  show own_Fin p e below s (own_QP (some (.long (own_f6_0 v0 v2))) h0) 0 0 (T.setTop (mkF m 1 #[.val (.long v0), .second, .val (.long v2), .second] [(.long v0)]))
  refine own_go (fun tgt => XS.lloadN X.here hx rfl (hb hby own_d6_1) rfl) ?_
  show own_Fin p e below s (own_QP (some (.long (own_f6_0 v0 v2))) h0) 0 0 (T.setTop (mkF m 2 #[.val (.long v0), .second, .val (.long v2), .second] [(.long v2), (.long v0)]))
  refine own_go (fun tgt => XS.lcmp X.here hx rfl (hb hby own_d6_2) rfl) ?_
  show own_Fin p e below s (own_QP (some (.long (own_f6_0 v0 v2))) h0) 0 0 (T.setTop (mkF m 3 #[.val (.long v0), .second, .val (.long v2), .second] [(.int (lcmpW v0 v2))]))
  by_cases hq : v2 < v0
  · show own_Fin p e below s (own_QP (some (.long (own_f6_0 v0 v2))) h0) 0 0 _
    rw [show (own_f6_0 v0 v2) = (own_f6_10 v0 v2) from if_pos hq]
    refine own_go (fun tgt => XS.ifYes X.here hx rfl (pc0 := 3) (pc' := 10) rfl (hb hby own_d6_3) rfl ((if0 _ _).trans (tlt ((lw_gt v0 v2).mpr hq)).2.2.1) (by decide) (by decide)) ?_
    show own_Fin p e below s (own_QP (some (.long (own_f6_10 v0 v2))) h0) 0 0 (T.setTop (mkF m 10 #[.val (.long v0), .second, .val (.long v2), .second] []))
    exact own_b6_10 X C hh v0 v2
  · show own_Fin p e below s (own_QP (some (.long (own_f6_0 v0 v2))) h0) 0 0 _
    rw [show (own_f6_0 v0 v2) = (own_f6_6 v0 v2) from if_neg hq]
    refine own_go (fun tgt => XS.ifNo X.here hx rfl (hb hby own_d6_3) rfl ((if0 _ _).trans (flt (fun q => hq ((lw_gt v0 v2).mp q))).2.2.1)) ?_
    show own_Fin p e below s (own_QP (some (.long (own_f6_6 v0 v2))) h0) 0 0 (T.setTop (mkF m 6 #[.val (.long v0), .second, .val (.long v2), .second] []))
    exact own_b6_6 X C hh v0 v2
theorem own_c6 (l : Launch) (Z : State) (a0 : Array Value) (hw : ∀ d ∈ tables_1, d.before a0 Z = true) (x0 : Int64) (x1 : Int64) (h0 : Heap) : own_Met l Z (⟨"java/lang/Math", "min", "(JJ)J"⟩ : MethodName) jdk_29_method_70_code 4 (some .long) [] ({ frames := 0, cells := 0, slots := 0, locals := 0 } : Room) #[(.long x0), (.long x1)] h0 (own_QP (some (.long (own_f6_0 x0 x1))) h0) :=
  own_enter (Jvm.Free.JP.mathPlain rfl (by decide +kernel)) (own_ef6 x0 x1) hw (fun p e s m below meth c T X C hh => own_b6_0 X C hh x0 x1)
def own_JB (Z : State) (h : Heap) (a b : Addr) (z k : Int32) (f : Int32 → Int32) : Prop := Exa Z h a "com/example/binlogue/binlogue/json/JsonBuffer" ∧ Fld Z h a "com/example/binlogue/binlogue/json/JsonBuffer" "bytes" "[B" (.ref b) ∧ Fld Z h a "com/example/binlogue/binlogue/json/JsonBuffer" "length" "I" (.int k) ∧ own_AB Z h b z f ∧ b ≠ a
def own_QI (Z : State) (a : Addr) (z : Int32) (h0 : Heap) (n0 : Nat) (v : Option Value) (h : Heap) (L : List Loc) : Prop := v = none ∧ Fr n0 L ∧ Keep h0 h [a] ∧ ∃ b f, own_JB Z h a b z 0 f ∧ n0 ≤ b
theorem own_d1_0 : decode prog_78_method_1_code 0 = .ok (.aload_n 0, 1) := by decide +kernel
theorem own_d1_1 : decode prog_78_method_1_code 1 = .ok (.invokespecial 3, 3) := by decide +kernel
theorem own_d1_4 : decode prog_78_method_1_code 4 = .ok (.aload_n 0, 1) := by decide +kernel
theorem own_d1_5 : decode prog_78_method_1_code 5 = .ok (.bipush 20, 2) := by decide +kernel
theorem own_d1_7 : decode prog_78_method_1_code 7 = .ok (.newarray .byte, 2) := by decide +kernel
theorem own_d1_9 : decode prog_78_method_1_code 9 = .ok (.putfield 9, 3) := by decide +kernel
theorem own_d1_12 : decode prog_78_method_1_code 12 = .ok (.aload_n 0, 1) := by decide +kernel
theorem own_d1_13 : decode prog_78_method_1_code 13 = .ok (.iload_n 1, 1) := by decide +kernel
theorem own_d1_14 : decode prog_78_method_1_code 14 = .ok (.newarray .byte, 2) := by decide +kernel
theorem own_d1_16 : decode prog_78_method_1_code 16 = .ok (.putfield 15, 3) := by decide +kernel
theorem own_d1_19 : decode prog_78_method_1_code 19 = .ok (.return_, 1) := by decide +kernel
theorem own_pd0 : parseMethodDescriptor "()V" = some ⟨[], none⟩ := by decide +kernel
theorem own_ef1 (x0 : Addr) (x1 : Int32) : ∀ m, entryFrame m #[(.ref x0), (.int x1)] 2 = mkF m 0 #[.val (.ref x0), .val (.int x1)] [] := fun m => by first | (simp [entryFrame, mkF, argsToLocals, Value.category]; done) | rfl
set_option maxRecDepth 65536 in
set_option maxHeartbeats 40000000 in
theorem own_ini_w {l : Launch} {p : Program} {e : Env} {below : List Frame} {s : State} {m : MethodId} {meth : Method} {c : Code} {Z : State} {a0 args : Array Value} {T : State} {h0 : Heap} (X : Stand p l e ({ frames := 1, cells := 2, slots := 35, locals := 12 } : Room) s m args below meth c T [] 0 0) (C : own_Ctx p s m meth c Z a0 tables_1 (⟨"com/example/binlogue/binlogue/json/JsonBuffer", "<init>", "(I)V"⟩ : MethodName) prog_78_method_1_code 2 none) (hh : T.heap = h0) (x0 : Addr) (x1 : Int32)  (n0 : Nat) (Z0 : n0 ≤ h0.size) (g0 : n0 ≤ x0) (hE : Exa Z h0 x0 "com/example/binlogue/binlogue/json/JsonBuffer") (hdigits : Fld Z h0 x0 "com/example/binlogue/binlogue/json/JsonBuffer" "digits" "[B" .null) (hbytes : Fld Z h0 x0 "com/example/binlogue/binlogue/json/JsonBuffer" "bytes" "[B" .null) (hlength : Fld Z h0 x0 "com/example/binlogue/binlogue/json/JsonBuffer" "length" "I" (.int (0 : Int32))) (hc : 0 ≤ x1.toInt ∧ x1.toInt ≤ 15) :
    own_Fin p e below s (own_QI Z x0 x1 h0 n0) 2 35 (T.setTop (mkF m 0 #[.val (.ref x0), .val (.int x1)] [])) := by
  obtain ⟨hx, hby, hml, hZ, hown, hnm, hret, hlk, hw⟩ := id C
  show own_Fin p e below s (own_QI Z x0 x1 h0 n0) 2 35 (T.setTop (mkF m 0 #[.val (.ref x0), .val (.int x1)] []))
  have N0 := Fr.nil n0
  have KK0 : Keep h0 h0 [x0] := Keep.refl _ _
  refine own_go (fun tgt => XS.aloadN X.here hx rfl (hb hby own_d1_0) rfl rfl) ?_
  show own_Fin p e below s (own_QI Z x0 x1 h0 n0) 2 35 (T.setTop (mkF m 1 #[.val (.ref x0), .val (.int x1)] [(.ref x0)]))
  obtain ⟨T1, X1, e1, st1⟩ := initO X hx hZ hown (hw _ (List.mem_of_getElem? (i := 6) rfl)) (hw _ (List.mem_of_getElem? (i := 7) rfl)) (hw _ (List.mem_of_getElem? (i := 8) rfl)) hh (g := (mkF m 1 #[.val (.ref x0), .val (.int x1)] [(.ref x0)])) rfl (by rw [hml]; rfl) rfl (hb hby own_d1_1) (by decide) (W := 0) (by show 2 * 0 + _ ≤ _; exact Nat.le_of_eq rfl) (by decide)
  refine own_go st1 ?_
  show own_Fin p e below s (own_QI Z x0 x1 h0 n0) 2 35 (T1.setTop (mkF m 4 #[.val (.ref x0), .val (.int x1)] []))
  refine own_go (fun tgt => XS.aloadN X1.here hx rfl (hb hby own_d1_4) rfl rfl) ?_
  show own_Fin p e below s (own_QI Z x0 x1 h0 n0) 2 35 (T1.setTop (mkF m 5 #[.val (.ref x0), .val (.int x1)] [(.ref x0)]))
  refine own_go (fun tgt => XS.bipush X1.here hx rfl (hb hby own_d1_5)) ?_
  show own_Fin p e below s (own_QI Z x0 x1 h0 n0) 2 35 (T1.setTop (mkF m 7 #[.val (.ref x0), .val (.int x1)] [(.int (20 : Int32)), (.ref x0)]))
  obtain ⟨T2, b2, X2, E2, g2, A2, st2⟩ := own_newBB X1 hx hZ e1 (hw _ (List.mem_of_getElem? (i := 9) rfl)) (g := (mkF m 7 #[.val (.ref x0), .val (.int x1)] [(.int (20 : Int32)), (.ref x0)])) rfl (hb hby own_d1_7) rfl (by decide) 20 (by decide) (by decide) (by decide) (by decide)
  have sz_b2 : Array.size h0 ≤ b2 := by rw [g2]; exact KK0.1
  have G_b2 : n0 ≤ b2 := Nat.le_trans Z0 sz_b2
  have ne_x0_b2 : x0 ≠ b2 := by rw [g2]; exact Nat.ne_of_lt hE.lt
  have E_x0_2 := hE.ext E2
  have F_x0_digits_2 := hdigits.ext E2
  have F_x0_bytes_2 := hbytes.ext E2
  have F_x0_length_2 := hlength.ext E2
  have KK2 := KK0.ext E2
  refine own_go st2 ?_
  show own_Fin p e below s (own_QI Z x0 x1 h0 n0) 2 35 (T2.setTop (mkF m 9 #[.val (.ref x0), .val (.int x1)] [(.ref b2), (.ref x0)]))
  obtain ⟨T3, X3, W3, st3⟩ := own_putF X2 hx hZ rfl hown (hw _ (List.mem_of_getElem? (i := 10) rfl)) F_x0_digits_2 E_x0_2 (Or.inr ⟨(hw _ (List.mem_of_getElem? (i := 11) rfl)), rfl, hnm⟩) (hw _ (List.mem_of_getElem? (i := 1) rfl)) (ty := (.array .byte)) (by decide) rfl rfl (g := (mkF m 9 #[.val (.ref x0), .val (.int x1)] [(.ref b2), (.ref x0)])) rfl rfl (hb hby own_d1_9)
  have N3 := Fr.snoc X3 N0 g0
  have E_x0_3 := E_x0_2.wr W3
  have F_x0_digits_3 := F_x0_digits_2.same W3
  have F_x0_bytes_3 := F_x0_bytes_2.other W3 (Or.inr (slot_ne (a0 := a0) (Or.inl (hw _ (List.mem_of_getElem? (i := 13) rfl))) (Or.inr (hw _ (List.mem_of_getElem? (i := 11) rfl))) (by decide) (t := (.array .byte)) (t' := (.array .byte)) (by decide) (by decide)))
  have F_x0_length_3 := F_x0_length_2.other W3 (Or.inr (slot_ne (a0 := a0) (Or.inl (hw _ (List.mem_of_getElem? (i := 24) rfl))) (Or.inr (hw _ (List.mem_of_getElem? (i := 11) rfl))) (by decide) (t := .int) (t' := (.array .byte)) (by decide) (by decide)))
  have A_b2_3 := A2.other W3 (Ne.symm ne_x0_b2)
  have KK3 := KK2.wr W3 (Or.inl (List.mem_of_getElem? (i := 0) rfl))
  refine own_go st3 ?_
  show own_Fin p e below s (own_QI Z x0 x1 h0 n0) 2 35 (T3.setTop (mkF m 12 #[.val (.ref x0), .val (.int x1)] []))
  refine own_go (fun tgt => XS.aloadN X3.here hx rfl (hb hby own_d1_12) rfl rfl) ?_
  show own_Fin p e below s (own_QI Z x0 x1 h0 n0) 2 35 (T3.setTop (mkF m 13 #[.val (.ref x0), .val (.int x1)] [(.ref x0)]))
  refine own_go (fun tgt => XS.iloadN X3.here hx rfl (hb hby own_d1_13) rfl) ?_
  show own_Fin p e below s (own_QI Z x0 x1 h0 n0) 2 35 (T3.setTop (mkF m 14 #[.val (.ref x0), .val (.int x1)] [(.int x1), (.ref x0)]))
  obtain ⟨T4, b4, X4, E4, g4, A4, st4⟩ := own_newBB X3 hx hZ rfl (hw _ (List.mem_of_getElem? (i := 9) rfl)) (g := (mkF m 14 #[.val (.ref x0), .val (.int x1)] [(.int x1), (.ref x0)])) rfl (hb hby own_d1_14) rfl (own_nlt 0 (by decide) hc.1) 15 (own_clamp _ 15 (by omega)) (by decide) (by decide) (by decide)
  have sz_b4 : Array.size h0 ≤ b4 := by rw [g4]; exact KK3.1
  have G_b4 : n0 ≤ b4 := Nat.le_trans Z0 sz_b4
  have ne_x0_b4 : x0 ≠ b4 := by rw [g4]; exact Nat.ne_of_lt E_x0_3.lt
  have ne_b2_b4 : b2 ≠ b4 := by rw [g4]; exact Nat.ne_of_lt A_b2_3.lt
  have E_x0_4 := E_x0_3.ext E4
  have F_x0_digits_4 := F_x0_digits_3.ext E4
  have F_x0_bytes_4 := F_x0_bytes_3.ext E4
  have F_x0_length_4 := F_x0_length_3.ext E4
  have A_b2_4 := A_b2_3.ext E4
  have KK4 := KK3.ext E4
  refine own_go st4 ?_
  show own_Fin p e below s (own_QI Z x0 x1 h0 n0) 2 35 (T4.setTop (mkF m 16 #[.val (.ref x0), .val (.int x1)] [(.ref b4), (.ref x0)]))
  obtain ⟨T5, X5, W5, st5⟩ := own_putF X4 hx hZ rfl hown (hw _ (List.mem_of_getElem? (i := 12) rfl)) F_x0_bytes_4 E_x0_4 (Or.inl (hw _ (List.mem_of_getElem? (i := 13) rfl))) (hw _ (List.mem_of_getElem? (i := 1) rfl)) (ty := (.array .byte)) (by decide) rfl rfl (g := (mkF m 16 #[.val (.ref x0), .val (.int x1)] [(.ref b4), (.ref x0)])) rfl rfl (hb hby own_d1_16)
  have N5 := Fr.snoc X5 N3 g0
  have E_x0_5 := E_x0_4.wr W5
  have F_x0_digits_5 := F_x0_digits_4.other W5 (Or.inr (slot_ne (a0 := a0) (Or.inr (hw _ (List.mem_of_getElem? (i := 11) rfl))) (Or.inl (hw _ (List.mem_of_getElem? (i := 13) rfl))) (by decide) (t := (.array .byte)) (t' := (.array .byte)) (by decide) (by decide)))
  have F_x0_bytes_5 := F_x0_bytes_4.same W5
  have F_x0_length_5 := F_x0_length_4.other W5 (Or.inr (slot_ne (a0 := a0) (Or.inl (hw _ (List.mem_of_getElem? (i := 24) rfl))) (Or.inl (hw _ (List.mem_of_getElem? (i := 13) rfl))) (by decide) (t := .int) (t' := (.array .byte)) (by decide) (by decide)))
  have A_b2_5 := A_b2_4.other W5 (Ne.symm ne_x0_b2)
  have A_b4_5 := A4.other W5 (Ne.symm ne_x0_b4)
  have KK5 := KK4.wr W5 (Or.inl (List.mem_of_getElem? (i := 0) rfl))
  refine own_go st5 ?_
  show own_Fin p e below s (own_QI Z x0 x1 h0 n0) 2 35 (T5.setTop (mkF m 19 #[.val (.ref x0), .val (.int x1)] []))
  exact own_ret0 X5 hlk hx hret (hb hby own_d1_19) ⟨rfl, N5, KK5, _, _, ⟨E_x0_5, F_x0_bytes_5, F_x0_length_5, A_b4_5, (Ne.symm ne_x0_b4)⟩, G_b4⟩ (by decide) (by decide)
theorem own_pn0 : plainName "com/example/binlogue/binlogue/json/JsonBuffer" = true := by first | (simp [plainName, overriddenIn]; done) | decide +kernel
theorem own_ini (l : Launch) (Z : State) (a0 : Array Value) (hw : ∀ d ∈ tables_1, d.before a0 Z = true) (x0 : Addr) (x1 : Int32)  (h0 : Heap) (n0 : Nat) (Z0 : n0 ≤ h0.size) (g0 : n0 ≤ x0) (hE : Exa Z h0 x0 "com/example/binlogue/binlogue/json/JsonBuffer") (hdigits : Fld Z h0 x0 "com/example/binlogue/binlogue/json/JsonBuffer" "digits" "[B" .null) (hbytes : Fld Z h0 x0 "com/example/binlogue/binlogue/json/JsonBuffer" "bytes" "[B" .null) (hlength : Fld Z h0 x0 "com/example/binlogue/binlogue/json/JsonBuffer" "length" "I" (.int (0 : Int32))) (hc : 0 ≤ x1.toInt ∧ x1.toInt ≤ 15) : own_Met l Z (⟨"com/example/binlogue/binlogue/json/JsonBuffer", "<init>", "(I)V"⟩ : MethodName) prog_78_method_1_code 2 none [] ({ frames := 1, cells := 2, slots := 35, locals := 12 } : Room) #[(.ref x0), (.int x1)] h0 (own_QI Z x0 x1 h0 n0) :=
  own_enter (plainFor_of_name own_pn0) (own_ef1 x0 x1) hw (fun p e s m below meth c T X C hh => own_ini_w X C hh x0 x1  n0 Z0 g0 hE hdigits hbytes hlength hc)
theorem own_em (k : Int32) (h : 0 ≤ k.toInt ∧ k.toInt ≤ 2) : ((2147483639 : Int32) - k).toInt = 2147483639 - k.toInt := by
  have a := c_isub 2147483639 k
  rw [show (2147483639 : Int32).toInt = 2147483639 from by decide] at a
  have r := rng32 ((2147483639 : Int32) - k)
  generalize ((2147483639 : Int32) - k).toInt = q at a r ⊢
  generalize k.toInt = kk at a h ⊢
  omega
def own_nn (z : Int32) : Int32 := ((own_f6_0 (2147483639 : Int64) (own_f5_0 ((2 : Int64) * (z.toInt64)) ((z.toInt64) + ((1 : Int32).toInt64)))).toInt32)
theorem own_three (z : Int32) (h1 : 0 ≤ z.toInt) (h2 : z.toInt ≤ 2) : z = 0 ∨ z = 1 ∨ z = 2 := by
  have q : ∀ k : Int32, z.toInt = k.toInt → z = k := fun k => Int32.toInt_inj.mp
  rcases (by omega : z.toInt = 0 ∨ z.toInt = 1 ∨ z.toInt = 2) with h | h | h
  · exact Or.inl (q 0 h)
  · exact Or.inr (Or.inl (q 1 h))
  · exact Or.inr (Or.inr (q 2 h))
theorem own_nnB (z : Int32) (h1 : 0 ≤ z.toInt) (h2 : z.toInt ≤ 2) : z.toInt < (own_nn z).toInt ∧ (own_nn z).toInt ≤ 4 := by
  rcases own_three z h1 h2 with rfl | rfl | rfl <;> decide +kernel
def own_QE (Z : State) (a b : Addr) (k : Int32) (f : Int32 → Int32) (h0 : Heap) (n0 : Nat) (v : Option Value) (h : Heap) (L : List Loc) : Prop := v = none ∧ Fr n0 L ∧ Keep h0 h [a] ∧ ∃ b' z' f', own_JB Z h a b' z' k f' ∧ k.toInt < z'.toInt ∧ z'.toInt ≤ 31 ∧ n0 ≤ b' ∧ (b' = b ∨ Array.size h0 ≤ b') ∧ ∀ j : Int32, ¬ j < 0 → j < k → f' j = f j
theorem own_d4_0 : decode prog_78_method_14_code 0 = .ok (.iload_n 1, 1) := by decide +kernel
theorem own_d4_1 : decode prog_78_method_14_code 1 = .ok (.aload_n 0, 1) := by decide +kernel
theorem own_d4_2 : decode prog_78_method_14_code 2 = .ok (.getfield 15, 3) := by decide +kernel
theorem own_d4_5 : decode prog_78_method_14_code 5 = .ok (.arraylength, 1) := by decide +kernel
theorem own_d4_6 : decode prog_78_method_14_code 6 = .ok (.aload_n 0, 1) := by decide +kernel
theorem own_d4_7 : decode prog_78_method_14_code 7 = .ok (.getfield 18, 3) := by decide +kernel
theorem own_d4_10 : decode prog_78_method_14_code 10 = .ok (.isub, 1) := by decide +kernel
theorem own_d4_11 : decode prog_78_method_14_code 11 = .ok (.if_icmp .le 63, 3) := by decide +kernel
theorem own_d4_14 : decode prog_78_method_14_code 14 = .ok (.iload_n 1, 1) := by decide +kernel
theorem own_d4_15 : decode prog_78_method_14_code 15 = .ok (.ldc 85, 2) := by decide +kernel
theorem own_d4_17 : decode prog_78_method_14_code 17 = .ok (.aload_n 0, 1) := by decide +kernel
theorem own_d4_18 : decode prog_78_method_14_code 18 = .ok (.getfield 18, 3) := by decide +kernel
theorem own_d4_21 : decode prog_78_method_14_code 21 = .ok (.isub, 1) := by decide +kernel
theorem own_d4_22 : decode prog_78_method_14_code 22 = .ok (.if_icmp .le 13, 3) := by decide +kernel
theorem own_d4_25 : decode prog_78_method_14_code 25 = .ok (.new 86, 3) := by decide +kernel
theorem own_d4_28 : decode prog_78_method_14_code 28 = .ok (.dup, 1) := by decide +kernel
theorem own_d4_29 : decode prog_78_method_14_code 29 = .ok (.ldc 88, 2) := by decide +kernel
theorem own_d4_31 : decode prog_78_method_14_code 31 = .ok (.invokespecial 90, 3) := by decide +kernel
theorem own_d4_34 : decode prog_78_method_14_code 34 = .ok (.athrow, 1) := by decide +kernel
theorem own_d4_35 : decode prog_78_method_14_code 35 = .ok (.aload_n 0, 1) := by decide +kernel
theorem own_d4_36 : decode prog_78_method_14_code 36 = .ok (.aload_n 0, 1) := by decide +kernel
theorem own_d4_37 : decode prog_78_method_14_code 37 = .ok (.getfield 15, 3) := by decide +kernel
theorem own_d4_40 : decode prog_78_method_14_code 40 = .ok (.ldc2_w 93, 3) := by decide +kernel
theorem own_d4_43 : decode prog_78_method_14_code 43 = .ok (.ldc2_w 95, 3) := by decide +kernel
theorem own_d4_46 : decode prog_78_method_14_code 46 = .ok (.aload_n 0, 1) := by decide +kernel
theorem own_d4_47 : decode prog_78_method_14_code 47 = .ok (.getfield 15, 3) := by decide +kernel
theorem own_d4_50 : decode prog_78_method_14_code 50 = .ok (.arraylength, 1) := by decide +kernel
theorem own_d4_51 : decode prog_78_method_14_code 51 = .ok (.i2l, 1) := by decide +kernel
theorem own_d4_52 : decode prog_78_method_14_code 52 = .ok (.lmul, 1) := by decide +kernel
theorem own_d4_53 : decode prog_78_method_14_code 53 = .ok (.aload_n 0, 1) := by decide +kernel
theorem own_d4_54 : decode prog_78_method_14_code 54 = .ok (.getfield 18, 3) := by decide +kernel
theorem own_d4_57 : decode prog_78_method_14_code 57 = .ok (.i2l, 1) := by decide +kernel
theorem own_d4_58 : decode prog_78_method_14_code 58 = .ok (.iload_n 1, 1) := by decide +kernel
theorem own_d4_59 : decode prog_78_method_14_code 59 = .ok (.i2l, 1) := by decide +kernel
theorem own_d4_60 : decode prog_78_method_14_code 60 = .ok (.ladd, 1) := by decide +kernel
theorem own_d4_61 : decode prog_78_method_14_code 61 = .ok (.invokestatic 97, 3) := by decide +kernel
theorem own_d4_64 : decode prog_78_method_14_code 64 = .ok (.invokestatic 103, 3) := by decide +kernel
theorem own_d4_67 : decode prog_78_method_14_code 67 = .ok (.l2i, 1) := by decide +kernel
theorem own_d4_68 : decode prog_78_method_14_code 68 = .ok (.invokestatic 71, 3) := by decide +kernel
theorem own_d4_71 : decode prog_78_method_14_code 71 = .ok (.putfield 15, 3) := by decide +kernel
theorem own_d4_74 : decode prog_78_method_14_code 74 = .ok (.return_, 1) := by decide +kernel
theorem own_pd1 : parseMethodDescriptor "(JJ)J" = some ⟨[.long, .long], some .long⟩ := by decide +kernel
theorem own_pd2 : parseMethodDescriptor "([BI)[B" = some ⟨[(.array .byte), .int], some (.array .byte)⟩ := by decide +kernel
theorem own_ef4 (x0 : Addr) (x1 : Int32) : ∀ m, entryFrame m #[(.ref x0), (.int x1)] 2 = mkF m 0 #[.val (.ref x0), .val (.int x1)] [] := fun m => by first | (simp [entryFrame, mkF, argsToLocals, Value.category]; done) | rfl
set_option maxRecDepth 65536 in
set_option maxHeartbeats 40000000 in
theorem own_ens_w {l : Launch} {p : Program} {e : Env} {below : List Frame} {s : State} {m : MethodId} {meth : Method} {c : Code} {Z : State} {a0 args : Array Value} {T : State} {h0 : Heap} (X : Stand p l e ({ frames := 2, cells := 1, slots := 4, locals := 60 } : Room) s m args below meth c T [] 0 0) (C : own_Ctx p s m meth c Z a0 tables_1 (⟨"com/example/binlogue/binlogue/json/JsonBuffer", "ensure", "(I)V"⟩ : MethodName) prog_78_method_14_code 2 none) (hh : T.heap = h0) (x0 : Addr) (x1 : Int32) (b : Addr) (z : Int32) (k : Int32) (f : Int32 → Int32) (n0 : Nat) (Z0 : n0 ≤ h0.size) (h1 : x1 = (1 : Int32)) (g0 : n0 ≤ x0) (gb : n0 ≤ b) (hJ : own_JB Z h0 x0 b z k f) (hk : 0 ≤ k.toInt ∧ k.toInt ≤ 2) (hkz : k.toInt ≤ z.toInt) (hz : z.toInt ≤ 31) :
    own_Fin p e below s (own_QE Z x0 b k f h0 n0) 1 4 (T.setTop (mkF m 0 #[.val (.ref x0), .val (.int x1)] [])) := by
  obtain ⟨hx, hby, hml, hZ, hown, hnm, hret, hlk, hw⟩ := id C
  show own_Fin p e below s (own_QE Z x0 b k f h0 n0) 1 4 (T.setTop (mkF m 0 #[.val (.ref x0), .val (.int x1)] []))
  subst h1
  show own_Fin p e below s (own_QE Z x0 b k f h0 n0) 1 4 (T.setTop (mkF m 0 #[.val (.ref x0), .val (.int (1 : Int32))] []))
  have N0 := Fr.nil n0
  have KK0 : Keep h0 h0 [x0] := Keep.refl _ _
  have o0 : (0 : Int32).toInt = 0 := by decide
  have o1 : (1 : Int32).toInt = 1 := by decide
  have zz := own_nlt0 hJ.2.2.2.1.nn
  have es : (z - k).toInt = z.toInt - k.toInt := by
    have a := c_isub z k
    have r := rng32 (z - k)
    omega
  refine own_go (fun tgt => XS.iloadN X.here hx rfl (hb hby own_d4_0) rfl) ?_
  show own_Fin p e below s (own_QE Z x0 b k f h0 n0) 1 4 (T.setTop (mkF m 1 #[.val (.ref x0), .val (.int (1 : Int32))] [(.int (1 : Int32))]))
  refine own_go (fun tgt => XS.aloadN X.here hx rfl (hb hby own_d4_1) rfl rfl) ?_
  show own_Fin p e below s (own_QE Z x0 b k f h0 n0) 1 4 (T.setTop (mkF m 2 #[.val (.ref x0), .val (.int (1 : Int32))] [(.ref x0), (.int (1 : Int32))]))
  obtain ⟨T1, X1, e1, st1⟩ := own_getF X hx hZ hh hown (hw _ (List.mem_of_getElem? (i := 12) rfl)) hJ.2.1 (g := (mkF m 2 #[.val (.ref x0), .val (.int (1 : Int32))] [(.ref x0), (.int (1 : Int32))])) rfl rfl (hb hby own_d4_2)
  refine own_go st1 ?_
  show own_Fin p e below s (own_QE Z x0 b k f h0 n0) 1 4 (T1.setTop (mkF m 5 #[.val (.ref x0), .val (.int (1 : Int32))] [(.ref b), (.int (1 : Int32))]))
  refine own_go (own_len X1 hx hZ e1 (hJ.2.2.2.1).toA (g := (mkF m 5 #[.val (.ref x0), .val (.int (1 : Int32))] [(.ref b), (.int (1 : Int32))])) rfl rfl (hb hby own_d4_5)) ?_
  show own_Fin p e below s (own_QE Z x0 b k f h0 n0) 1 4 (T1.setTop (mkF m 6 #[.val (.ref x0), .val (.int (1 : Int32))] [(.int z), (.int (1 : Int32))]))
  refine own_go (fun tgt => XS.aloadN X1.here hx rfl (hb hby own_d4_6) rfl rfl) ?_
  show own_Fin p e below s (own_QE Z x0 b k f h0 n0) 1 4 (T1.setTop (mkF m 7 #[.val (.ref x0), .val (.int (1 : Int32))] [(.ref x0), (.int z), (.int (1 : Int32))]))
  obtain ⟨T2, X2, e2, st2⟩ := own_getF X1 hx hZ e1 hown (hw _ (List.mem_of_getElem? (i := 23) rfl)) hJ.2.2.1 (g := (mkF m 7 #[.val (.ref x0), .val (.int (1 : Int32))] [(.ref x0), (.int z), (.int (1 : Int32))])) rfl rfl (hb hby own_d4_7)
  refine own_go st2 ?_
  show own_Fin p e below s (own_QE Z x0 b k f h0 n0) 1 4 (T2.setTop (mkF m 10 #[.val (.ref x0), .val (.int (1 : Int32))] [(.int k), (.int z), (.int (1 : Int32))]))
  refine own_go (fun tgt => XS.isub X2.here hx rfl (hb hby own_d4_10) rfl) ?_
  show own_Fin p e below s (own_QE Z x0 b k f h0 n0) 1 4 (T2.setTop (mkF m 11 #[.val (.ref x0), .val (.int (1 : Int32))] [(.int (z - k)), (.int (1 : Int32))]))
  by_cases h11 : (z - k) < (1 : Int32)
  · refine own_go (fun tgt => XS.icmpNo X2.here hx rfl (hb hby own_d4_11) rfl (tlt h11).2.2.2) ?_
    show own_Fin p e below s (own_QE Z x0 b k f h0 n0) 1 4 (T2.setTop (mkF m 14 #[.val (.ref x0), .val (.int (1 : Int32))] []))
    have u := own_ltT h11
    obtain rfl : k = z := Int32.toInt_inj.mp (by omega)
    show own_Fin p e below s (own_QE Z x0 b k f h0 n0) 1 4 (T2.setTop (mkF m 14 #[.val (.ref x0), .val (.int (1 : Int32))] []))
    refine own_go (fun tgt => XS.iloadN X2.here hx rfl (hb hby own_d4_14) rfl) ?_
    show own_Fin p e below s (own_QE Z x0 b k f h0 n0) 1 4 (T2.setTop (mkF m 15 #[.val (.ref x0), .val (.int (1 : Int32))] [(.int (1 : Int32))]))
    refine own_go (fun tgt => X2.ldcInt hx hown (mvT hZ (hw _ (List.mem_of_getElem? (i := 25) rfl))) (g := (mkF m 15 #[.val (.ref x0), .val (.int (1 : Int32))] [(.int (1 : Int32))])) rfl (hb hby own_d4_15) tgt) ?_
    show own_Fin p e below s (own_QE Z x0 b k f h0 n0) 1 4 (T2.setTop (mkF m 17 #[.val (.ref x0), .val (.int (1 : Int32))] [(.int (2147483639 : Int32)), (.int (1 : Int32))]))
    refine own_go (fun tgt => XS.aloadN X2.here hx rfl (hb hby own_d4_17) rfl rfl) ?_
    show own_Fin p e below s (own_QE Z x0 b k f h0 n0) 1 4 (T2.setTop (mkF m 18 #[.val (.ref x0), .val (.int (1 : Int32))] [(.ref x0), (.int (2147483639 : Int32)), (.int (1 : Int32))]))
    obtain ⟨T103, X103, e103, st103⟩ := own_getF X2 hx hZ e2 hown (hw _ (List.mem_of_getElem? (i := 23) rfl)) hJ.2.2.1 (g := (mkF m 18 #[.val (.ref x0), .val (.int (1 : Int32))] [(.ref x0), (.int (2147483639 : Int32)), (.int (1 : Int32))])) rfl rfl (hb hby own_d4_18)
    refine own_go st103 ?_
    show own_Fin p e below s (own_QE Z x0 b k f h0 n0) 1 4 (T103.setTop (mkF m 21 #[.val (.ref x0), .val (.int (1 : Int32))] [(.int k), (.int (2147483639 : Int32)), (.int (1 : Int32))]))
    refine own_go (fun tgt => XS.isub X103.here hx rfl (hb hby own_d4_21) rfl) ?_
    show own_Fin p e below s (own_QE Z x0 b k f h0 n0) 1 4 (T103.setTop (mkF m 22 #[.val (.ref x0), .val (.int (1 : Int32))] [(.int ((2147483639 : Int32) - k)), (.int (1 : Int32))]))
    have em := own_em k (by omega)
    refine own_go (fun tgt => XS.icmpYes X103.here hx rfl (pc0 := 22) (pc' := 35) rfl (hb hby own_d4_22) rfl (flt (own_Tnlt (by omega))).2.2.2 (by decide) (by decide)) ?_
    show own_Fin p e below s (own_QE Z x0 b k f h0 n0) 1 4 (T103.setTop (mkF m 35 #[.val (.ref x0), .val (.int (1 : Int32))] []))
    refine own_go (fun tgt => XS.aloadN X103.here hx rfl (hb hby own_d4_35) rfl rfl) ?_
    show own_Fin p e below s (own_QE Z x0 b k f h0 n0) 1 4 (T103.setTop (mkF m 36 #[.val (.ref x0), .val (.int (1 : Int32))] [(.ref x0)]))
    refine own_go (fun tgt => XS.aloadN X103.here hx rfl (hb hby own_d4_36) rfl rfl) ?_
    show own_Fin p e below s (own_QE Z x0 b k f h0 n0) 1 4 (T103.setTop (mkF m 37 #[.val (.ref x0), .val (.int (1 : Int32))] [(.ref x0), (.ref x0)]))
    obtain ⟨T104, X104, e104, st104⟩ := own_getF X103 hx hZ e103 hown (hw _ (List.mem_of_getElem? (i := 12) rfl)) hJ.2.1 (g := (mkF m 37 #[.val (.ref x0), .val (.int (1 : Int32))] [(.ref x0), (.ref x0)])) rfl rfl (hb hby own_d4_37)
    refine own_go st104 ?_
    show own_Fin p e below s (own_QE Z x0 b k f h0 n0) 1 4 (T104.setTop (mkF m 40 #[.val (.ref x0), .val (.int (1 : Int32))] [(.ref b), (.ref x0)]))
    refine own_go (fun tgt => X104.ldc2Long hx hown (mvT hZ (hw _ (List.mem_of_getElem? (i := 26) rfl))) (g := (mkF m 40 #[.val (.ref x0), .val (.int (1 : Int32))] [(.ref b), (.ref x0)])) rfl (hb hby own_d4_40) tgt) ?_
    show own_Fin p e below s (own_QE Z x0 b k f h0 n0) 1 4 (T104.setTop (mkF m 43 #[.val (.ref x0), .val (.int (1 : Int32))] [(.long (2147483639 : Int64)), (.ref b), (.ref x0)]))
    refine own_go (fun tgt => X104.ldc2Long hx hown (mvT hZ (hw _ (List.mem_of_getElem? (i := 27) rfl))) (g := (mkF m 43 #[.val (.ref x0), .val (.int (1 : Int32))] [(.long (2147483639 : Int64)), (.ref b), (.ref x0)])) rfl (hb hby own_d4_43) tgt) ?_
    show own_Fin p e below s (own_QE Z x0 b k f h0 n0) 1 4 (T104.setTop (mkF m 46 #[.val (.ref x0), .val (.int (1 : Int32))] [(.long (2 : Int64)), (.long (2147483639 : Int64)), (.ref b), (.ref x0)]))
    refine own_go (fun tgt => XS.aloadN X104.here hx rfl (hb hby own_d4_46) rfl rfl) ?_
    show own_Fin p e below s (own_QE Z x0 b k f h0 n0) 1 4 (T104.setTop (mkF m 47 #[.val (.ref x0), .val (.int (1 : Int32))] [(.ref x0), (.long (2 : Int64)), (.long (2147483639 : Int64)), (.ref b), (.ref x0)]))
    obtain ⟨T105, X105, e105, st105⟩ := own_getF X104 hx hZ e104 hown (hw _ (List.mem_of_getElem? (i := 12) rfl)) hJ.2.1 (g := (mkF m 47 #[.val (.ref x0), .val (.int (1 : Int32))] [(.ref x0), (.long (2 : Int64)), (.long (2147483639 : Int64)), (.ref b), (.ref x0)])) rfl rfl (hb hby own_d4_47)
    refine own_go st105 ?_
    show own_Fin p e below s (own_QE Z x0 b k f h0 n0) 1 4 (T105.setTop (mkF m 50 #[.val (.ref x0), .val (.int (1 : Int32))] [(.ref b), (.long (2 : Int64)), (.long (2147483639 : Int64)), (.ref b), (.ref x0)]))
    refine own_go (own_len X105 hx hZ e105 (hJ.2.2.2.1).toA (g := (mkF m 50 #[.val (.ref x0), .val (.int (1 : Int32))] [(.ref b), (.long (2 : Int64)), (.long (2147483639 : Int64)), (.ref b), (.ref x0)])) rfl rfl (hb hby own_d4_50)) ?_
    show own_Fin p e below s (own_QE Z x0 b k f h0 n0) 1 4 (T105.setTop (mkF m 51 #[.val (.ref x0), .val (.int (1 : Int32))] [(.int k), (.long (2 : Int64)), (.long (2147483639 : Int64)), (.ref b), (.ref x0)]))
    refine own_go (fun tgt => XS.i2l X105.here hx rfl (hb hby own_d4_51) rfl) ?_
    show own_Fin p e below s (own_QE Z x0 b k f h0 n0) 1 4 (T105.setTop (mkF m 52 #[.val (.ref x0), .val (.int (1 : Int32))] [(.long (k.toInt64)), (.long (2 : Int64)), (.long (2147483639 : Int64)), (.ref b), (.ref x0)]))
    refine own_go (fun tgt => XS.lmul X105.here hx rfl (hb hby own_d4_52) rfl) ?_
    show own_Fin p e below s (own_QE Z x0 b k f h0 n0) 1 4 (T105.setTop (mkF m 53 #[.val (.ref x0), .val (.int (1 : Int32))] [(.long ((2 : Int64) * (k.toInt64))), (.long (2147483639 : Int64)), (.ref b), (.ref x0)]))
    refine own_go (fun tgt => XS.aloadN X105.here hx rfl (hb hby own_d4_53) rfl rfl) ?_
    show own_Fin p e below s (own_QE Z x0 b k f h0 n0) 1 4 (T105.setTop (mkF m 54 #[.val (.ref x0), .val (.int (1 : Int32))] [(.ref x0), (.long ((2 : Int64) * (k.toInt64))), (.long (2147483639 : Int64)), (.ref b), (.ref x0)]))
    obtain ⟨T106, X106, e106, st106⟩ := own_getF X105 hx hZ e105 hown (hw _ (List.mem_of_getElem? (i := 23) rfl)) hJ.2.2.1 (g := (mkF m 54 #[.val (.ref x0), .val (.int (1 : Int32))] [(.ref x0), (.long ((2 : Int64) * (k.toInt64))), (.long (2147483639 : Int64)), (.ref b), (.ref x0)])) rfl rfl (hb hby own_d4_54)
    refine own_go st106 ?_
    show own_Fin p e below s (own_QE Z x0 b k f h0 n0) 1 4 (T106.setTop (mkF m 57 #[.val (.ref x0), .val (.int (1 : Int32))] [(.int k), (.long ((2 : Int64) * (k.toInt64))), (.long (2147483639 : Int64)), (.ref b), (.ref x0)]))
    refine own_go (fun tgt => XS.i2l X106.here hx rfl (hb hby own_d4_57) rfl) ?_
    show own_Fin p e below s (own_QE Z x0 b k f h0 n0) 1 4 (T106.setTop (mkF m 58 #[.val (.ref x0), .val (.int (1 : Int32))] [(.long (k.toInt64)), (.long ((2 : Int64) * (k.toInt64))), (.long (2147483639 : Int64)), (.ref b), (.ref x0)]))
    refine own_go (fun tgt => XS.iloadN X106.here hx rfl (hb hby own_d4_58) rfl) ?_
    show own_Fin p e below s (own_QE Z x0 b k f h0 n0) 1 4 (T106.setTop (mkF m 59 #[.val (.ref x0), .val (.int (1 : Int32))] [(.int (1 : Int32)), (.long (k.toInt64)), (.long ((2 : Int64) * (k.toInt64))), (.long (2147483639 : Int64)), (.ref b), (.ref x0)]))
    refine own_go (fun tgt => XS.i2l X106.here hx rfl (hb hby own_d4_59) rfl) ?_
    show own_Fin p e below s (own_QE Z x0 b k f h0 n0) 1 4 (T106.setTop (mkF m 60 #[.val (.ref x0), .val (.int (1 : Int32))] [(.long ((1 : Int32).toInt64)), (.long (k.toInt64)), (.long ((2 : Int64) * (k.toInt64))), (.long (2147483639 : Int64)), (.ref b), (.ref x0)]))
    refine own_go (fun tgt => XS.ladd X106.here hx rfl (hb hby own_d4_60) rfl) ?_
    show own_Fin p e below s (own_QE Z x0 b k f h0 n0) 1 4 (T106.setTop (mkF m 61 #[.val (.ref x0), .val (.int (1 : Int32))] [(.long ((k.toInt64) + ((1 : Int32).toInt64))), (.long ((2 : Int64) * (k.toInt64))), (.long (2147483639 : Int64)), (.ref b), (.ref x0)]))
    obtain ⟨T107, X107, e107, st107⟩ := own_callP X106 hx hZ e106 (y := (⟨"java/lang/Math", "max", "(JJ)J"⟩ : MethodName)) hown (hw _ (List.mem_of_getElem? (i := 28) rfl)) (hw _ (List.mem_of_getElem? (i := 29) rfl)) (hw _ (List.mem_of_getElem? (i := 30) rfl)) (hw _ (List.mem_of_getElem? (i := 31) rfl)) (by decide) (argsL := [(.long ((2 : Int64) * (k.toInt64))), (.long ((k.toInt64) + ((1 : Int32).toInt64)))]) (rest := [(.long (2147483639 : Int64)), (.ref b), (.ref x0)]) (own_c5 l Z a0 hw ((2 : Int64) * (k.toInt64)) ((k.toInt64) + ((1 : Int32).toInt64)) _) (by decide) 4 (by decide) (by decide) (by decide) (g := (mkF m 61 #[.val (.ref x0), .val (.int (1 : Int32))] [(.long ((k.toInt64) + ((1 : Int32).toInt64))), (.long ((2 : Int64) * (k.toInt64))), (.long (2147483639 : Int64)), (.ref b), (.ref x0)])) rfl (by rw [hml]; rfl) (lenOf own_pd1 rfl) rfl (by show 2 * 0 + _ ≤ _; exact Nat.le_of_eq rfl) (hb hby own_d4_61)
    refine own_go st107 ?_
    show own_Fin p e below s (own_QE Z x0 b k f h0 n0) 1 4 (T107.setTop (mkF m 64 #[.val (.ref x0), .val (.int (1 : Int32))] [(.long (own_f5_0 ((2 : Int64) * (k.toInt64)) ((k.toInt64) + ((1 : Int32).toInt64)))), (.long (2147483639 : Int64)), (.ref b), (.ref x0)]))
    obtain ⟨T108, X108, e108, st108⟩ := own_callP X107 hx hZ e107 (y := (⟨"java/lang/Math", "min", "(JJ)J"⟩ : MethodName)) hown (hw _ (List.mem_of_getElem? (i := 32) rfl)) (hw _ (List.mem_of_getElem? (i := 33) rfl)) (hw _ (List.mem_of_getElem? (i := 30) rfl)) (hw _ (List.mem_of_getElem? (i := 34) rfl)) (by decide) (argsL := [(.long (2147483639 : Int64)), (.long (own_f5_0 ((2 : Int64) * (k.toInt64)) ((k.toInt64) + ((1 : Int32).toInt64))))]) (rest := [(.ref b), (.ref x0)]) (own_c6 l Z a0 hw (2147483639 : Int64) (own_f5_0 ((2 : Int64) * (k.toInt64)) ((k.toInt64) + ((1 : Int32).toInt64))) _) (by decide) 2 (by decide) (by decide) (by decide) (g := (mkF m 64 #[.val (.ref x0), .val (.int (1 : Int32))] [(.long (own_f5_0 ((2 : Int64) * (k.toInt64)) ((k.toInt64) + ((1 : Int32).toInt64)))), (.long (2147483639 : Int64)), (.ref b), (.ref x0)])) rfl (by rw [hml]; rfl) (lenOf own_pd1 rfl) rfl (by show 2 * 0 + _ ≤ _; exact Nat.le_of_eq rfl) (hb hby own_d4_64)
    refine own_go st108 ?_
    show own_Fin p e below s (own_QE Z x0 b k f h0 n0) 1 4 (T108.setTop (mkF m 67 #[.val (.ref x0), .val (.int (1 : Int32))] [(.long (own_f6_0 (2147483639 : Int64) (own_f5_0 ((2 : Int64) * (k.toInt64)) ((k.toInt64) + ((1 : Int32).toInt64))))), (.ref b), (.ref x0)]))
    refine own_go (fun tgt => XS.l2i X108.here hx rfl (hb hby own_d4_67) rfl) ?_
    show own_Fin p e below s (own_QE Z x0 b k f h0 n0) 1 4 (T108.setTop (mkF m 68 #[.val (.ref x0), .val (.int (1 : Int32))] [(.int ((own_f6_0 (2147483639 : Int64) (own_f5_0 ((2 : Int64) * (k.toInt64)) ((k.toInt64) + ((1 : Int32).toInt64)))).toInt32)), (.ref b), (.ref x0)]))
    show own_Fin p e below s (own_QE Z x0 b k f h0 n0) 1 4 (T108.setTop (mkF m 68 #[.val (.ref x0), .val (.int (1 : Int32))] [(.int (own_nn k)), (.ref b), (.ref x0)]))
    have hn := own_nnB k (by omega) (by omega)
    generalize own_nn k = n at hn ⊢
    show own_Fin p e below s (own_QE Z x0 b k f h0 n0) 1 4 (T108.setTop (mkF m 68 #[.val (.ref x0), .val (.int (1 : Int32))] [(.int n), (.ref b), (.ref x0)]))
    obtain ⟨T109, b109, X109, E109, g109, A109, st109⟩ := own_copyOf X108 hx hZ e108 hown (hw _ (List.mem_of_getElem? (i := 35) rfl)) (hw _ (List.mem_of_getElem? (i := 36) rfl)) (hw _ (List.mem_of_getElem? (i := 37) rfl)) (hw _ (List.mem_of_getElem? (i := 38) rfl)) (own_htab l hw hZ _) hJ.2.2.2.1 (n := n) (own_nlt 0 (by decide) (by omega)) 4 (own_clamp _ 4 (by omega)) (by decide) (by decide) 1 (by decide) (by decide) (by decide) (g := (mkF m 68 #[.val (.ref x0), .val (.int (1 : Int32))] [(.int n), (.ref b), (.ref x0)])) rfl (by rw [hml]; rfl) rfl (by show 2 * 0 + _ ≤ _; exact Nat.le_of_eq rfl) (hb hby own_d4_68)
    have sz_b109 : Array.size h0 ≤ b109 := by rw [g109]; exact KK0.1
    have G_b109 : n0 ≤ b109 := Nat.le_trans Z0 sz_b109
    have ne_x0_b109 : x0 ≠ b109 := by rw [g109]; exact Nat.ne_of_lt hJ.1.lt
    have ne_b_b109 : b ≠ b109 := by rw [g109]; exact Nat.ne_of_lt hJ.2.2.2.1.lt
    have E_x0_109 := hJ.1.ext E109
    have F_x0_bytes_109 := hJ.2.1.ext E109
    have F_x0_length_109 := hJ.2.2.1.ext E109
    have A_b_109 := hJ.2.2.2.1.ext E109
    have KK109 := KK0.ext E109
    refine own_go st109 ?_
    show own_Fin p e below s (own_QE Z x0 b k f h0 n0) 1 4 (T109.setTop (mkF m 71 #[.val (.ref x0), .val (.int (1 : Int32))] [(.ref b109), (.ref x0)]))
    obtain ⟨T110, X110, W110, st110⟩ := own_putF X109 hx hZ rfl hown (hw _ (List.mem_of_getElem? (i := 12) rfl)) F_x0_bytes_109 E_x0_109 (Or.inl (hw _ (List.mem_of_getElem? (i := 13) rfl))) (hw _ (List.mem_of_getElem? (i := 1) rfl)) (ty := (.array .byte)) (by decide) rfl rfl (g := (mkF m 71 #[.val (.ref x0), .val (.int (1 : Int32))] [(.ref b109), (.ref x0)])) rfl rfl (hb hby own_d4_71)
    have N110 := Fr.snoc X110 N0 g0
    have E_x0_110 := E_x0_109.wr W110
    have F_x0_bytes_110 := F_x0_bytes_109.same W110
    have F_x0_length_110 := F_x0_length_109.other W110 (Or.inr (slot_ne (a0 := a0) (Or.inl (hw _ (List.mem_of_getElem? (i := 24) rfl))) (Or.inl (hw _ (List.mem_of_getElem? (i := 13) rfl))) (by decide) (t := .int) (t' := (.array .byte)) (by decide) (by decide)))
    have A_b_110 := A_b_109.other W110 hJ.2.2.2.2
    have A_b109_110 := A109.other W110 (Ne.symm ne_x0_b109)
    have KK110 := KK109.wr W110 (Or.inl (List.mem_of_getElem? (i := 0) rfl))
    refine own_go st110 ?_
    show own_Fin p e below s (own_QE Z x0 b k f h0 n0) 1 4 (T110.setTop (mkF m 74 #[.val (.ref x0), .val (.int (1 : Int32))] []))
    exact own_ret0 X110 hlk hx hret (hb hby own_d4_74) ⟨rfl, N110, KK110, _, _, _, ⟨E_x0_110, F_x0_bytes_110, F_x0_length_110, A_b109_110, (Ne.symm ne_x0_b109)⟩, by omega, by omega, G_b109, Or.inr sz_b109, fun j h1 h2 => by
      show (if j < 0 then (0 : Int32) else if j < k then f j else 0) = f j
      rw [if_neg h1, if_pos h2]⟩ (by decide) (by decide)
  · refine own_go (fun tgt => XS.icmpYes X2.here hx rfl (pc0 := 11) (pc' := 74) rfl (hb hby own_d4_11) rfl (flt h11).2.2.2 (by decide) (by decide)) ?_
    show own_Fin p e below s (own_QE Z x0 b k f h0 n0) 1 4 (T2.setTop (mkF m 74 #[.val (.ref x0), .val (.int (1 : Int32))] []))
    have u := own_nltT h11
    exact own_ret0 X2 hlk hx hret (hb hby own_d4_74) ⟨rfl, N0, by rw [e2]; exact KK0, _, _, _, by rw [e2]; exact hJ, by omega, hz, gb, Or.inl rfl, fun _ _ _ => rfl⟩ (by decide) (by decide)
theorem own_ens (l : Launch) (Z : State) (a0 : Array Value) (hw : ∀ d ∈ tables_1, d.before a0 Z = true) (x0 : Addr) (x1 : Int32) (b : Addr) (z : Int32) (k : Int32) (f : Int32 → Int32) (h0 : Heap) (n0 : Nat) (Z0 : n0 ≤ h0.size) (h1 : x1 = (1 : Int32)) (g0 : n0 ≤ x0) (gb : n0 ≤ b) (hJ : own_JB Z h0 x0 b z k f) (hk : 0 ≤ k.toInt ∧ k.toInt ≤ 2) (hkz : k.toInt ≤ z.toInt) (hz : z.toInt ≤ 31) : own_Met l Z (⟨"com/example/binlogue/binlogue/json/JsonBuffer", "ensure", "(I)V"⟩ : MethodName) prog_78_method_14_code 2 none [] ({ frames := 2, cells := 1, slots := 4, locals := 60 } : Room) #[(.ref x0), (.int x1)] h0 (own_QE Z x0 b k f h0 n0) :=
  own_enter (plainFor_of_name own_pn0) (own_ef4 x0 x1) hw (fun p e s m below meth c T X C hh => own_ens_w X C hh x0 x1 b z k f n0 Z0 h1 g0 gb hJ hk hkz hz)
def own_QA (Z : State) (a b : Addr) (k x : Int32) (f : Int32 → Int32) (h0 : Heap) (n0 : Nat) (v : Option Value) (h : Heap) (L : List Loc) : Prop := v = none ∧ Fr n0 L ∧ Keep h0 h [a, b] ∧ ∃ b' z' f', own_JB Z h a b' z' (k + (1 : Int32)) f' ∧ k.toInt + 1 ≤ z'.toInt ∧ z'.toInt ≤ 31 ∧ n0 ≤ b' ∧ (∀ j : Int32, ¬ j < 0 → j < k → f' j = f j) ∧ f' k = x.toInt8.toInt32
theorem own_pd3 : parseMethodDescriptor "(I)V" = some ⟨[.int], none⟩ := by decide +kernel
theorem own_d3_0 : decode prog_78_method_5_code 0 = .ok (.aload_n 0, 1) := by decide +kernel
theorem own_d3_1 : decode prog_78_method_5_code 1 = .ok (.iconst 1, 1) := by decide +kernel
theorem own_d3_2 : decode prog_78_method_5_code 2 = .ok (.invokevirtual 27, 3) := by decide +kernel
theorem own_d3_5 : decode prog_78_method_5_code 5 = .ok (.aload_n 0, 1) := by decide +kernel
theorem own_d3_6 : decode prog_78_method_5_code 6 = .ok (.getfield 15, 3) := by decide +kernel
theorem own_d3_9 : decode prog_78_method_5_code 9 = .ok (.aload_n 0, 1) := by decide +kernel
theorem own_d3_10 : decode prog_78_method_5_code 10 = .ok (.dup, 1) := by decide +kernel
theorem own_d3_11 : decode prog_78_method_5_code 11 = .ok (.getfield 18, 3) := by decide +kernel
theorem own_d3_14 : decode prog_78_method_5_code 14 = .ok (.dup_x1, 1) := by decide +kernel
theorem own_d3_15 : decode prog_78_method_5_code 15 = .ok (.iconst 1, 1) := by decide +kernel
theorem own_d3_16 : decode prog_78_method_5_code 16 = .ok (.iadd, 1) := by decide +kernel
theorem own_d3_17 : decode prog_78_method_5_code 17 = .ok (.putfield 18, 3) := by decide +kernel
theorem own_d3_20 : decode prog_78_method_5_code 20 = .ok (.iload_n 1, 1) := by decide +kernel
theorem own_d3_21 : decode prog_78_method_5_code 21 = .ok (.i2b, 1) := by decide +kernel
theorem own_d3_22 : decode prog_78_method_5_code 22 = .ok (.bastore, 1) := by decide +kernel
theorem own_d3_23 : decode prog_78_method_5_code 23 = .ok (.return_, 1) := by decide +kernel
theorem own_ef3 (x0 : Addr) (x1 : Int32) : ∀ m, entryFrame m #[(.ref x0), (.int x1)] 2 = mkF m 0 #[.val (.ref x0), .val (.int x1)] [] := fun m => by first | (simp [entryFrame, mkF, argsToLocals, Value.category]; done) | rfl
set_option maxRecDepth 65536 in
set_option maxHeartbeats 40000000 in
theorem own_asc_w {l : Launch} {p : Program} {e : Env} {below : List Frame} {s : State} {m : MethodId} {meth : Method} {c : Code} {Z : State} {a0 args : Array Value} {T : State} {h0 : Heap} (X : Stand p l e ({ frames := 3, cells := 1, slots := 4, locals := 80 } : Room) s m args below meth c T [] 0 0) (C : own_Ctx p s m meth c Z a0 tables_1 (⟨"com/example/binlogue/binlogue/json/JsonBuffer", "ascii", "(C)V"⟩ : MethodName) prog_78_method_5_code 2 none) (hh : T.heap = h0) (x0 : Addr) (x1 : Int32) (b : Addr) (z : Int32) (k : Int32) (f : Int32 → Int32) (n0 : Nat) (Z0 : n0 ≤ h0.size) (g0 : n0 ≤ x0) (gb : n0 ≤ b) (hJ : own_JB Z h0 x0 b z k f) (hk : 0 ≤ k.toInt ∧ k.toInt ≤ 2) (hkz : k.toInt ≤ z.toInt) (hz : z.toInt ≤ 31) :
    own_Fin p e below s (own_QA Z x0 b k x1 f h0 n0) 1 4 (T.setTop (mkF m 0 #[.val (.ref x0), .val (.int x1)] [])) := by
  obtain ⟨hx, hby, hml, hZ, hown, hnm, hret, hlk, hw⟩ := id C
  show own_Fin p e below s (own_QA Z x0 b k x1 f h0 n0) 1 4 (T.setTop (mkF m 0 #[.val (.ref x0), .val (.int x1)] []))
  have N0 := Fr.nil n0
  have KK0 : Keep h0 h0 [x0, b] := Keep.refl _ _
  refine own_go (fun tgt => XS.aloadN X.here hx rfl (hb hby own_d3_0) rfl rfl) ?_
  show own_Fin p e below s (own_QA Z x0 b k x1 f h0 n0) 1 4 (T.setTop (mkF m 1 #[.val (.ref x0), .val (.int x1)] [(.ref x0)]))
  refine own_go (fun tgt => XS.iconst X.here hx rfl (hb hby own_d3_1)) ?_
  show own_Fin p e below s (own_QA Z x0 b k x1 f h0 n0) 1 4 (T.setTop (mkF m 2 #[.val (.ref x0), .val (.int x1)] [(.int (1 : Int32)), (.ref x0)]))
  obtain ⟨_, T1, L1, X1, ⟨rfl, Nq, K1, b', z', f', hJ', hz1, hz2, gb', hbr', hf'⟩, st1⟩ := own_callX X hx hZ hh (y := (⟨"com/example/binlogue/binlogue/json/JsonBuffer", "ensure", "(I)V"⟩ : MethodName)) hown (hw _ (List.mem_of_getElem? (i := 19) rfl)) (hw _ (List.mem_of_getElem? (i := 1) rfl)) (hw _ (List.mem_of_getElem? (i := 21) rfl)) (hw _ (List.mem_of_getElem? (i := 20) rfl)) (hw _ (List.mem_of_getElem? (i := 2) rfl)) (hw _ (List.mem_of_getElem? (i := 22) rfl)) (by decide) (a := x0) hJ.1 (argsL := [(.int (1 : Int32))]) (rest := []) (own_ens l Z a0 hw x0 (1 : Int32) b z k f _ n0 Z0 rfl g0 gb hJ hk hkz hz) (by decide) 0 (by decide) (by decide) (by decide) (g := (mkF m 2 #[.val (.ref x0), .val (.int x1)] [(.int (1 : Int32)), (.ref x0)])) rfl (by rw [hml]; rfl) (lenOf own_pd3 rfl) rfl (by show 2 * 0 + _ ≤ _; exact Nat.le_of_eq rfl) (hb hby own_d3_2)
  have N1 := Fr.app N0 Nq
  have KK1 := KK0.trans K1 (allS (Or.inl (List.mem_of_getElem? (i := 0) rfl)) all0)
  have hin : b' ∈ [x0, b] ∨ Array.size h0 ≤ b' := hbr'.elim (fun q => Or.inl (by rw [q]; exact List.mem_of_getElem? (i := 1) rfl)) Or.inr
  refine own_go st1 ?_
  show own_Fin p e below s (own_QA Z x0 b k x1 f h0 n0) 1 4 (T1.setTop (mkF m 5 #[.val (.ref x0), .val (.int x1)] []))
  refine own_go (fun tgt => XS.aloadN X1.here hx rfl (hb hby own_d3_5) rfl rfl) ?_
  show own_Fin p e below s (own_QA Z x0 b k x1 f h0 n0) 1 4 (T1.setTop (mkF m 6 #[.val (.ref x0), .val (.int x1)] [(.ref x0)]))
  obtain ⟨T2, X2, e2, st2⟩ := own_getF X1 hx hZ rfl hown (hw _ (List.mem_of_getElem? (i := 12) rfl)) hJ'.2.1 (g := (mkF m 6 #[.val (.ref x0), .val (.int x1)] [(.ref x0)])) rfl rfl (hb hby own_d3_6)
  refine own_go st2 ?_
  show own_Fin p e below s (own_QA Z x0 b k x1 f h0 n0) 1 4 (T2.setTop (mkF m 9 #[.val (.ref x0), .val (.int x1)] [(.ref b')]))
  refine own_go (fun tgt => XS.aloadN X2.here hx rfl (hb hby own_d3_9) rfl rfl) ?_
  show own_Fin p e below s (own_QA Z x0 b k x1 f h0 n0) 1 4 (T2.setTop (mkF m 10 #[.val (.ref x0), .val (.int x1)] [(.ref x0), (.ref b')]))
  refine own_go (fun tgt => XS.dup X2.here hx rfl (hb hby own_d3_10) rfl rfl) ?_
  show own_Fin p e below s (own_QA Z x0 b k x1 f h0 n0) 1 4 (T2.setTop (mkF m 11 #[.val (.ref x0), .val (.int x1)] [(.ref x0), (.ref x0), (.ref b')]))
  obtain ⟨T3, X3, e3, st3⟩ := own_getF X2 hx hZ e2 hown (hw _ (List.mem_of_getElem? (i := 23) rfl)) hJ'.2.2.1 (g := (mkF m 11 #[.val (.ref x0), .val (.int x1)] [(.ref x0), (.ref x0), (.ref b')])) rfl rfl (hb hby own_d3_11)
  refine own_go st3 ?_
  show own_Fin p e below s (own_QA Z x0 b k x1 f h0 n0) 1 4 (T3.setTop (mkF m 14 #[.val (.ref x0), .val (.int x1)] [(.int k), (.ref x0), (.ref b')]))
  refine own_go (fun tgt => XS.dupX1 X3.here hx rfl (hb hby own_d3_14) rfl rfl rfl) ?_
  show own_Fin p e below s (own_QA Z x0 b k x1 f h0 n0) 1 4 (T3.setTop (mkF m 15 #[.val (.ref x0), .val (.int x1)] [(.int k), (.ref x0), (.int k), (.ref b')]))
  refine own_go (fun tgt => XS.iconst X3.here hx rfl (hb hby own_d3_15)) ?_
  show own_Fin p e below s (own_QA Z x0 b k x1 f h0 n0) 1 4 (T3.setTop (mkF m 16 #[.val (.ref x0), .val (.int x1)] [(.int (1 : Int32)), (.int k), (.ref x0), (.int k), (.ref b')]))
  refine own_go (fun tgt => XS.iadd X3.here hx rfl (hb hby own_d3_16) rfl) ?_
  show own_Fin p e below s (own_QA Z x0 b k x1 f h0 n0) 1 4 (T3.setTop (mkF m 17 #[.val (.ref x0), .val (.int x1)] [(.int (k + (1 : Int32))), (.ref x0), (.int k), (.ref b')]))
  obtain ⟨T4, X4, W4, st4⟩ := own_putF X3 hx hZ e3 hown (hw _ (List.mem_of_getElem? (i := 23) rfl)) hJ'.2.2.1 hJ'.1 (Or.inl (hw _ (List.mem_of_getElem? (i := 24) rfl))) (hw _ (List.mem_of_getElem? (i := 1) rfl)) (ty := .int) (by decide) rfl rfl (g := (mkF m 17 #[.val (.ref x0), .val (.int x1)] [(.int (k + (1 : Int32))), (.ref x0), (.int k), (.ref b')])) rfl rfl (hb hby own_d3_17)
  have N4 := Fr.snoc X4 N1 g0
  have E_x0_4 := hJ'.1.wr W4
  have F_x0_bytes_4 := hJ'.2.1.other W4 (Or.inr (slot_ne (a0 := a0) (Or.inl (hw _ (List.mem_of_getElem? (i := 13) rfl))) (Or.inl (hw _ (List.mem_of_getElem? (i := 24) rfl))) (by decide) (t := (.array .byte)) (t' := .int) (by decide) (by decide)))
  have F_x0_length_4 := hJ'.2.2.1.same W4
  have A_b'_4 := hJ'.2.2.2.1.other W4 hJ'.2.2.2.2
  have KK4 := KK1.wr W4 (Or.inl (List.mem_of_getElem? (i := 0) rfl))
  refine own_go st4 ?_
  show own_Fin p e below s (own_QA Z x0 b k x1 f h0 n0) 1 4 (T4.setTop (mkF m 20 #[.val (.ref x0), .val (.int x1)] [(.int k), (.ref b')]))
  refine own_go (fun tgt => XS.iloadN X4.here hx rfl (hb hby own_d3_20) rfl) ?_
  show own_Fin p e below s (own_QA Z x0 b k x1 f h0 n0) 1 4 (T4.setTop (mkF m 21 #[.val (.ref x0), .val (.int x1)] [(.int x1), (.int k), (.ref b')]))
  refine own_go (fun tgt => XS.i2b X4.here hx rfl (hb hby own_d3_21) rfl) ?_
  show own_Fin p e below s (own_QA Z x0 b k x1 f h0 n0) 1 4 (T4.setTop (mkF m 22 #[.val (.ref x0), .val (.int x1)] [(.int (x1.toInt8.toInt32)), (.int k), (.ref b')]))
  have hk0 : ¬ k < 0 := own_nlt 0 (by decide) hk.1
  have hkz' : k < z' := own_Tlt hz1
  obtain ⟨T5, X5, W5, A5, st5⟩ := own_stB X4 hx hZ rfl (A_b'_4).toA hk0 hkz' (g := (mkF m 22 #[.val (.ref x0), .val (.int x1)] [(.int (x1.toInt8.toInt32)), (.int k), (.ref b')])) rfl rfl (hb hby own_d3_22)
  have N5 := Fr.snoc X5 N4 gb'
  have AB := (A_b'_4).set hk0 hkz' W5 (fits_nar_byte _)
  have E_x0_5 := E_x0_4.wr W5
  have F_x0_bytes_5 := F_x0_bytes_4.other W5 (Or.inl (Ne.symm hJ'.2.2.2.2))
  have F_x0_length_5 := F_x0_length_4.other W5 (Or.inl (Ne.symm hJ'.2.2.2.2))
  have KK5 := KK4.wr W5 hin
  refine own_go st5 ?_
  show own_Fin p e below s (own_QA Z x0 b k x1 f h0 n0) 1 4 (T5.setTop (mkF m 23 #[.val (.ref x0), .val (.int x1)] []))
  have ek : (k + (1 : Int32)).toInt = k.toInt + 1 := by
    have a := c_iadd k 1
    have r := rng32 (k + (1 : Int32))
    have o1 : (1 : Int32).toInt = 1 := by decide
    omega
  refine own_ret0 X5 hlk hx hret (hb hby own_d3_23) ⟨rfl, N5, KK5, _, _, _, ⟨E_x0_5, F_x0_bytes_5, F_x0_length_5, AB, hJ'.2.2.2.2⟩, by omega, hz2, gb', fun j h1 h2 => ?_, ?_⟩ (by decide) (by decide)
  · show (if j = k then _ else f' j) = f j
    rw [if_neg (fun q => by rw [q] at h2; exact absurd (own_ltT h2) (by omega))]; exact hf' j h1 h2
  · show (if k = k then _ else f' k) = _
    rw [if_pos rfl]; exact own_bb _
theorem own_asc (l : Launch) (Z : State) (a0 : Array Value) (hw : ∀ d ∈ tables_1, d.before a0 Z = true) (x0 : Addr) (x1 : Int32) (b : Addr) (z : Int32) (k : Int32) (f : Int32 → Int32) (h0 : Heap) (n0 : Nat) (Z0 : n0 ≤ h0.size) (g0 : n0 ≤ x0) (gb : n0 ≤ b) (hJ : own_JB Z h0 x0 b z k f) (hk : 0 ≤ k.toInt ∧ k.toInt ≤ 2) (hkz : k.toInt ≤ z.toInt) (hz : z.toInt ≤ 31) : own_Met l Z (⟨"com/example/binlogue/binlogue/json/JsonBuffer", "ascii", "(C)V"⟩ : MethodName) prog_78_method_5_code 2 none [] ({ frames := 3, cells := 1, slots := 4, locals := 80 } : Room) #[(.ref x0), (.int x1)] h0 (own_QA Z x0 b k x1 f h0 n0) :=
  own_enter (plainFor_of_name own_pn0) (own_ef3 x0 x1) hw (fun p e s m below meth c T X C hh => own_asc_w X C hh x0 x1 b z k f n0 Z0 g0 gb hJ hk hkz hz)
def own_QC (Z : State) (a : Addr) (h0 : Heap) (n0 : Nat) (v : Option Value) (h : Heap) (L : List Loc) : Prop := v = none ∧ Fr n0 L ∧ Keep h0 h [a] ∧ ∃ b' z' f', own_JB Z h a b' z' 0 f' ∧ z'.toInt ≤ 31 ∧ n0 ≤ b'
theorem own_d9_0 : decode prog_78_method_2_code 0 = .ok (.aload_n 0, 1) := by decide +kernel
theorem own_d9_1 : decode prog_78_method_2_code 1 = .ok (.getfield 15, 3) := by decide +kernel
theorem own_d9_4 : decode prog_78_method_2_code 4 = .ok (.arraylength, 1) := by decide +kernel
theorem own_d9_5 : decode prog_78_method_2_code 5 = .ok (.iload_n 1, 1) := by decide +kernel
theorem own_d9_6 : decode prog_78_method_2_code 6 = .ok (.if_icmp .le 10, 3) := by decide +kernel
theorem own_d9_9 : decode prog_78_method_2_code 9 = .ok (.aload_n 0, 1) := by decide +kernel
theorem own_d9_10 : decode prog_78_method_2_code 10 = .ok (.iload_n 1, 1) := by decide +kernel
theorem own_d9_11 : decode prog_78_method_2_code 11 = .ok (.newarray .byte, 2) := by decide +kernel
theorem own_d9_13 : decode prog_78_method_2_code 13 = .ok (.putfield 15, 3) := by decide +kernel
theorem own_d9_16 : decode prog_78_method_2_code 16 = .ok (.aload_n 0, 1) := by decide +kernel
theorem own_d9_17 : decode prog_78_method_2_code 17 = .ok (.iconst 0, 1) := by decide +kernel
theorem own_d9_18 : decode prog_78_method_2_code 18 = .ok (.putfield 18, 3) := by decide +kernel
theorem own_d9_21 : decode prog_78_method_2_code 21 = .ok (.return_, 1) := by decide +kernel
theorem own_ef9 (x0 : Addr) (x1 : Int32) : ∀ m, entryFrame m #[(.ref x0), (.int x1)] 2 = mkF m 0 #[.val (.ref x0), .val (.int x1)] [] := fun m => by first | (simp [entryFrame, mkF, argsToLocals, Value.category]; done) | rfl
set_option maxRecDepth 65536 in
set_option maxHeartbeats 40000000 in
theorem own_clr_w {l : Launch} {p : Program} {e : Env} {below : List Frame} {s : State} {m : MethodId} {meth : Method} {c : Code} {Z : State} {a0 args : Array Value} {T : State} {h0 : Heap} (X : Stand p l e ({ frames := 0, cells := 1, slots := 31, locals := 0 } : Room) s m args below meth c T [] 0 0) (C : own_Ctx p s m meth c Z a0 tables_1 (⟨"com/example/binlogue/binlogue/json/JsonBuffer", "clear", "(I)V"⟩ : MethodName) prog_78_method_2_code 2 none) (hh : T.heap = h0) (x0 : Addr) (x1 : Int32) (b : Addr) (z : Int32) (k : Int32) (f : Int32 → Int32) (n0 : Nat) (Z0 : n0 ≤ h0.size) (g0 : n0 ≤ x0) (gb : n0 ≤ b) (hJ : own_JB Z h0 x0 b z k f) (hz : z.toInt ≤ 31) (hr : 0 ≤ x1.toInt) :
    own_Fin p e below s (own_QC Z x0 h0 n0) 1 31 (T.setTop (mkF m 0 #[.val (.ref x0), .val (.int x1)] [])) := by
  obtain ⟨hx, hby, hml, hZ, hown, hnm, hret, hlk, hw⟩ := id C
  show own_Fin p e below s (own_QC Z x0 h0 n0) 1 31 (T.setTop (mkF m 0 #[.val (.ref x0), .val (.int x1)] []))
  have N0 := Fr.nil n0
  have KK0 : Keep h0 h0 [x0] := Keep.refl _ _
  refine own_go (fun tgt => XS.aloadN X.here hx rfl (hb hby own_d9_0) rfl rfl) ?_
  show own_Fin p e below s (own_QC Z x0 h0 n0) 1 31 (T.setTop (mkF m 1 #[.val (.ref x0), .val (.int x1)] [(.ref x0)]))
  obtain ⟨T1, X1, e1, st1⟩ := own_getF X hx hZ hh hown (hw _ (List.mem_of_getElem? (i := 12) rfl)) hJ.2.1 (g := (mkF m 1 #[.val (.ref x0), .val (.int x1)] [(.ref x0)])) rfl rfl (hb hby own_d9_1)
  refine own_go st1 ?_
  show own_Fin p e below s (own_QC Z x0 h0 n0) 1 31 (T1.setTop (mkF m 4 #[.val (.ref x0), .val (.int x1)] [(.ref b)]))
  refine own_go (own_len X1 hx hZ e1 (hJ.2.2.2.1).toA (g := (mkF m 4 #[.val (.ref x0), .val (.int x1)] [(.ref b)])) rfl rfl (hb hby own_d9_4)) ?_
  show own_Fin p e below s (own_QC Z x0 h0 n0) 1 31 (T1.setTop (mkF m 5 #[.val (.ref x0), .val (.int x1)] [(.int z)]))
  refine own_go (fun tgt => XS.iloadN X1.here hx rfl (hb hby own_d9_5) rfl) ?_
  show own_Fin p e below s (own_QC Z x0 h0 n0) 1 31 (T1.setTop (mkF m 6 #[.val (.ref x0), .val (.int x1)] [(.int x1), (.int z)]))
  by_cases h6 : x1 < z
  · refine own_go (fun tgt => XS.icmpNo X1.here hx rfl (hb hby own_d9_6) rfl (tlt h6).2.2.2) ?_
    show own_Fin p e below s (own_QC Z x0 h0 n0) 1 31 (T1.setTop (mkF m 9 #[.val (.ref x0), .val (.int x1)] []))
    refine own_go (fun tgt => XS.aloadN X1.here hx rfl (hb hby own_d9_9) rfl rfl) ?_
    show own_Fin p e below s (own_QC Z x0 h0 n0) 1 31 (T1.setTop (mkF m 10 #[.val (.ref x0), .val (.int x1)] [(.ref x0)]))
    refine own_go (fun tgt => XS.iloadN X1.here hx rfl (hb hby own_d9_10) rfl) ?_
    show own_Fin p e below s (own_QC Z x0 h0 n0) 1 31 (T1.setTop (mkF m 11 #[.val (.ref x0), .val (.int x1)] [(.int x1), (.ref x0)]))
    have u := own_ltT h6
    obtain ⟨T102, b102, X102, E102, g102, A102, st102⟩ := own_newBB X1 hx hZ e1 (hw _ (List.mem_of_getElem? (i := 9) rfl)) (g := (mkF m 11 #[.val (.ref x0), .val (.int x1)] [(.int x1), (.ref x0)])) rfl (hb hby own_d9_11) rfl (own_nlt 0 (by decide) hr) 31 (own_clamp _ 31 (by omega)) (by decide) (by decide) (by decide)
    have sz_b102 : Array.size h0 ≤ b102 := by rw [g102]; exact KK0.1
    have G_b102 : n0 ≤ b102 := Nat.le_trans Z0 sz_b102
    have ne_x0_b102 : x0 ≠ b102 := by rw [g102]; exact Nat.ne_of_lt hJ.1.lt
    have ne_b_b102 : b ≠ b102 := by rw [g102]; exact Nat.ne_of_lt hJ.2.2.2.1.lt
    have E_x0_102 := hJ.1.ext E102
    have F_x0_bytes_102 := hJ.2.1.ext E102
    have F_x0_length_102 := hJ.2.2.1.ext E102
    have A_b_102 := hJ.2.2.2.1.ext E102
    have KK102 := KK0.ext E102
    refine own_go st102 ?_
    show own_Fin p e below s (own_QC Z x0 h0 n0) 1 31 (T102.setTop (mkF m 13 #[.val (.ref x0), .val (.int x1)] [(.ref b102), (.ref x0)]))
    obtain ⟨T103, X103, W103, st103⟩ := own_putF X102 hx hZ rfl hown (hw _ (List.mem_of_getElem? (i := 12) rfl)) F_x0_bytes_102 E_x0_102 (Or.inl (hw _ (List.mem_of_getElem? (i := 13) rfl))) (hw _ (List.mem_of_getElem? (i := 1) rfl)) (ty := (.array .byte)) (by decide) rfl rfl (g := (mkF m 13 #[.val (.ref x0), .val (.int x1)] [(.ref b102), (.ref x0)])) rfl rfl (hb hby own_d9_13)
    have N103 := Fr.snoc X103 N0 g0
    have E_x0_103 := E_x0_102.wr W103
    have F_x0_bytes_103 := F_x0_bytes_102.same W103
    have F_x0_length_103 := F_x0_length_102.other W103 (Or.inr (slot_ne (a0 := a0) (Or.inl (hw _ (List.mem_of_getElem? (i := 24) rfl))) (Or.inl (hw _ (List.mem_of_getElem? (i := 13) rfl))) (by decide) (t := .int) (t' := (.array .byte)) (by decide) (by decide)))
    have A_b_103 := A_b_102.other W103 hJ.2.2.2.2
    have A_b102_103 := A102.other W103 (Ne.symm ne_x0_b102)
    have KK103 := KK102.wr W103 (Or.inl (List.mem_of_getElem? (i := 0) rfl))
    refine own_go st103 ?_
    show own_Fin p e below s (own_QC Z x0 h0 n0) 1 31 (T103.setTop (mkF m 16 #[.val (.ref x0), .val (.int x1)] []))
    refine own_go (fun tgt => XS.aloadN X103.here hx rfl (hb hby own_d9_16) rfl rfl) ?_
    show own_Fin p e below s (own_QC Z x0 h0 n0) 1 31 (T103.setTop (mkF m 17 #[.val (.ref x0), .val (.int x1)] [(.ref x0)]))
    refine own_go (fun tgt => XS.iconst X103.here hx rfl (hb hby own_d9_17)) ?_
    show own_Fin p e below s (own_QC Z x0 h0 n0) 1 31 (T103.setTop (mkF m 18 #[.val (.ref x0), .val (.int x1)] [(.int (0 : Int32)), (.ref x0)]))
    obtain ⟨T104, X104, W104, st104⟩ := own_putF X103 hx hZ rfl hown (hw _ (List.mem_of_getElem? (i := 23) rfl)) F_x0_length_103 E_x0_103 (Or.inl (hw _ (List.mem_of_getElem? (i := 24) rfl))) (hw _ (List.mem_of_getElem? (i := 1) rfl)) (ty := .int) (by decide) rfl rfl (g := (mkF m 18 #[.val (.ref x0), .val (.int x1)] [(.int (0 : Int32)), (.ref x0)])) rfl rfl (hb hby own_d9_18)
    have N104 := Fr.snoc X104 N103 g0
    have E_x0_104 := E_x0_103.wr W104
    have F_x0_bytes_104 := F_x0_bytes_103.other W104 (Or.inr (slot_ne (a0 := a0) (Or.inl (hw _ (List.mem_of_getElem? (i := 13) rfl))) (Or.inl (hw _ (List.mem_of_getElem? (i := 24) rfl))) (by decide) (t := (.array .byte)) (t' := .int) (by decide) (by decide)))
    have F_x0_length_104 := F_x0_length_103.same W104
    have A_b_104 := A_b_103.other W104 hJ.2.2.2.2
    have A_b102_104 := A_b102_103.other W104 (Ne.symm ne_x0_b102)
    have KK104 := KK103.wr W104 (Or.inl (List.mem_of_getElem? (i := 0) rfl))
    refine own_go st104 ?_
    show own_Fin p e below s (own_QC Z x0 h0 n0) 1 31 (T104.setTop (mkF m 21 #[.val (.ref x0), .val (.int x1)] []))
    exact own_ret0 X104 hlk hx hret (hb hby own_d9_21) ⟨rfl, N104, KK104, _, _, _, ⟨E_x0_104, F_x0_bytes_104, F_x0_length_104, A_b102_104, (Ne.symm ne_x0_b102)⟩, by omega, G_b102⟩ (by decide) (by decide)
  · refine own_go (fun tgt => XS.icmpYes X1.here hx rfl (pc0 := 6) (pc' := 16) rfl (hb hby own_d9_6) rfl (flt h6).2.2.2 (by decide) (by decide)) ?_
    show own_Fin p e below s (own_QC Z x0 h0 n0) 1 31 (T1.setTop (mkF m 16 #[.val (.ref x0), .val (.int x1)] []))
    refine own_go (fun tgt => XS.aloadN X1.here hx rfl (hb hby own_d9_16) rfl rfl) ?_
    show own_Fin p e below s (own_QC Z x0 h0 n0) 1 31 (T1.setTop (mkF m 17 #[.val (.ref x0), .val (.int x1)] [(.ref x0)]))
    refine own_go (fun tgt => XS.iconst X1.here hx rfl (hb hby own_d9_17)) ?_
    show own_Fin p e below s (own_QC Z x0 h0 n0) 1 31 (T1.setTop (mkF m 18 #[.val (.ref x0), .val (.int x1)] [(.int (0 : Int32)), (.ref x0)]))
    obtain ⟨T102, X102, W102, st102⟩ := own_putF X1 hx hZ e1 hown (hw _ (List.mem_of_getElem? (i := 23) rfl)) hJ.2.2.1 hJ.1 (Or.inl (hw _ (List.mem_of_getElem? (i := 24) rfl))) (hw _ (List.mem_of_getElem? (i := 1) rfl)) (ty := .int) (by decide) rfl rfl (g := (mkF m 18 #[.val (.ref x0), .val (.int x1)] [(.int (0 : Int32)), (.ref x0)])) rfl rfl (hb hby own_d9_18)
    have N102 := Fr.snoc X102 N0 g0
    have E_x0_102 := hJ.1.wr W102
    have F_x0_bytes_102 := hJ.2.1.other W102 (Or.inr (slot_ne (a0 := a0) (Or.inl (hw _ (List.mem_of_getElem? (i := 13) rfl))) (Or.inl (hw _ (List.mem_of_getElem? (i := 24) rfl))) (by decide) (t := (.array .byte)) (t' := .int) (by decide) (by decide)))
    have F_x0_length_102 := hJ.2.2.1.same W102
    have A_b_102 := hJ.2.2.2.1.other W102 hJ.2.2.2.2
    have KK102 := KK0.wr W102 (Or.inl (List.mem_of_getElem? (i := 0) rfl))
    refine own_go st102 ?_
    show own_Fin p e below s (own_QC Z x0 h0 n0) 1 31 (T102.setTop (mkF m 21 #[.val (.ref x0), .val (.int x1)] []))
    exact own_ret0 X102 hlk hx hret (hb hby own_d9_21) ⟨rfl, N102, KK102, _, _, _, ⟨E_x0_102, F_x0_bytes_102, F_x0_length_102, A_b_102, hJ.2.2.2.2⟩, hz, gb⟩ (by decide) (by decide)
theorem own_clr (l : Launch) (Z : State) (a0 : Array Value) (hw : ∀ d ∈ tables_1, d.before a0 Z = true) (x0 : Addr) (x1 : Int32) (b : Addr) (z : Int32) (k : Int32) (f : Int32 → Int32) (h0 : Heap) (n0 : Nat) (Z0 : n0 ≤ h0.size) (g0 : n0 ≤ x0) (gb : n0 ≤ b) (hJ : own_JB Z h0 x0 b z k f) (hz : z.toInt ≤ 31) (hr : 0 ≤ x1.toInt) : own_Met l Z (⟨"com/example/binlogue/binlogue/json/JsonBuffer", "clear", "(I)V"⟩ : MethodName) prog_78_method_2_code 2 none [] ({ frames := 0, cells := 1, slots := 31, locals := 0 } : Room) #[(.ref x0), (.int x1)] h0 (own_QC Z x0 h0 n0) :=
  own_enter (plainFor_of_name own_pn0) (own_ef9 x0 x1) hw (fun p e s m below meth c T X C hh => own_clr_w X C hh x0 x1 b z k f n0 Z0 g0 gb hJ hz hr)
theorem own_d10_0 : decode prog_78_method_3_code 0 = .ok (.aload_n 0, 1) := by decide +kernel
theorem own_d10_1 : decode prog_78_method_3_code 1 = .ok (.getfield 18, 3) := by decide +kernel
theorem own_d10_4 : decode prog_78_method_3_code 4 = .ok (.ireturn, 1) := by decide +kernel
theorem own_ef10 (x0 : Addr) : ∀ m, entryFrame m #[(.ref x0)] 1 = mkF m 0 #[.val (.ref x0)] [] := fun m => by first | (simp [entryFrame, mkF, argsToLocals, Value.category]; done) | rfl
set_option maxRecDepth 65536 in
set_option maxHeartbeats 40000000 in
theorem own_lng_w {l : Launch} {p : Program} {e : Env} {below : List Frame} {s : State} {m : MethodId} {meth : Method} {c : Code} {Z : State} {a0 args : Array Value} {T : State} {h0 : Heap} (X : Stand p l e ({ frames := 0, cells := 0, slots := 0, locals := 0 } : Room) s m args below meth c T [] 0 0) (C : own_Ctx p s m meth c Z a0 tables_1 (⟨"com/example/binlogue/binlogue/json/JsonBuffer", "length", "()I"⟩ : MethodName) prog_78_method_3_code 1 (some .int)) (hh : T.heap = h0) (x0 : Addr) (k : Int32) (n0 : Nat) (Z0 : n0 ≤ h0.size) (hF : Fld Z h0 x0 "com/example/binlogue/binlogue/json/JsonBuffer" "length" "I" (.int k)) :
    own_Fin p e below s (own_QP (some (.int k)) h0) 0 0 (T.setTop (mkF m 0 #[.val (.ref x0)] [])) := by
  obtain ⟨hx, hby, hml, hZ, hown, hnm, hret, hlk, hw⟩ := id C
  show own_Fin p e below s (own_QP (some (.int k)) h0) 0 0 (T.setTop (mkF m 0 #[.val (.ref x0)] []))
  refine own_go (fun tgt => XS.aloadN X.here hx rfl (hb hby own_d10_0) rfl rfl) ?_
  show own_Fin p e below s (own_QP (some (.int k)) h0) 0 0 (T.setTop (mkF m 1 #[.val (.ref x0)] [(.ref x0)]))
  obtain ⟨T1, X1, e1, st1⟩ := own_getF X hx hZ hh hown (hw _ (List.mem_of_getElem? (i := 23) rfl)) hF (g := (mkF m 1 #[.val (.ref x0)] [(.ref x0)])) rfl rfl (hb hby own_d10_1)
  refine own_go st1 ?_
  show own_Fin p e below s (own_QP (some (.int k)) h0) 0 0 (T1.setTop (mkF m 4 #[.val (.ref x0)] [(.int k)]))
  exact own_ret X1 hlk hx (t := .int) hret rfl (Or.inl ⟨rfl, by simp, _, rfl⟩) (hb hby own_d10_4) ⟨rfl, rfl, e1⟩ (by decide) (by decide)
theorem own_lng (l : Launch) (Z : State) (a0 : Array Value) (hw : ∀ d ∈ tables_1, d.before a0 Z = true) (x0 : Addr) (k : Int32) (h0 : Heap) (n0 : Nat) (Z0 : n0 ≤ h0.size) (hF : Fld Z h0 x0 "com/example/binlogue/binlogue/json/JsonBuffer" "length" "I" (.int k)) : own_Met l Z (⟨"com/example/binlogue/binlogue/json/JsonBuffer", "length", "()I"⟩ : MethodName) prog_78_method_3_code 1 (some .int) [] ({ frames := 0, cells := 0, slots := 0, locals := 0 } : Room) #[(.ref x0)] h0 (own_QP (some (.int k)) h0) :=
  own_enter (plainFor_of_name own_pn0) (own_ef10 x0) hw (fun p e s m below meth c T X C hh => own_lng_w X C hh x0 k n0 Z0 hF)
def own_QT (Z : State) (z k : Int32) (f : Int32 → Int32) (h0 : Heap) (n0 : Nat) (v : Option Value) (h : Heap) (L : List Loc) : Prop := v = some (.ref (Array.size h0)) ∧ Fr n0 L ∧ Keep h0 h [] ∧ own_A Z h (Array.size h0) .byte k (fun j => if j < 0 then 0 else if j < z then f j else 0)
theorem own_d11_0 : decode prog_78_method_10_code 0 = .ok (.aload_n 0, 1) := by decide +kernel
theorem own_d11_1 : decode prog_78_method_10_code 1 = .ok (.getfield 15, 3) := by decide +kernel
theorem own_d11_4 : decode prog_78_method_10_code 4 = .ok (.aload_n 0, 1) := by decide +kernel
theorem own_d11_5 : decode prog_78_method_10_code 5 = .ok (.getfield 18, 3) := by decide +kernel
theorem own_d11_8 : decode prog_78_method_10_code 8 = .ok (.invokestatic 71, 3) := by decide +kernel
theorem own_d11_11 : decode prog_78_method_10_code 11 = .ok (.areturn, 1) := by decide +kernel
theorem own_ef11 (x0 : Addr) : ∀ m, entryFrame m #[(.ref x0)] 1 = mkF m 0 #[.val (.ref x0)] [] := fun m => by first | (simp [entryFrame, mkF, argsToLocals, Value.category]; done) | rfl
set_option maxRecDepth 65536 in
set_option maxHeartbeats 40000000 in
theorem own_tba_w {l : Launch} {p : Program} {e : Env} {below : List Frame} {s : State} {m : MethodId} {meth : Method} {c : Code} {Z : State} {a0 args : Array Value} {T : State} {h0 : Heap} (X : Stand p l e ({ frames := 2, cells := 1, slots := 3, locals := 54 } : Room) s m args below meth c T [] 0 0) (C : own_Ctx p s m meth c Z a0 tables_1 (⟨"com/example/binlogue/binlogue/json/JsonBuffer", "toByteArray", "()[B"⟩ : MethodName) prog_78_method_10_code 1 (some (.array .byte))) (hh : T.heap = h0) (x0 : Addr) (b : Addr) (z : Int32) (k : Int32) (f : Int32 → Int32) (n0 : Nat) (Z0 : n0 ≤ h0.size) (hJ : own_JB Z h0 x0 b z k f) (hk : 0 ≤ k.toInt ∧ k.toInt ≤ 3) :
    own_Fin p e below s (own_QT Z z k f h0 n0) 1 3 (T.setTop (mkF m 0 #[.val (.ref x0)] [])) := by
  obtain ⟨hx, hby, hml, hZ, hown, hnm, hret, hlk, hw⟩ := id C
  show own_Fin p e below s (own_QT Z z k f h0 n0) 1 3 (T.setTop (mkF m 0 #[.val (.ref x0)] []))
  have N0 := Fr.nil n0
  have KK0 : Keep h0 h0 [] := Keep.refl _ _
  refine own_go (fun tgt => XS.aloadN X.here hx rfl (hb hby own_d11_0) rfl rfl) ?_
  show own_Fin p e below s (own_QT Z z k f h0 n0) 1 3 (T.setTop (mkF m 1 #[.val (.ref x0)] [(.ref x0)]))
  obtain ⟨T1, X1, e1, st1⟩ := own_getF X hx hZ hh hown (hw _ (List.mem_of_getElem? (i := 12) rfl)) hJ.2.1 (g := (mkF m 1 #[.val (.ref x0)] [(.ref x0)])) rfl rfl (hb hby own_d11_1)
  refine own_go st1 ?_
  show own_Fin p e below s (own_QT Z z k f h0 n0) 1 3 (T1.setTop (mkF m 4 #[.val (.ref x0)] [(.ref b)]))
  refine own_go (fun tgt => XS.aloadN X1.here hx rfl (hb hby own_d11_4) rfl rfl) ?_
  show own_Fin p e below s (own_QT Z z k f h0 n0) 1 3 (T1.setTop (mkF m 5 #[.val (.ref x0)] [(.ref x0), (.ref b)]))
  obtain ⟨T2, X2, e2, st2⟩ := own_getF X1 hx hZ e1 hown (hw _ (List.mem_of_getElem? (i := 23) rfl)) hJ.2.2.1 (g := (mkF m 5 #[.val (.ref x0)] [(.ref x0), (.ref b)])) rfl rfl (hb hby own_d11_5)
  refine own_go st2 ?_
  show own_Fin p e below s (own_QT Z z k f h0 n0) 1 3 (T2.setTop (mkF m 8 #[.val (.ref x0)] [(.int k), (.ref b)]))
  obtain ⟨T3, b3, X3, E3, g3, A3, st3⟩ := own_copyOf X2 hx hZ e2 hown (hw _ (List.mem_of_getElem? (i := 35) rfl)) (hw _ (List.mem_of_getElem? (i := 36) rfl)) (hw _ (List.mem_of_getElem? (i := 37) rfl)) (hw _ (List.mem_of_getElem? (i := 38) rfl)) (own_htab l hw hZ _) hJ.2.2.2.1 (n := k) (own_nlt 0 (by decide) hk.1) 3 (own_clamp _ 3 (by omega)) (by decide) (by decide) 0 (by decide) (by decide) (by decide) (g := (mkF m 8 #[.val (.ref x0)] [(.int k), (.ref b)])) rfl (by rw [hml]; rfl) rfl (by show 2 * 0 + _ ≤ _; exact Nat.le_of_eq rfl) (hb hby own_d11_8)
  have sz_b3 : Array.size h0 ≤ b3 := by rw [g3]; exact KK0.1
  have G_b3 : n0 ≤ b3 := Nat.le_trans Z0 sz_b3
  have ne_x0_b3 : x0 ≠ b3 := by rw [g3]; exact Nat.ne_of_lt hJ.1.lt
  have ne_b_b3 : b ≠ b3 := by rw [g3]; exact Nat.ne_of_lt hJ.2.2.2.1.lt
  have E_x0_3 := hJ.1.ext E3
  have F_x0_bytes_3 := hJ.2.1.ext E3
  have F_x0_length_3 := hJ.2.2.1.ext E3
  have A_b_3 := hJ.2.2.2.1.ext E3
  have KK3 := KK0.ext E3
  refine own_go st3 ?_
  show own_Fin p e below s (own_QT Z z k f h0 n0) 1 3 (T3.setTop (mkF m 11 #[.val (.ref x0)] [(.ref b3)]))
  exact own_ret X3 hlk hx hret rfl (Or.inr (Or.inr (Or.inr (Or.inr ⟨rfl, rfl, rfl⟩)))) (hb hby own_d11_11) ⟨by rw [g3], N0, KK3, by rw [← g3]; exact A3.toA⟩ (by decide) (by decide)
theorem own_tba (l : Launch) (Z : State) (a0 : Array Value) (hw : ∀ d ∈ tables_1, d.before a0 Z = true) (x0 : Addr) (b : Addr) (z : Int32) (k : Int32) (f : Int32 → Int32) (h0 : Heap) (n0 : Nat) (Z0 : n0 ≤ h0.size) (hJ : own_JB Z h0 x0 b z k f) (hk : 0 ≤ k.toInt ∧ k.toInt ≤ 3) : own_Met l Z (⟨"com/example/binlogue/binlogue/json/JsonBuffer", "toByteArray", "()[B"⟩ : MethodName) prog_78_method_10_code 1 (some (.array .byte)) [] ({ frames := 2, cells := 1, slots := 3, locals := 54 } : Room) #[(.ref x0)] h0 (own_QT Z z k f h0 n0) :=
  own_enter (plainFor_of_name own_pn0) (own_ef11 x0) hw (fun p e s m below meth c T X C hh => own_tba_w X C hh x0 b z k f n0 Z0 hJ hk)
def own_E (x y j : Int32) : Int32 := if j = (1 : Int32) then x.toInt8.toInt32 else y.toInt8.toInt32
theorem own_ef0 (x0 : Int32) (x1 : Int32) (x2 : Int32) (x3 : Int32) (x4 : Int32) (x5 : Int32) : ∀ m, entryFrame m #[(.int x0), (.int x1), (.int x2), (.int x3), (.int x4), (.int x5)] maxLocals = mkF m 0 #[.val (.int x0), .val (.int x1), .val (.int x2), .val (.int x3), .val (.int x4), .val (.int x5), .unset, .unset, .unset, .unset, .unset, .unset, .unset, .unset, .unset] [] := fun m => by first | (simp [entryFrame, mkF, argsToLocals, Value.category, maxLocals]; done) | rfl
theorem own_pd4 : parseMethodDescriptor "(C)V" = some ⟨[.char], none⟩ := by decide +kernel
theorem own_pd5 : parseMethodDescriptor "()I" = some ⟨[], some .int⟩ := by decide +kernel
theorem own_pd6 : parseMethodDescriptor "()[B" = some ⟨[], some (.array .byte)⟩ := by decide +kernel
def own_Q0 (n0 : Nat) (v : Option Value) (h : Heap) (L : List Loc) : Prop := v = some (.int 1) ∧ Fr n0 L
set_option maxRecDepth 65536 in
set_option maxHeartbeats 40000000 in
theorem own_law {l : Launch} {p : Program} {e : Env} {below : List Frame} {s : State} {m : MethodId} {meth : Method} {c : Code} {Z : State} {a0 args : Array Value} {T : State} {h0 : Heap} (X : Stand p l e room_1 s m args below meth c T [] 0 0) (C : own_Ctx p s m meth c Z a0 tables_1 x code maxLocals ret) (hh : T.heap = h0) (x0 : Int32) (x1 : Int32) (x2 : Int32) (x3 : Int32) (x4 : Int32) (x5 : Int32) (n0 : Nat) (Z0 : n0 ≤ h0.size) :
    own_Fin p e below s (own_Q0 n0) room_1.cells room_1.slots (T.setTop (mkF m 0 #[.val (.int x0), .val (.int x1), .val (.int x2), .val (.int x3), .val (.int x4), .val (.int x5), .unset, .unset, .unset, .unset, .unset, .unset, .unset, .unset, .unset] [])) := by
  obtain ⟨hx, hby, hml, hZ, hown, hnm, hret, hlk, hw⟩ := id C
  show own_Fin p e below s (own_Q0 n0) room_1.cells room_1.slots (T.setTop (mkF m 0 #[.val (.int x0), .val (.int x1), .val (.int x2), .val (.int x3), .val (.int x4), .val (.int x5), .unset, .unset, .unset, .unset, .unset, .unset, .unset, .unset, .unset] []))
  have N0 := Fr.nil n0
  have KK0 : Keep h0 h0 [] := Keep.refl _ _
  refine own_go (fun tgt => XS.iloadN X.here hx rfl (hb hby at_0) rfl) ?_
  show own_Fin p e below s (own_Q0 n0) room_1.cells room_1.slots (T.setTop (mkF m 1 #[.val (.int x0), .val (.int x1), .val (.int x2), .val (.int x3), .val (.int x4), .val (.int x5), .unset, .unset, .unset, .unset, .unset, .unset, .unset, .unset, .unset] [(.int x0)]))
  refine own_go (fun tgt => XS.bipush X.here hx rfl (hb hby at_1)) ?_
  show own_Fin p e below s (own_Q0 n0) room_1.cells room_1.slots (T.setTop (mkF m 3 #[.val (.int x0), .val (.int x1), .val (.int x2), .val (.int x3), .val (.int x4), .val (.int x5), .unset, .unset, .unset, .unset, .unset, .unset, .unset, .unset, .unset] [(.int (15 : Int32)), (.int x0)]))
  refine own_go (fun tgt => XS.iand X.here hx rfl (hb hby at_3) rfl) ?_
  show own_Fin p e below s (own_Q0 n0) room_1.cells room_1.slots (T.setTop (mkF m 4 #[.val (.int x0), .val (.int x1), .val (.int x2), .val (.int x3), .val (.int x4), .val (.int x5), .unset, .unset, .unset, .unset, .unset, .unset, .unset, .unset, .unset] [(.int (x0 &&& (15 : Int32)))]))
  refine own_go (fun tgt => XS.istore X.here hx rfl (hb hby at_4) rfl (l' := #[.val (.int x0), .val (.int x1), .val (.int x2), .val (.int x3), .val (.int x4), .val (.int x5), .val (.int (x0 &&& (15 : Int32))), .unset, .unset, .unset, .unset, .unset, .unset, .unset, .unset]) rfl) ?_
  show own_Fin p e below s (own_Q0 n0) room_1.cells room_1.slots (T.setTop (mkF m 6 #[.val (.int x0), .val (.int x1), .val (.int x2), .val (.int x3), .val (.int x4), .val (.int x5), .val (.int (x0 &&& (15 : Int32))), .unset, .unset, .unset, .unset, .unset, .unset, .unset, .unset] []))
  refine own_go (fun tgt => XS.iloadN X.here hx rfl (hb hby at_6) rfl) ?_
  show own_Fin p e below s (own_Q0 n0) room_1.cells room_1.slots (T.setTop (mkF m 7 #[.val (.int x0), .val (.int x1), .val (.int x2), .val (.int x3), .val (.int x4), .val (.int x5), .val (.int (x0 &&& (15 : Int32))), .unset, .unset, .unset, .unset, .unset, .unset, .unset, .unset] [(.int x2)]))
  refine own_go (fun tgt => XS.bipush X.here hx rfl (hb hby at_7)) ?_
  show own_Fin p e below s (own_Q0 n0) room_1.cells room_1.slots (T.setTop (mkF m 9 #[.val (.int x0), .val (.int x1), .val (.int x2), .val (.int x3), .val (.int x4), .val (.int x5), .val (.int (x0 &&& (15 : Int32))), .unset, .unset, .unset, .unset, .unset, .unset, .unset, .unset] [(.int (31 : Int32)), (.int x2)]))
  refine own_go (fun tgt => XS.iand X.here hx rfl (hb hby at_9) rfl) ?_
  show own_Fin p e below s (own_Q0 n0) room_1.cells room_1.slots (T.setTop (mkF m 10 #[.val (.int x0), .val (.int x1), .val (.int x2), .val (.int x3), .val (.int x4), .val (.int x5), .val (.int (x0 &&& (15 : Int32))), .unset, .unset, .unset, .unset, .unset, .unset, .unset, .unset] [(.int (x2 &&& (31 : Int32)))]))
  refine own_go (fun tgt => XS.istore X.here hx rfl (hb hby at_10) rfl (l' := #[.val (.int x0), .val (.int x1), .val (.int x2), .val (.int x3), .val (.int x4), .val (.int x5), .val (.int (x0 &&& (15 : Int32))), .val (.int (x2 &&& (31 : Int32))), .unset, .unset, .unset, .unset, .unset, .unset, .unset]) rfl) ?_
  show own_Fin p e below s (own_Q0 n0) room_1.cells room_1.slots (T.setTop (mkF m 12 #[.val (.int x0), .val (.int x1), .val (.int x2), .val (.int x3), .val (.int x4), .val (.int x5), .val (.int (x0 &&& (15 : Int32))), .val (.int (x2 &&& (31 : Int32))), .unset, .unset, .unset, .unset, .unset, .unset, .unset] []))
  refine own_go (fun tgt => XS.iloadN X.here hx rfl (hb hby at_12) rfl) ?_
  show own_Fin p e below s (own_Q0 n0) room_1.cells room_1.slots (T.setTop (mkF m 13 #[.val (.int x0), .val (.int x1), .val (.int x2), .val (.int x3), .val (.int x4), .val (.int x5), .val (.int (x0 &&& (15 : Int32))), .val (.int (x2 &&& (31 : Int32))), .unset, .unset, .unset, .unset, .unset, .unset, .unset] [(.int x1)]))
  refine own_go (fun tgt => XS.iconst X.here hx rfl (hb hby at_13)) ?_
  show own_Fin p e below s (own_Q0 n0) room_1.cells room_1.slots (T.setTop (mkF m 14 #[.val (.int x0), .val (.int x1), .val (.int x2), .val (.int x3), .val (.int x4), .val (.int x5), .val (.int (x0 &&& (15 : Int32))), .val (.int (x2 &&& (31 : Int32))), .unset, .unset, .unset, .unset, .unset, .unset, .unset] [(.int (3 : Int32)), (.int x1)]))
  refine own_go (fun tgt => XS.iand X.here hx rfl (hb hby at_14) rfl) ?_
  show own_Fin p e below s (own_Q0 n0) room_1.cells room_1.slots (T.setTop (mkF m 15 #[.val (.int x0), .val (.int x1), .val (.int x2), .val (.int x3), .val (.int x4), .val (.int x5), .val (.int (x0 &&& (15 : Int32))), .val (.int (x2 &&& (31 : Int32))), .unset, .unset, .unset, .unset, .unset, .unset, .unset] [(.int (x1 &&& (3 : Int32)))]))
  refine own_go (fun tgt => XS.istore X.here hx rfl (hb hby at_15) rfl (l' := #[.val (.int x0), .val (.int x1), .val (.int x2), .val (.int x3), .val (.int x4), .val (.int x5), .val (.int (x0 &&& (15 : Int32))), .val (.int (x2 &&& (31 : Int32))), .val (.int (x1 &&& (3 : Int32))), .unset, .unset, .unset, .unset, .unset, .unset]) rfl) ?_
  show own_Fin p e below s (own_Q0 n0) room_1.cells room_1.slots (T.setTop (mkF m 17 #[.val (.int x0), .val (.int x1), .val (.int x2), .val (.int x3), .val (.int x4), .val (.int x5), .val (.int (x0 &&& (15 : Int32))), .val (.int (x2 &&& (31 : Int32))), .val (.int (x1 &&& (3 : Int32))), .unset, .unset, .unset, .unset, .unset, .unset] []))
  refine own_go (fun tgt => XS.iload X.here hx rfl (hb hby at_17) rfl) ?_
  show own_Fin p e below s (own_Q0 n0) room_1.cells room_1.slots (T.setTop (mkF m 19 #[.val (.int x0), .val (.int x1), .val (.int x2), .val (.int x3), .val (.int x4), .val (.int x5), .val (.int (x0 &&& (15 : Int32))), .val (.int (x2 &&& (31 : Int32))), .val (.int (x1 &&& (3 : Int32))), .unset, .unset, .unset, .unset, .unset, .unset] [(.int x5)]))
  refine own_go (fun tgt => XS.iconst X.here hx rfl (hb hby at_19)) ?_
  show own_Fin p e below s (own_Q0 n0) room_1.cells room_1.slots (T.setTop (mkF m 20 #[.val (.int x0), .val (.int x1), .val (.int x2), .val (.int x3), .val (.int x4), .val (.int x5), .val (.int (x0 &&& (15 : Int32))), .val (.int (x2 &&& (31 : Int32))), .val (.int (x1 &&& (3 : Int32))), .unset, .unset, .unset, .unset, .unset, .unset] [(.int (3 : Int32)), (.int x5)]))
  refine own_go (fun tgt => XS.iand X.here hx rfl (hb hby at_20) rfl) ?_
  show own_Fin p e below s (own_Q0 n0) room_1.cells room_1.slots (T.setTop (mkF m 21 #[.val (.int x0), .val (.int x1), .val (.int x2), .val (.int x3), .val (.int x4), .val (.int x5), .val (.int (x0 &&& (15 : Int32))), .val (.int (x2 &&& (31 : Int32))), .val (.int (x1 &&& (3 : Int32))), .unset, .unset, .unset, .unset, .unset, .unset] [(.int (x5 &&& (3 : Int32)))]))
  refine own_go (fun tgt => XS.istore X.here hx rfl (hb hby at_21) rfl (l' := #[.val (.int x0), .val (.int x1), .val (.int x2), .val (.int x3), .val (.int x4), .val (.int x5), .val (.int (x0 &&& (15 : Int32))), .val (.int (x2 &&& (31 : Int32))), .val (.int (x1 &&& (3 : Int32))), .val (.int (x5 &&& (3 : Int32))), .unset, .unset, .unset, .unset, .unset]) rfl) ?_
  show own_Fin p e below s (own_Q0 n0) room_1.cells room_1.slots (T.setTop (mkF m 23 #[.val (.int x0), .val (.int x1), .val (.int x2), .val (.int x3), .val (.int x4), .val (.int x5), .val (.int (x0 &&& (15 : Int32))), .val (.int (x2 &&& (31 : Int32))), .val (.int (x1 &&& (3 : Int32))), .val (.int (x5 &&& (3 : Int32))), .unset, .unset, .unset, .unset, .unset] []))
  refine own_go (fun tgt => XS.iloadN X.here hx rfl (hb hby at_23) rfl) ?_
  show own_Fin p e below s (own_Q0 n0) room_1.cells room_1.slots (T.setTop (mkF m 24 #[.val (.int x0), .val (.int x1), .val (.int x2), .val (.int x3), .val (.int x4), .val (.int x5), .val (.int (x0 &&& (15 : Int32))), .val (.int (x2 &&& (31 : Int32))), .val (.int (x1 &&& (3 : Int32))), .val (.int (x5 &&& (3 : Int32))), .unset, .unset, .unset, .unset, .unset] [(.int x3)]))
  refine own_go (fun tgt => XS.bipush X.here hx rfl (hb hby at_24)) ?_
  show own_Fin p e below s (own_Q0 n0) room_1.cells room_1.slots (T.setTop (mkF m 26 #[.val (.int x0), .val (.int x1), .val (.int x2), .val (.int x3), .val (.int x4), .val (.int x5), .val (.int (x0 &&& (15 : Int32))), .val (.int (x2 &&& (31 : Int32))), .val (.int (x1 &&& (3 : Int32))), .val (.int (x5 &&& (3 : Int32))), .unset, .unset, .unset, .unset, .unset] [(.int (127 : Int32)), (.int x3)]))
  refine own_go (fun tgt => XS.iand X.here hx rfl (hb hby at_26) rfl) ?_
  show own_Fin p e below s (own_Q0 n0) room_1.cells room_1.slots (T.setTop (mkF m 27 #[.val (.int x0), .val (.int x1), .val (.int x2), .val (.int x3), .val (.int x4), .val (.int x5), .val (.int (x0 &&& (15 : Int32))), .val (.int (x2 &&& (31 : Int32))), .val (.int (x1 &&& (3 : Int32))), .val (.int (x5 &&& (3 : Int32))), .unset, .unset, .unset, .unset, .unset] [(.int (x3 &&& (127 : Int32)))]))
  refine own_go (fun tgt => XS.i2c X.here hx rfl (hb hby at_27) rfl) ?_
  show own_Fin p e below s (own_Q0 n0) room_1.cells room_1.slots (T.setTop (mkF m 28 #[.val (.int x0), .val (.int x1), .val (.int x2), .val (.int x3), .val (.int x4), .val (.int x5), .val (.int (x0 &&& (15 : Int32))), .val (.int (x2 &&& (31 : Int32))), .val (.int (x1 &&& (3 : Int32))), .val (.int (x5 &&& (3 : Int32))), .unset, .unset, .unset, .unset, .unset] [(.int ((x3 &&& (127 : Int32)).toUInt32.toUInt16.toUInt32.toInt32))]))
  refine own_go (fun tgt => XS.istore X.here hx rfl (hb hby at_28) rfl (l' := #[.val (.int x0), .val (.int x1), .val (.int x2), .val (.int x3), .val (.int x4), .val (.int x5), .val (.int (x0 &&& (15 : Int32))), .val (.int (x2 &&& (31 : Int32))), .val (.int (x1 &&& (3 : Int32))), .val (.int (x5 &&& (3 : Int32))), .val (.int ((x3 &&& (127 : Int32)).toUInt32.toUInt16.toUInt32.toInt32)), .unset, .unset, .unset, .unset]) rfl) ?_
  show own_Fin p e below s (own_Q0 n0) room_1.cells room_1.slots (T.setTop (mkF m 30 #[.val (.int x0), .val (.int x1), .val (.int x2), .val (.int x3), .val (.int x4), .val (.int x5), .val (.int (x0 &&& (15 : Int32))), .val (.int (x2 &&& (31 : Int32))), .val (.int (x1 &&& (3 : Int32))), .val (.int (x5 &&& (3 : Int32))), .val (.int ((x3 &&& (127 : Int32)).toUInt32.toUInt16.toUInt32.toInt32)), .unset, .unset, .unset, .unset] []))
  refine own_go (fun tgt => XS.iload X.here hx rfl (hb hby at_30) rfl) ?_
  show own_Fin p e below s (own_Q0 n0) room_1.cells room_1.slots (T.setTop (mkF m 32 #[.val (.int x0), .val (.int x1), .val (.int x2), .val (.int x3), .val (.int x4), .val (.int x5), .val (.int (x0 &&& (15 : Int32))), .val (.int (x2 &&& (31 : Int32))), .val (.int (x1 &&& (3 : Int32))), .val (.int (x5 &&& (3 : Int32))), .val (.int ((x3 &&& (127 : Int32)).toUInt32.toUInt16.toUInt32.toInt32)), .unset, .unset, .unset, .unset] [(.int x4)]))
  refine own_go (fun tgt => XS.bipush X.here hx rfl (hb hby at_32)) ?_
  show own_Fin p e below s (own_Q0 n0) room_1.cells room_1.slots (T.setTop (mkF m 34 #[.val (.int x0), .val (.int x1), .val (.int x2), .val (.int x3), .val (.int x4), .val (.int x5), .val (.int (x0 &&& (15 : Int32))), .val (.int (x2 &&& (31 : Int32))), .val (.int (x1 &&& (3 : Int32))), .val (.int (x5 &&& (3 : Int32))), .val (.int ((x3 &&& (127 : Int32)).toUInt32.toUInt16.toUInt32.toInt32)), .unset, .unset, .unset, .unset] [(.int (127 : Int32)), (.int x4)]))
  refine own_go (fun tgt => XS.iand X.here hx rfl (hb hby at_34) rfl) ?_
  show own_Fin p e below s (own_Q0 n0) room_1.cells room_1.slots (T.setTop (mkF m 35 #[.val (.int x0), .val (.int x1), .val (.int x2), .val (.int x3), .val (.int x4), .val (.int x5), .val (.int (x0 &&& (15 : Int32))), .val (.int (x2 &&& (31 : Int32))), .val (.int (x1 &&& (3 : Int32))), .val (.int (x5 &&& (3 : Int32))), .val (.int ((x3 &&& (127 : Int32)).toUInt32.toUInt16.toUInt32.toInt32)), .unset, .unset, .unset, .unset] [(.int (x4 &&& (127 : Int32)))]))
  refine own_go (fun tgt => XS.i2c X.here hx rfl (hb hby at_35) rfl) ?_
  show own_Fin p e below s (own_Q0 n0) room_1.cells room_1.slots (T.setTop (mkF m 36 #[.val (.int x0), .val (.int x1), .val (.int x2), .val (.int x3), .val (.int x4), .val (.int x5), .val (.int (x0 &&& (15 : Int32))), .val (.int (x2 &&& (31 : Int32))), .val (.int (x1 &&& (3 : Int32))), .val (.int (x5 &&& (3 : Int32))), .val (.int ((x3 &&& (127 : Int32)).toUInt32.toUInt16.toUInt32.toInt32)), .unset, .unset, .unset, .unset] [(.int ((x4 &&& (127 : Int32)).toUInt32.toUInt16.toUInt32.toInt32))]))
  refine own_go (fun tgt => XS.istore X.here hx rfl (hb hby at_36) rfl (l' := #[.val (.int x0), .val (.int x1), .val (.int x2), .val (.int x3), .val (.int x4), .val (.int x5), .val (.int (x0 &&& (15 : Int32))), .val (.int (x2 &&& (31 : Int32))), .val (.int (x1 &&& (3 : Int32))), .val (.int (x5 &&& (3 : Int32))), .val (.int ((x3 &&& (127 : Int32)).toUInt32.toUInt16.toUInt32.toInt32)), .val (.int ((x4 &&& (127 : Int32)).toUInt32.toUInt16.toUInt32.toInt32)), .unset, .unset, .unset]) rfl) ?_
  show own_Fin p e below s (own_Q0 n0) room_1.cells room_1.slots (T.setTop (mkF m 38 #[.val (.int x0), .val (.int x1), .val (.int x2), .val (.int x3), .val (.int x4), .val (.int x5), .val (.int (x0 &&& (15 : Int32))), .val (.int (x2 &&& (31 : Int32))), .val (.int (x1 &&& (3 : Int32))), .val (.int (x5 &&& (3 : Int32))), .val (.int ((x3 &&& (127 : Int32)).toUInt32.toUInt16.toUInt32.toInt32)), .val (.int ((x4 &&& (127 : Int32)).toUInt32.toUInt16.toUInt32.toInt32)), .unset, .unset, .unset] []))
  have hC := own_maskpos x0 15 4 (by decide) (by decide) 16 (by decide) (by decide)
  generalize (x0 &&& (15 : Int32)) = C0 at hC ⊢
  have hR := own_maskpos x2 31 5 (by decide) (by decide) 32 (by decide) (by decide)
  generalize (x2 &&& (31 : Int32)) = R0 at hR ⊢
  have hP := own_maskpos x1 3 2 (by decide) (by decide) 4 (by decide) (by decide)
  generalize (x1 &&& (3 : Int32)) = P0 at hP ⊢
  have hM := own_maskpos x5 3 2 (by decide) (by decide) 4 (by decide) (by decide)
  generalize (x5 &&& (3 : Int32)) = M0 at hM ⊢
  generalize ((x3 &&& (127 : Int32)).toUInt32.toUInt16.toUInt32.toInt32) = cx
  generalize ((x4 &&& (127 : Int32)).toUInt32.toUInt16.toUInt32.toInt32) = cy
  show own_Fin p e below s (own_Q0 n0) room_1.cells room_1.slots (T.setTop (mkF m 38 #[.val (.int x0), .val (.int x1), .val (.int x2), .val (.int x3), .val (.int x4), .val (.int x5), .val (.int C0), .val (.int R0), .val (.int P0), .val (.int M0), .val (.int cx), .val (.int cy), .unset, .unset, .unset] []))
  obtain ⟨T1, h1, X1, e1, E1, A1, D1, -, st1⟩ := newO X hx hZ hown (hw _ (List.mem_of_getElem? (i := 0) rfl)) (hw _ (List.mem_of_getElem? (i := 1) rfl)) (hw _ (List.mem_of_getElem? (i := 2) rfl)) hh (g := (mkF m 38 #[.val (.int x0), .val (.int x1), .val (.int x2), .val (.int x3), .val (.int x4), .val (.int x5), .val (.int C0), .val (.int R0), .val (.int P0), .val (.int M0), .val (.int cx), .val (.int cy), .unset, .unset, .unset] [])) rfl (hb hby at_38) (by decide) (by decide)
  obtain ⟨b1, g1⟩ : ∃ z, z = Array.size h0 := ⟨_, rfl⟩
  rw [← g1] at A1 D1 st1
  have F1_digits : Fld Z h1 b1 "com/example/binlogue/binlogue/json/JsonBuffer" "digits" "[B" .null := D1 (Or.inr (hw _ (List.mem_of_getElem? (i := 11) rfl))) (ty := (.array .byte)) (by decide)
  have F1_bytes : Fld Z h1 b1 "com/example/binlogue/binlogue/json/JsonBuffer" "bytes" "[B" .null := D1 (Or.inl (hw _ (List.mem_of_getElem? (i := 13) rfl))) (ty := (.array .byte)) (by decide)
  have F1_length : Fld Z h1 b1 "com/example/binlogue/binlogue/json/JsonBuffer" "length" "I" (.int (0 : Int32)) := D1 (Or.inl (hw _ (List.mem_of_getElem? (i := 24) rfl))) (ty := .int) (by decide)
  have sz_b1 : Array.size h0 ≤ b1 := by rw [g1]; exact KK0.1
  have G_b1 : n0 ≤ b1 := Nat.le_trans Z0 sz_b1
  have KK1 := KK0.ext E1
  refine own_go (fun tgt => st1 tgt) ?_
  show own_Fin p e below s (own_Q0 n0) room_1.cells room_1.slots (T1.setTop (mkF m 41 #[.val (.int x0), .val (.int x1), .val (.int x2), .val (.int x3), .val (.int x4), .val (.int x5), .val (.int C0), .val (.int R0), .val (.int P0), .val (.int M0), .val (.int cx), .val (.int cy), .unset, .unset, .unset] [(.ref b1)]))
  refine own_go (fun tgt => XS.dup X1.here hx rfl (hb hby at_41) rfl rfl) ?_
  show own_Fin p e below s (own_Q0 n0) room_1.cells room_1.slots (T1.setTop (mkF m 42 #[.val (.int x0), .val (.int x1), .val (.int x2), .val (.int x3), .val (.int x4), .val (.int x5), .val (.int C0), .val (.int R0), .val (.int P0), .val (.int M0), .val (.int cx), .val (.int cy), .unset, .unset, .unset] [(.ref b1), (.ref b1)]))
  refine own_go (fun tgt => XS.iload X1.here hx rfl (hb hby at_42) rfl) ?_
  show own_Fin p e below s (own_Q0 n0) room_1.cells room_1.slots (T1.setTop (mkF m 44 #[.val (.int x0), .val (.int x1), .val (.int x2), .val (.int x3), .val (.int x4), .val (.int x5), .val (.int C0), .val (.int R0), .val (.int P0), .val (.int M0), .val (.int cx), .val (.int cy), .unset, .unset, .unset] [(.int C0), (.ref b1), (.ref b1)]))
  obtain ⟨_, T2, L2, X2, ⟨rfl, Nq2, K2, b0, f0, J0, gb0⟩, st2⟩ := own_callI X1 hx hZ e1 (y := (⟨"com/example/binlogue/binlogue/json/JsonBuffer", "<init>", "(I)V"⟩ : MethodName)) rfl hown (hw _ (List.mem_of_getElem? (i := 3) rfl)) (hw _ (List.mem_of_getElem? (i := 4) rfl)) (hw _ (List.mem_of_getElem? (i := 2) rfl)) (hw _ (List.mem_of_getElem? (i := 5) rfl)) (by decide) (a := b1) (argsL := [(.int C0)]) (rest := [(.ref b1)]) (own_ini l Z a0 hw b1 C0 h1 n0 (Nat.le_trans Z0 KK1.1) G_b1 A1 F1_digits F1_bytes F1_length (by omega)) (by decide) 1 (by decide) (by decide) (by decide) (g := (mkF m 44 #[.val (.int x0), .val (.int x1), .val (.int x2), .val (.int x3), .val (.int x4), .val (.int x5), .val (.int C0), .val (.int R0), .val (.int P0), .val (.int M0), .val (.int cx), .val (.int cy), .unset, .unset, .unset] [(.int C0), (.ref b1), (.ref b1)])) rfl (by rw [hml]; rfl) (lenOf own_pd3 rfl) rfl (by show 2 * 0 + _ ≤ _; exact Nat.le_of_eq rfl) (hb hby at_44)
  have N2 := Fr.app N0 Nq2
  refine own_go st2 ?_
  show own_Fin p e below s (own_Q0 n0) room_1.cells room_1.slots (T2.setTop (mkF m 47 #[.val (.int x0), .val (.int x1), .val (.int x2), .val (.int x3), .val (.int x4), .val (.int x5), .val (.int C0), .val (.int R0), .val (.int P0), .val (.int M0), .val (.int cx), .val (.int cy), .unset, .unset, .unset] [(.ref b1)]))
  refine own_go (fun tgt => XS.astore X2.here hx rfl (hb hby at_47) rfl rfl (l' := #[.val (.int x0), .val (.int x1), .val (.int x2), .val (.int x3), .val (.int x4), .val (.int x5), .val (.int C0), .val (.int R0), .val (.int P0), .val (.int M0), .val (.int cx), .val (.int cy), .val (.ref b1), .unset, .unset]) rfl) ?_
  show own_Fin p e below s (own_Q0 n0) room_1.cells room_1.slots (T2.setTop (mkF m 49 #[.val (.int x0), .val (.int x1), .val (.int x2), .val (.int x3), .val (.int x4), .val (.int x5), .val (.int C0), .val (.int R0), .val (.int P0), .val (.int M0), .val (.int cx), .val (.int cy), .val (.ref b1), .unset, .unset] []))
  have J147 : ∀ (U : State) (L : List Loc) (b : Addr) (z k : Int32) (f : Int32 → Int32), Stand p l e room_1 s m args below meth c U L 10 93 → Fr n0 L → n0 ≤ b → own_JB Z U.heap b1 b z k f → 0 ≤ k.toInt → k.toInt ≤ z.toInt → z.toInt ≤ 31 → (k.toInt = if M0.toInt ≤ 3 then M0.toInt else 3) → (∀ j : Int32, ¬ j < 0 → j < k → f j = own_E cx cy j) → own_Fin p e below s (own_Q0 n0) room_1.cells room_1.slots (U.setTop (mkF m 147 #[.val (.int x0), .val (.int x1), .val (.int x2), .val (.int x3), .val (.int x4), .val (.int x5), .val (.int C0), .val (.int R0), .val (.int P0), .val (.int M0), .val (.int cx), .val (.int cy), .val (.ref b1), .val (.int (1 : Int32)), .unset] [])) := by
    intro U L b z k f Y N gb hJ hk0 hkz hz hkm hf
    show own_Fin p e below s (own_Q0 n0) room_1.cells room_1.slots (U.setTop (mkF m 147 #[.val (.int x0), .val (.int x1), .val (.int x2), .val (.int x3), .val (.int x4), .val (.int x5), .val (.int C0), .val (.int R0), .val (.int P0), .val (.int M0), .val (.int cx), .val (.int cy), .val (.ref b1), .val (.int (1 : Int32)), .unset] []))
    have ZU : n0 ≤ Array.size U.heap := Nat.le_trans gb (Nat.le_of_lt hJ.2.2.2.1.lt)
    refine own_go (fun tgt => XS.aload Y.here hx rfl (hb hby at_147) rfl rfl) ?_
    show own_Fin p e below s (own_Q0 n0) room_1.cells room_1.slots (U.setTop (mkF m 149 #[.val (.int x0), .val (.int x1), .val (.int x2), .val (.int x3), .val (.int x4), .val (.int x5), .val (.int C0), .val (.int R0), .val (.int P0), .val (.int M0), .val (.int cx), .val (.int cy), .val (.ref b1), .val (.int (1 : Int32)), .unset] [(.ref b1)]))
    have hkM : k = M0 := Int32.toInt_inj.mp (by rw [hkm]; by_cases q : M0.toInt ≤ 3 <;> simp [q] <;> omega)
    obtain ⟨bb, gbb⟩ : ∃ z, z = Array.size U.heap := ⟨_, rfl⟩
    obtain ⟨_, T303j147, L303j147, X303j147, ⟨rfl, Nq303j147, K303j147, A303j147⟩, st303j147⟩ := own_callV Y hx hZ rfl (y := (⟨"com/example/binlogue/binlogue/json/JsonBuffer", "toByteArray", "()[B"⟩ : MethodName)) hown (hw _ (List.mem_of_getElem? (i := 56) rfl)) (hw _ (List.mem_of_getElem? (i := 57) rfl)) (hw _ (List.mem_of_getElem? (i := 59) rfl)) (hw _ (List.mem_of_getElem? (i := 58) rfl)) (hw _ (List.mem_of_getElem? (i := 2) rfl)) (hw _ (List.mem_of_getElem? (i := 60) rfl)) (by decide) (a := b1) hJ.1 (argsL := []) (rest := []) (own_tba l Z a0 hw b1 b z k f _ n0 ZU hJ (by omega)) (by decide) 0 (by decide) (by decide) (by decide) (g := (mkF m 149 #[.val (.int x0), .val (.int x1), .val (.int x2), .val (.int x3), .val (.int x4), .val (.int x5), .val (.int C0), .val (.int R0), .val (.int P0), .val (.int M0), .val (.int cx), .val (.int cy), .val (.ref b1), .val (.int (1 : Int32)), .unset] [(.ref b1)])) rfl (by rw [hml]; rfl) (lenOf own_pd6 rfl) rfl (by show 2 * 0 + _ ≤ _; exact Nat.le_of_eq rfl) (hb hby at_149)
    have N303j147 := Fr.app N Nq303j147
    rw [← gbb] at A303j147 st303j147
    refine own_go st303j147 ?_
    show own_Fin p e below s (own_Q0 n0) room_1.cells room_1.slots (T303j147.setTop (mkF m 152 #[.val (.int x0), .val (.int x1), .val (.int x2), .val (.int x3), .val (.int x4), .val (.int x5), .val (.int C0), .val (.int R0), .val (.int P0), .val (.int M0), .val (.int cx), .val (.int cy), .val (.ref b1), .val (.int (1 : Int32)), .unset] [(.ref bb)]))
    have V : ∀ j : Int32, ¬ j < 0 → j < k → (if j < 0 then (0 : Int32) else if j < z then f j else 0) = own_E cx cy j := fun j h1 h2 => by
      have := own_ltT h2
      rw [if_neg h1, if_pos (own_Tlt (by omega))]; exact hf j h1 h2
    obtain ⟨q, A, hq⟩ : ∃ q, own_A Z T303j147.heap bb .byte k q ∧ ∀ j : Int32, ¬ j < 0 → j < k → q j = own_E cx cy j := ⟨_, A303j147, V⟩
    subst hkM
    show own_Fin p e below s (own_Q0 n0) room_1.cells room_1.slots (T303j147.setTop (mkF m 152 #[.val (.int x0), .val (.int x1), .val (.int x2), .val (.int x3), .val (.int x4), .val (.int x5), .val (.int C0), .val (.int R0), .val (.int P0), .val (.int k), .val (.int cx), .val (.int cy), .val (.ref b1), .val (.int (1 : Int32)), .unset] [(.ref bb)]))
    refine own_go (fun tgt => XS.astore X303j147.here hx rfl (hb hby at_152) rfl rfl (l' := #[.val (.int x0), .val (.int x1), .val (.int x2), .val (.int x3), .val (.int x4), .val (.int x5), .val (.int C0), .val (.int R0), .val (.int P0), .val (.int k), .val (.int cx), .val (.int cy), .val (.ref b1), .val (.int (1 : Int32)), .val (.ref bb)]) rfl) ?_
    show own_Fin p e below s (own_Q0 n0) room_1.cells room_1.slots (T303j147.setTop (mkF m 154 #[.val (.int x0), .val (.int x1), .val (.int x2), .val (.int x3), .val (.int x4), .val (.int x5), .val (.int C0), .val (.int R0), .val (.int P0), .val (.int k), .val (.int cx), .val (.int cy), .val (.ref b1), .val (.int (1 : Int32)), .val (.ref bb)] []))
    refine own_go (fun tgt => XS.iload X303j147.here hx rfl (hb hby at_154) rfl) ?_
    show own_Fin p e below s (own_Q0 n0) room_1.cells room_1.slots (T303j147.setTop (mkF m 156 #[.val (.int x0), .val (.int x1), .val (.int x2), .val (.int x3), .val (.int x4), .val (.int x5), .val (.int C0), .val (.int R0), .val (.int P0), .val (.int k), .val (.int cx), .val (.int cy), .val (.ref b1), .val (.int (1 : Int32)), .val (.ref bb)] [(.int (1 : Int32))]))
    refine own_go (fun tgt => XS.ifNo X303j147.here hx rfl (hb hby at_156) rfl ((if0 _ _).trans (feq (by decide)).1)) ?_
    show own_Fin p e below s (own_Q0 n0) room_1.cells room_1.slots (T303j147.setTop (mkF m 159 #[.val (.int x0), .val (.int x1), .val (.int x2), .val (.int x3), .val (.int x4), .val (.int x5), .val (.int C0), .val (.int R0), .val (.int P0), .val (.int k), .val (.int cx), .val (.int cy), .val (.ref b1), .val (.int (1 : Int32)), .val (.ref bb)] []))
    refine own_go (fun tgt => XS.aload X303j147.here hx rfl (hb hby at_159) rfl rfl) ?_
    show own_Fin p e below s (own_Q0 n0) room_1.cells room_1.slots (T303j147.setTop (mkF m 161 #[.val (.int x0), .val (.int x1), .val (.int x2), .val (.int x3), .val (.int x4), .val (.int x5), .val (.int C0), .val (.int R0), .val (.int P0), .val (.int k), .val (.int cx), .val (.int cy), .val (.ref b1), .val (.int (1 : Int32)), .val (.ref bb)] [(.ref bb)]))
    refine own_go (own_len X303j147 hx hZ rfl A (g := (mkF m 161 #[.val (.int x0), .val (.int x1), .val (.int x2), .val (.int x3), .val (.int x4), .val (.int x5), .val (.int C0), .val (.int R0), .val (.int P0), .val (.int k), .val (.int cx), .val (.int cy), .val (.ref b1), .val (.int (1 : Int32)), .val (.ref bb)] [(.ref bb)])) rfl rfl (hb hby at_161)) ?_
    show own_Fin p e below s (own_Q0 n0) room_1.cells room_1.slots (T303j147.setTop (mkF m 162 #[.val (.int x0), .val (.int x1), .val (.int x2), .val (.int x3), .val (.int x4), .val (.int x5), .val (.int C0), .val (.int R0), .val (.int P0), .val (.int k), .val (.int cx), .val (.int cy), .val (.ref b1), .val (.int (1 : Int32)), .val (.ref bb)] [(.int k)]))
    refine own_go (fun tgt => XS.iload X303j147.here hx rfl (hb hby at_162) rfl) ?_
    show own_Fin p e below s (own_Q0 n0) room_1.cells room_1.slots (T303j147.setTop (mkF m 164 #[.val (.int x0), .val (.int x1), .val (.int x2), .val (.int x3), .val (.int x4), .val (.int x5), .val (.int C0), .val (.int R0), .val (.int P0), .val (.int k), .val (.int cx), .val (.int cy), .val (.ref b1), .val (.int (1 : Int32)), .val (.ref bb)] [(.int k), (.int k)]))
    refine own_go (fun tgt => XS.icmpNo X303j147.here hx rfl (hb hby at_164) rfl (teq rfl).2) ?_
    show own_Fin p e below s (own_Q0 n0) room_1.cells room_1.slots (T303j147.setTop (mkF m 167 #[.val (.int x0), .val (.int x1), .val (.int x2), .val (.int x3), .val (.int x4), .val (.int x5), .val (.int C0), .val (.int R0), .val (.int P0), .val (.int k), .val (.int cx), .val (.int cy), .val (.ref b1), .val (.int (1 : Int32)), .val (.ref bb)] []))
    refine own_go (fun tgt => XS.iconst X303j147.here hx rfl (hb hby at_167)) ?_
    show own_Fin p e below s (own_Q0 n0) room_1.cells room_1.slots (T303j147.setTop (mkF m 168 #[.val (.int x0), .val (.int x1), .val (.int x2), .val (.int x3), .val (.int x4), .val (.int x5), .val (.int C0), .val (.int R0), .val (.int P0), .val (.int k), .val (.int cx), .val (.int cy), .val (.ref b1), .val (.int (1 : Int32)), .val (.ref bb)] [(.int (1 : Int32))]))
    refine own_go (fun tgt => XS.goto X303j147.here hx rfl (pc0 := 168) (pc' := 172) rfl (hb hby at_168) (by decide) (by decide)) ?_
    show own_Fin p e below s (own_Q0 n0) room_1.cells room_1.slots (T303j147.setTop (mkF m 172 #[.val (.int x0), .val (.int x1), .val (.int x2), .val (.int x3), .val (.int x4), .val (.int x5), .val (.int C0), .val (.int R0), .val (.int P0), .val (.int k), .val (.int cx), .val (.int cy), .val (.ref b1), .val (.int (1 : Int32)), .val (.ref bb)] [(.int (1 : Int32))]))
    refine own_go (fun tgt => XS.istore X303j147.here hx rfl (hb hby at_172) rfl (l' := #[.val (.int x0), .val (.int x1), .val (.int x2), .val (.int x3), .val (.int x4), .val (.int x5), .val (.int C0), .val (.int R0), .val (.int P0), .val (.int k), .val (.int cx), .val (.int cy), .val (.ref b1), .val (.int (1 : Int32)), .val (.ref bb)]) rfl) ?_
    show own_Fin p e below s (own_Q0 n0) room_1.cells room_1.slots (T303j147.setTop (mkF m 174 #[.val (.int x0), .val (.int x1), .val (.int x2), .val (.int x3), .val (.int x4), .val (.int x5), .val (.int C0), .val (.int R0), .val (.int P0), .val (.int k), .val (.int cx), .val (.int cy), .val (.ref b1), .val (.int (1 : Int32)), .val (.ref bb)] []))
    refine own_go (fun tgt => XS.iload X303j147.here hx rfl (hb hby at_174) rfl) ?_
    show own_Fin p e below s (own_Q0 n0) room_1.cells room_1.slots (T303j147.setTop (mkF m 176 #[.val (.int x0), .val (.int x1), .val (.int x2), .val (.int x3), .val (.int x4), .val (.int x5), .val (.int C0), .val (.int R0), .val (.int P0), .val (.int k), .val (.int cx), .val (.int cy), .val (.ref b1), .val (.int (1 : Int32)), .val (.ref bb)] [(.int (1 : Int32))]))
    refine own_go (fun tgt => XS.ifNo X303j147.here hx rfl (hb hby at_176) rfl ((if0 _ _).trans (feq (by decide)).1)) ?_
    show own_Fin p e below s (own_Q0 n0) room_1.cells room_1.slots (T303j147.setTop (mkF m 179 #[.val (.int x0), .val (.int x1), .val (.int x2), .val (.int x3), .val (.int x4), .val (.int x5), .val (.int C0), .val (.int R0), .val (.int P0), .val (.int k), .val (.int cx), .val (.int cy), .val (.ref b1), .val (.int (1 : Int32)), .val (.ref bb)] []))
    refine own_go (fun tgt => XS.iload X303j147.here hx rfl (hb hby at_179) rfl) ?_
    show own_Fin p e below s (own_Q0 n0) room_1.cells room_1.slots (T303j147.setTop (mkF m 181 #[.val (.int x0), .val (.int x1), .val (.int x2), .val (.int x3), .val (.int x4), .val (.int x5), .val (.int C0), .val (.int R0), .val (.int P0), .val (.int k), .val (.int cx), .val (.int cy), .val (.ref b1), .val (.int (1 : Int32)), .val (.ref bb)] [(.int k)]))
    by_cases h201 : (0 : Int32) < k
    · refine own_go (fun tgt => XS.ifNo X303j147.here hx rfl (hb hby at_181) rfl ((if0 _ _).trans (tlt h201).2.2.2)) ?_
      show own_Fin p e below s (own_Q0 n0) room_1.cells room_1.slots (T303j147.setTop (mkF m 184 #[.val (.int x0), .val (.int x1), .val (.int x2), .val (.int x3), .val (.int x4), .val (.int x5), .val (.int C0), .val (.int R0), .val (.int P0), .val (.int k), .val (.int cx), .val (.int cy), .val (.ref b1), .val (.int (1 : Int32)), .val (.ref bb)] []))
      refine own_go (fun tgt => XS.aload X303j147.here hx rfl (hb hby at_184) rfl rfl) ?_
      show own_Fin p e below s (own_Q0 n0) room_1.cells room_1.slots (T303j147.setTop (mkF m 186 #[.val (.int x0), .val (.int x1), .val (.int x2), .val (.int x3), .val (.int x4), .val (.int x5), .val (.int C0), .val (.int R0), .val (.int P0), .val (.int k), .val (.int cx), .val (.int cy), .val (.ref b1), .val (.int (1 : Int32)), .val (.ref bb)] [(.ref bb)]))
      refine own_go (fun tgt => XS.iconst X303j147.here hx rfl (hb hby at_186)) ?_
      show own_Fin p e below s (own_Q0 n0) room_1.cells room_1.slots (T303j147.setTop (mkF m 187 #[.val (.int x0), .val (.int x1), .val (.int x2), .val (.int x3), .val (.int x4), .val (.int x5), .val (.int C0), .val (.int R0), .val (.int P0), .val (.int k), .val (.int cx), .val (.int cy), .val (.ref b1), .val (.int (1 : Int32)), .val (.ref bb)] [(.int (0 : Int32)), (.ref bb)]))
      refine own_go (own_ldB X303j147 hx hZ rfl A (j := (0 : Int32)) (by decide) h201 (g := (mkF m 187 #[.val (.int x0), .val (.int x1), .val (.int x2), .val (.int x3), .val (.int x4), .val (.int x5), .val (.int C0), .val (.int R0), .val (.int P0), .val (.int k), .val (.int cx), .val (.int cy), .val (.ref b1), .val (.int (1 : Int32)), .val (.ref bb)] [(.int (0 : Int32)), (.ref bb)])) rfl rfl (hb hby at_187)) ?_
      show own_Fin p e below s (own_Q0 n0) room_1.cells room_1.slots (T303j147.setTop (mkF m 188 #[.val (.int x0), .val (.int x1), .val (.int x2), .val (.int x3), .val (.int x4), .val (.int x5), .val (.int C0), .val (.int R0), .val (.int P0), .val (.int k), .val (.int cx), .val (.int cy), .val (.ref b1), .val (.int (1 : Int32)), .val (.ref bb)] [(.int (q (0 : Int32)))]))
      refine own_go (fun tgt => XS.iload X303j147.here hx rfl (hb hby at_188) rfl) ?_
      show own_Fin p e below s (own_Q0 n0) room_1.cells room_1.slots (T303j147.setTop (mkF m 190 #[.val (.int x0), .val (.int x1), .val (.int x2), .val (.int x3), .val (.int x4), .val (.int x5), .val (.int C0), .val (.int R0), .val (.int P0), .val (.int k), .val (.int cx), .val (.int cy), .val (.ref b1), .val (.int (1 : Int32)), .val (.ref bb)] [(.int cy), (.int (q (0 : Int32)))]))
      refine own_go (fun tgt => XS.i2b X303j147.here hx rfl (hb hby at_190) rfl) ?_
      show own_Fin p e below s (own_Q0 n0) room_1.cells room_1.slots (T303j147.setTop (mkF m 191 #[.val (.int x0), .val (.int x1), .val (.int x2), .val (.int x3), .val (.int x4), .val (.int x5), .val (.int C0), .val (.int R0), .val (.int P0), .val (.int k), .val (.int cx), .val (.int cy), .val (.ref b1), .val (.int (1 : Int32)), .val (.ref bb)] [(.int (cy.toInt8.toInt32)), (.int (q (0 : Int32)))]))
      refine own_go (fun tgt => XS.icmpNo X303j147.here hx rfl (hb hby at_191) rfl (teq (hq (0 : Int32) (by decide) h201)).2) ?_
      show own_Fin p e below s (own_Q0 n0) room_1.cells room_1.slots (T303j147.setTop (mkF m 194 #[.val (.int x0), .val (.int x1), .val (.int x2), .val (.int x3), .val (.int x4), .val (.int x5), .val (.int C0), .val (.int R0), .val (.int P0), .val (.int k), .val (.int cx), .val (.int cy), .val (.ref b1), .val (.int (1 : Int32)), .val (.ref bb)] []))
      refine own_go (fun tgt => XS.iconst X303j147.here hx rfl (hb hby at_194)) ?_
      show own_Fin p e below s (own_Q0 n0) room_1.cells room_1.slots (T303j147.setTop (mkF m 195 #[.val (.int x0), .val (.int x1), .val (.int x2), .val (.int x3), .val (.int x4), .val (.int x5), .val (.int C0), .val (.int R0), .val (.int P0), .val (.int k), .val (.int cx), .val (.int cy), .val (.ref b1), .val (.int (1 : Int32)), .val (.ref bb)] [(.int (1 : Int32))]))
      refine own_go (fun tgt => XS.goto X303j147.here hx rfl (pc0 := 195) (pc' := 199) rfl (hb hby at_195) (by decide) (by decide)) ?_
      show own_Fin p e below s (own_Q0 n0) room_1.cells room_1.slots (T303j147.setTop (mkF m 199 #[.val (.int x0), .val (.int x1), .val (.int x2), .val (.int x3), .val (.int x4), .val (.int x5), .val (.int C0), .val (.int R0), .val (.int P0), .val (.int k), .val (.int cx), .val (.int cy), .val (.ref b1), .val (.int (1 : Int32)), .val (.ref bb)] [(.int (1 : Int32))]))
      refine own_go (fun tgt => XS.istore X303j147.here hx rfl (hb hby at_199) rfl (l' := #[.val (.int x0), .val (.int x1), .val (.int x2), .val (.int x3), .val (.int x4), .val (.int x5), .val (.int C0), .val (.int R0), .val (.int P0), .val (.int k), .val (.int cx), .val (.int cy), .val (.ref b1), .val (.int (1 : Int32)), .val (.ref bb)]) rfl) ?_
      show own_Fin p e below s (own_Q0 n0) room_1.cells room_1.slots (T303j147.setTop (mkF m 201 #[.val (.int x0), .val (.int x1), .val (.int x2), .val (.int x3), .val (.int x4), .val (.int x5), .val (.int C0), .val (.int R0), .val (.int P0), .val (.int k), .val (.int cx), .val (.int cy), .val (.ref b1), .val (.int (1 : Int32)), .val (.ref bb)] []))
      refine own_go (fun tgt => XS.iload X303j147.here hx rfl (hb hby at_201) rfl) ?_
      show own_Fin p e below s (own_Q0 n0) room_1.cells room_1.slots (T303j147.setTop (mkF m 203 #[.val (.int x0), .val (.int x1), .val (.int x2), .val (.int x3), .val (.int x4), .val (.int x5), .val (.int C0), .val (.int R0), .val (.int P0), .val (.int k), .val (.int cx), .val (.int cy), .val (.ref b1), .val (.int (1 : Int32)), .val (.ref bb)] [(.int (1 : Int32))]))
      refine own_go (fun tgt => XS.ifNo X303j147.here hx rfl (hb hby at_203) rfl ((if0 _ _).trans (feq (by decide)).1)) ?_
      show own_Fin p e below s (own_Q0 n0) room_1.cells room_1.slots (T303j147.setTop (mkF m 206 #[.val (.int x0), .val (.int x1), .val (.int x2), .val (.int x3), .val (.int x4), .val (.int x5), .val (.int C0), .val (.int R0), .val (.int P0), .val (.int k), .val (.int cx), .val (.int cy), .val (.ref b1), .val (.int (1 : Int32)), .val (.ref bb)] []))
      refine own_go (fun tgt => XS.iload X303j147.here hx rfl (hb hby at_206) rfl) ?_
      show own_Fin p e below s (own_Q0 n0) room_1.cells room_1.slots (T303j147.setTop (mkF m 208 #[.val (.int x0), .val (.int x1), .val (.int x2), .val (.int x3), .val (.int x4), .val (.int x5), .val (.int C0), .val (.int R0), .val (.int P0), .val (.int k), .val (.int cx), .val (.int cy), .val (.ref b1), .val (.int (1 : Int32)), .val (.ref bb)] [(.int k)]))
      refine own_go (fun tgt => XS.iconst X303j147.here hx rfl (hb hby at_208)) ?_
      show own_Fin p e below s (own_Q0 n0) room_1.cells room_1.slots (T303j147.setTop (mkF m 209 #[.val (.int x0), .val (.int x1), .val (.int x2), .val (.int x3), .val (.int x4), .val (.int x5), .val (.int C0), .val (.int R0), .val (.int P0), .val (.int k), .val (.int cx), .val (.int cy), .val (.ref b1), .val (.int (1 : Int32)), .val (.ref bb)] [(.int (1 : Int32)), (.int k)]))
      by_cases h229 : (1 : Int32) < k
      · refine own_go (fun tgt => XS.icmpNo X303j147.here hx rfl (hb hby at_209) rfl (tlt h229).2.2.2) ?_
        show own_Fin p e below s (own_Q0 n0) room_1.cells room_1.slots (T303j147.setTop (mkF m 212 #[.val (.int x0), .val (.int x1), .val (.int x2), .val (.int x3), .val (.int x4), .val (.int x5), .val (.int C0), .val (.int R0), .val (.int P0), .val (.int k), .val (.int cx), .val (.int cy), .val (.ref b1), .val (.int (1 : Int32)), .val (.ref bb)] []))
        refine own_go (fun tgt => XS.aload X303j147.here hx rfl (hb hby at_212) rfl rfl) ?_
        show own_Fin p e below s (own_Q0 n0) room_1.cells room_1.slots (T303j147.setTop (mkF m 214 #[.val (.int x0), .val (.int x1), .val (.int x2), .val (.int x3), .val (.int x4), .val (.int x5), .val (.int C0), .val (.int R0), .val (.int P0), .val (.int k), .val (.int cx), .val (.int cy), .val (.ref b1), .val (.int (1 : Int32)), .val (.ref bb)] [(.ref bb)]))
        refine own_go (fun tgt => XS.iconst X303j147.here hx rfl (hb hby at_214)) ?_
        show own_Fin p e below s (own_Q0 n0) room_1.cells room_1.slots (T303j147.setTop (mkF m 215 #[.val (.int x0), .val (.int x1), .val (.int x2), .val (.int x3), .val (.int x4), .val (.int x5), .val (.int C0), .val (.int R0), .val (.int P0), .val (.int k), .val (.int cx), .val (.int cy), .val (.ref b1), .val (.int (1 : Int32)), .val (.ref bb)] [(.int (1 : Int32)), (.ref bb)]))
        refine own_go (own_ldB X303j147 hx hZ rfl A (j := (1 : Int32)) (by decide) h229 (g := (mkF m 215 #[.val (.int x0), .val (.int x1), .val (.int x2), .val (.int x3), .val (.int x4), .val (.int x5), .val (.int C0), .val (.int R0), .val (.int P0), .val (.int k), .val (.int cx), .val (.int cy), .val (.ref b1), .val (.int (1 : Int32)), .val (.ref bb)] [(.int (1 : Int32)), (.ref bb)])) rfl rfl (hb hby at_215)) ?_
        show own_Fin p e below s (own_Q0 n0) room_1.cells room_1.slots (T303j147.setTop (mkF m 216 #[.val (.int x0), .val (.int x1), .val (.int x2), .val (.int x3), .val (.int x4), .val (.int x5), .val (.int C0), .val (.int R0), .val (.int P0), .val (.int k), .val (.int cx), .val (.int cy), .val (.ref b1), .val (.int (1 : Int32)), .val (.ref bb)] [(.int (q (1 : Int32)))]))
        refine own_go (fun tgt => XS.iload X303j147.here hx rfl (hb hby at_216) rfl) ?_
        show own_Fin p e below s (own_Q0 n0) room_1.cells room_1.slots (T303j147.setTop (mkF m 218 #[.val (.int x0), .val (.int x1), .val (.int x2), .val (.int x3), .val (.int x4), .val (.int x5), .val (.int C0), .val (.int R0), .val (.int P0), .val (.int k), .val (.int cx), .val (.int cy), .val (.ref b1), .val (.int (1 : Int32)), .val (.ref bb)] [(.int cx), (.int (q (1 : Int32)))]))
        refine own_go (fun tgt => XS.i2b X303j147.here hx rfl (hb hby at_218) rfl) ?_
        show own_Fin p e below s (own_Q0 n0) room_1.cells room_1.slots (T303j147.setTop (mkF m 219 #[.val (.int x0), .val (.int x1), .val (.int x2), .val (.int x3), .val (.int x4), .val (.int x5), .val (.int C0), .val (.int R0), .val (.int P0), .val (.int k), .val (.int cx), .val (.int cy), .val (.ref b1), .val (.int (1 : Int32)), .val (.ref bb)] [(.int (cx.toInt8.toInt32)), (.int (q (1 : Int32)))]))
        refine own_go (fun tgt => XS.icmpNo X303j147.here hx rfl (hb hby at_219) rfl (teq (hq (1 : Int32) (by decide) h229)).2) ?_
        show own_Fin p e below s (own_Q0 n0) room_1.cells room_1.slots (T303j147.setTop (mkF m 222 #[.val (.int x0), .val (.int x1), .val (.int x2), .val (.int x3), .val (.int x4), .val (.int x5), .val (.int C0), .val (.int R0), .val (.int P0), .val (.int k), .val (.int cx), .val (.int cy), .val (.ref b1), .val (.int (1 : Int32)), .val (.ref bb)] []))
        refine own_go (fun tgt => XS.iconst X303j147.here hx rfl (hb hby at_222)) ?_
        show own_Fin p e below s (own_Q0 n0) room_1.cells room_1.slots (T303j147.setTop (mkF m 223 #[.val (.int x0), .val (.int x1), .val (.int x2), .val (.int x3), .val (.int x4), .val (.int x5), .val (.int C0), .val (.int R0), .val (.int P0), .val (.int k), .val (.int cx), .val (.int cy), .val (.ref b1), .val (.int (1 : Int32)), .val (.ref bb)] [(.int (1 : Int32))]))
        refine own_go (fun tgt => XS.goto X303j147.here hx rfl (pc0 := 223) (pc' := 227) rfl (hb hby at_223) (by decide) (by decide)) ?_
        show own_Fin p e below s (own_Q0 n0) room_1.cells room_1.slots (T303j147.setTop (mkF m 227 #[.val (.int x0), .val (.int x1), .val (.int x2), .val (.int x3), .val (.int x4), .val (.int x5), .val (.int C0), .val (.int R0), .val (.int P0), .val (.int k), .val (.int cx), .val (.int cy), .val (.ref b1), .val (.int (1 : Int32)), .val (.ref bb)] [(.int (1 : Int32))]))
        refine own_go (fun tgt => XS.istore X303j147.here hx rfl (hb hby at_227) rfl (l' := #[.val (.int x0), .val (.int x1), .val (.int x2), .val (.int x3), .val (.int x4), .val (.int x5), .val (.int C0), .val (.int R0), .val (.int P0), .val (.int k), .val (.int cx), .val (.int cy), .val (.ref b1), .val (.int (1 : Int32)), .val (.ref bb)]) rfl) ?_
        show own_Fin p e below s (own_Q0 n0) room_1.cells room_1.slots (T303j147.setTop (mkF m 229 #[.val (.int x0), .val (.int x1), .val (.int x2), .val (.int x3), .val (.int x4), .val (.int x5), .val (.int C0), .val (.int R0), .val (.int P0), .val (.int k), .val (.int cx), .val (.int cy), .val (.ref b1), .val (.int (1 : Int32)), .val (.ref bb)] []))
        refine own_go (fun tgt => XS.iload X303j147.here hx rfl (hb hby at_229) rfl) ?_
        show own_Fin p e below s (own_Q0 n0) room_1.cells room_1.slots (T303j147.setTop (mkF m 231 #[.val (.int x0), .val (.int x1), .val (.int x2), .val (.int x3), .val (.int x4), .val (.int x5), .val (.int C0), .val (.int R0), .val (.int P0), .val (.int k), .val (.int cx), .val (.int cy), .val (.ref b1), .val (.int (1 : Int32)), .val (.ref bb)] [(.int (1 : Int32))]))
        refine own_go (fun tgt => XS.ifNo X303j147.here hx rfl (hb hby at_231) rfl ((if0 _ _).trans (feq (by decide)).1)) ?_
        show own_Fin p e below s (own_Q0 n0) room_1.cells room_1.slots (T303j147.setTop (mkF m 234 #[.val (.int x0), .val (.int x1), .val (.int x2), .val (.int x3), .val (.int x4), .val (.int x5), .val (.int C0), .val (.int R0), .val (.int P0), .val (.int k), .val (.int cx), .val (.int cy), .val (.ref b1), .val (.int (1 : Int32)), .val (.ref bb)] []))
        refine own_go (fun tgt => XS.iload X303j147.here hx rfl (hb hby at_234) rfl) ?_
        show own_Fin p e below s (own_Q0 n0) room_1.cells room_1.slots (T303j147.setTop (mkF m 236 #[.val (.int x0), .val (.int x1), .val (.int x2), .val (.int x3), .val (.int x4), .val (.int x5), .val (.int C0), .val (.int R0), .val (.int P0), .val (.int k), .val (.int cx), .val (.int cy), .val (.ref b1), .val (.int (1 : Int32)), .val (.ref bb)] [(.int k)]))
        refine own_go (fun tgt => XS.iconst X303j147.here hx rfl (hb hby at_236)) ?_
        show own_Fin p e below s (own_Q0 n0) room_1.cells room_1.slots (T303j147.setTop (mkF m 237 #[.val (.int x0), .val (.int x1), .val (.int x2), .val (.int x3), .val (.int x4), .val (.int x5), .val (.int C0), .val (.int R0), .val (.int P0), .val (.int k), .val (.int cx), .val (.int cy), .val (.ref b1), .val (.int (1 : Int32)), .val (.ref bb)] [(.int (2 : Int32)), (.int k)]))
        by_cases h257 : (2 : Int32) < k
        · refine own_go (fun tgt => XS.icmpNo X303j147.here hx rfl (hb hby at_237) rfl (tlt h257).2.2.2) ?_
          show own_Fin p e below s (own_Q0 n0) room_1.cells room_1.slots (T303j147.setTop (mkF m 240 #[.val (.int x0), .val (.int x1), .val (.int x2), .val (.int x3), .val (.int x4), .val (.int x5), .val (.int C0), .val (.int R0), .val (.int P0), .val (.int k), .val (.int cx), .val (.int cy), .val (.ref b1), .val (.int (1 : Int32)), .val (.ref bb)] []))
          refine own_go (fun tgt => XS.aload X303j147.here hx rfl (hb hby at_240) rfl rfl) ?_
          show own_Fin p e below s (own_Q0 n0) room_1.cells room_1.slots (T303j147.setTop (mkF m 242 #[.val (.int x0), .val (.int x1), .val (.int x2), .val (.int x3), .val (.int x4), .val (.int x5), .val (.int C0), .val (.int R0), .val (.int P0), .val (.int k), .val (.int cx), .val (.int cy), .val (.ref b1), .val (.int (1 : Int32)), .val (.ref bb)] [(.ref bb)]))
          refine own_go (fun tgt => XS.iconst X303j147.here hx rfl (hb hby at_242)) ?_
          show own_Fin p e below s (own_Q0 n0) room_1.cells room_1.slots (T303j147.setTop (mkF m 243 #[.val (.int x0), .val (.int x1), .val (.int x2), .val (.int x3), .val (.int x4), .val (.int x5), .val (.int C0), .val (.int R0), .val (.int P0), .val (.int k), .val (.int cx), .val (.int cy), .val (.ref b1), .val (.int (1 : Int32)), .val (.ref bb)] [(.int (2 : Int32)), (.ref bb)]))
          refine own_go (own_ldB X303j147 hx hZ rfl A (j := (2 : Int32)) (by decide) h257 (g := (mkF m 243 #[.val (.int x0), .val (.int x1), .val (.int x2), .val (.int x3), .val (.int x4), .val (.int x5), .val (.int C0), .val (.int R0), .val (.int P0), .val (.int k), .val (.int cx), .val (.int cy), .val (.ref b1), .val (.int (1 : Int32)), .val (.ref bb)] [(.int (2 : Int32)), (.ref bb)])) rfl rfl (hb hby at_243)) ?_
          show own_Fin p e below s (own_Q0 n0) room_1.cells room_1.slots (T303j147.setTop (mkF m 244 #[.val (.int x0), .val (.int x1), .val (.int x2), .val (.int x3), .val (.int x4), .val (.int x5), .val (.int C0), .val (.int R0), .val (.int P0), .val (.int k), .val (.int cx), .val (.int cy), .val (.ref b1), .val (.int (1 : Int32)), .val (.ref bb)] [(.int (q (2 : Int32)))]))
          refine own_go (fun tgt => XS.iload X303j147.here hx rfl (hb hby at_244) rfl) ?_
          show own_Fin p e below s (own_Q0 n0) room_1.cells room_1.slots (T303j147.setTop (mkF m 246 #[.val (.int x0), .val (.int x1), .val (.int x2), .val (.int x3), .val (.int x4), .val (.int x5), .val (.int C0), .val (.int R0), .val (.int P0), .val (.int k), .val (.int cx), .val (.int cy), .val (.ref b1), .val (.int (1 : Int32)), .val (.ref bb)] [(.int cy), (.int (q (2 : Int32)))]))
          refine own_go (fun tgt => XS.i2b X303j147.here hx rfl (hb hby at_246) rfl) ?_
          show own_Fin p e below s (own_Q0 n0) room_1.cells room_1.slots (T303j147.setTop (mkF m 247 #[.val (.int x0), .val (.int x1), .val (.int x2), .val (.int x3), .val (.int x4), .val (.int x5), .val (.int C0), .val (.int R0), .val (.int P0), .val (.int k), .val (.int cx), .val (.int cy), .val (.ref b1), .val (.int (1 : Int32)), .val (.ref bb)] [(.int (cy.toInt8.toInt32)), (.int (q (2 : Int32)))]))
          refine own_go (fun tgt => XS.icmpNo X303j147.here hx rfl (hb hby at_247) rfl (teq (hq (2 : Int32) (by decide) h257)).2) ?_
          show own_Fin p e below s (own_Q0 n0) room_1.cells room_1.slots (T303j147.setTop (mkF m 250 #[.val (.int x0), .val (.int x1), .val (.int x2), .val (.int x3), .val (.int x4), .val (.int x5), .val (.int C0), .val (.int R0), .val (.int P0), .val (.int k), .val (.int cx), .val (.int cy), .val (.ref b1), .val (.int (1 : Int32)), .val (.ref bb)] []))
          refine own_go (fun tgt => XS.iconst X303j147.here hx rfl (hb hby at_250)) ?_
          show own_Fin p e below s (own_Q0 n0) room_1.cells room_1.slots (T303j147.setTop (mkF m 251 #[.val (.int x0), .val (.int x1), .val (.int x2), .val (.int x3), .val (.int x4), .val (.int x5), .val (.int C0), .val (.int R0), .val (.int P0), .val (.int k), .val (.int cx), .val (.int cy), .val (.ref b1), .val (.int (1 : Int32)), .val (.ref bb)] [(.int (1 : Int32))]))
          refine own_go (fun tgt => XS.goto X303j147.here hx rfl (pc0 := 251) (pc' := 255) rfl (hb hby at_251) (by decide) (by decide)) ?_
          show own_Fin p e below s (own_Q0 n0) room_1.cells room_1.slots (T303j147.setTop (mkF m 255 #[.val (.int x0), .val (.int x1), .val (.int x2), .val (.int x3), .val (.int x4), .val (.int x5), .val (.int C0), .val (.int R0), .val (.int P0), .val (.int k), .val (.int cx), .val (.int cy), .val (.ref b1), .val (.int (1 : Int32)), .val (.ref bb)] [(.int (1 : Int32))]))
          refine own_go (fun tgt => XS.istore X303j147.here hx rfl (hb hby at_255) rfl (l' := #[.val (.int x0), .val (.int x1), .val (.int x2), .val (.int x3), .val (.int x4), .val (.int x5), .val (.int C0), .val (.int R0), .val (.int P0), .val (.int k), .val (.int cx), .val (.int cy), .val (.ref b1), .val (.int (1 : Int32)), .val (.ref bb)]) rfl) ?_
          show own_Fin p e below s (own_Q0 n0) room_1.cells room_1.slots (T303j147.setTop (mkF m 257 #[.val (.int x0), .val (.int x1), .val (.int x2), .val (.int x3), .val (.int x4), .val (.int x5), .val (.int C0), .val (.int R0), .val (.int P0), .val (.int k), .val (.int cx), .val (.int cy), .val (.ref b1), .val (.int (1 : Int32)), .val (.ref bb)] []))
          refine own_go (fun tgt => XS.iload X303j147.here hx rfl (hb hby at_257) rfl) ?_
          show own_Fin p e below s (own_Q0 n0) room_1.cells room_1.slots (T303j147.setTop (mkF m 259 #[.val (.int x0), .val (.int x1), .val (.int x2), .val (.int x3), .val (.int x4), .val (.int x5), .val (.int C0), .val (.int R0), .val (.int P0), .val (.int k), .val (.int cx), .val (.int cy), .val (.ref b1), .val (.int (1 : Int32)), .val (.ref bb)] [(.int (1 : Int32))]))
          exact own_ret X303j147 hlk hx (t := .boolean) hret rfl (Or.inl ⟨rfl, by simp, _, rfl⟩) (hb hby at_259) ⟨rfl, N303j147⟩ (by decide) (by decide)
        · refine own_go (fun tgt => XS.icmpYes X303j147.here hx rfl (pc0 := 237) (pc' := 257) rfl (hb hby at_237) rfl (flt h257).2.2.2 (by decide) (by decide)) ?_
          show own_Fin p e below s (own_Q0 n0) room_1.cells room_1.slots (T303j147.setTop (mkF m 257 #[.val (.int x0), .val (.int x1), .val (.int x2), .val (.int x3), .val (.int x4), .val (.int x5), .val (.int C0), .val (.int R0), .val (.int P0), .val (.int k), .val (.int cx), .val (.int cy), .val (.ref b1), .val (.int (1 : Int32)), .val (.ref bb)] []))
          refine own_go (fun tgt => XS.iload X303j147.here hx rfl (hb hby at_257) rfl) ?_
          show own_Fin p e below s (own_Q0 n0) room_1.cells room_1.slots (T303j147.setTop (mkF m 259 #[.val (.int x0), .val (.int x1), .val (.int x2), .val (.int x3), .val (.int x4), .val (.int x5), .val (.int C0), .val (.int R0), .val (.int P0), .val (.int k), .val (.int cx), .val (.int cy), .val (.ref b1), .val (.int (1 : Int32)), .val (.ref bb)] [(.int (1 : Int32))]))
          exact own_ret X303j147 hlk hx (t := .boolean) hret rfl (Or.inl ⟨rfl, by simp, _, rfl⟩) (hb hby at_259) ⟨rfl, N303j147⟩ (by decide) (by decide)
      · refine own_go (fun tgt => XS.icmpYes X303j147.here hx rfl (pc0 := 209) (pc' := 229) rfl (hb hby at_209) rfl (flt h229).2.2.2 (by decide) (by decide)) ?_
        show own_Fin p e below s (own_Q0 n0) room_1.cells room_1.slots (T303j147.setTop (mkF m 229 #[.val (.int x0), .val (.int x1), .val (.int x2), .val (.int x3), .val (.int x4), .val (.int x5), .val (.int C0), .val (.int R0), .val (.int P0), .val (.int k), .val (.int cx), .val (.int cy), .val (.ref b1), .val (.int (1 : Int32)), .val (.ref bb)] []))
        refine own_go (fun tgt => XS.iload X303j147.here hx rfl (hb hby at_229) rfl) ?_
        show own_Fin p e below s (own_Q0 n0) room_1.cells room_1.slots (T303j147.setTop (mkF m 231 #[.val (.int x0), .val (.int x1), .val (.int x2), .val (.int x3), .val (.int x4), .val (.int x5), .val (.int C0), .val (.int R0), .val (.int P0), .val (.int k), .val (.int cx), .val (.int cy), .val (.ref b1), .val (.int (1 : Int32)), .val (.ref bb)] [(.int (1 : Int32))]))
        refine own_go (fun tgt => XS.ifNo X303j147.here hx rfl (hb hby at_231) rfl ((if0 _ _).trans (feq (by decide)).1)) ?_
        show own_Fin p e below s (own_Q0 n0) room_1.cells room_1.slots (T303j147.setTop (mkF m 234 #[.val (.int x0), .val (.int x1), .val (.int x2), .val (.int x3), .val (.int x4), .val (.int x5), .val (.int C0), .val (.int R0), .val (.int P0), .val (.int k), .val (.int cx), .val (.int cy), .val (.ref b1), .val (.int (1 : Int32)), .val (.ref bb)] []))
        refine own_go (fun tgt => XS.iload X303j147.here hx rfl (hb hby at_234) rfl) ?_
        show own_Fin p e below s (own_Q0 n0) room_1.cells room_1.slots (T303j147.setTop (mkF m 236 #[.val (.int x0), .val (.int x1), .val (.int x2), .val (.int x3), .val (.int x4), .val (.int x5), .val (.int C0), .val (.int R0), .val (.int P0), .val (.int k), .val (.int cx), .val (.int cy), .val (.ref b1), .val (.int (1 : Int32)), .val (.ref bb)] [(.int k)]))
        refine own_go (fun tgt => XS.iconst X303j147.here hx rfl (hb hby at_236)) ?_
        show own_Fin p e below s (own_Q0 n0) room_1.cells room_1.slots (T303j147.setTop (mkF m 237 #[.val (.int x0), .val (.int x1), .val (.int x2), .val (.int x3), .val (.int x4), .val (.int x5), .val (.int C0), .val (.int R0), .val (.int P0), .val (.int k), .val (.int cx), .val (.int cy), .val (.ref b1), .val (.int (1 : Int32)), .val (.ref bb)] [(.int (2 : Int32)), (.int k)]))
        by_cases h257 : (2 : Int32) < k
        · refine own_go (fun tgt => XS.icmpNo X303j147.here hx rfl (hb hby at_237) rfl (tlt h257).2.2.2) ?_
          show own_Fin p e below s (own_Q0 n0) room_1.cells room_1.slots (T303j147.setTop (mkF m 240 #[.val (.int x0), .val (.int x1), .val (.int x2), .val (.int x3), .val (.int x4), .val (.int x5), .val (.int C0), .val (.int R0), .val (.int P0), .val (.int k), .val (.int cx), .val (.int cy), .val (.ref b1), .val (.int (1 : Int32)), .val (.ref bb)] []))
          refine own_go (fun tgt => XS.aload X303j147.here hx rfl (hb hby at_240) rfl rfl) ?_
          show own_Fin p e below s (own_Q0 n0) room_1.cells room_1.slots (T303j147.setTop (mkF m 242 #[.val (.int x0), .val (.int x1), .val (.int x2), .val (.int x3), .val (.int x4), .val (.int x5), .val (.int C0), .val (.int R0), .val (.int P0), .val (.int k), .val (.int cx), .val (.int cy), .val (.ref b1), .val (.int (1 : Int32)), .val (.ref bb)] [(.ref bb)]))
          refine own_go (fun tgt => XS.iconst X303j147.here hx rfl (hb hby at_242)) ?_
          show own_Fin p e below s (own_Q0 n0) room_1.cells room_1.slots (T303j147.setTop (mkF m 243 #[.val (.int x0), .val (.int x1), .val (.int x2), .val (.int x3), .val (.int x4), .val (.int x5), .val (.int C0), .val (.int R0), .val (.int P0), .val (.int k), .val (.int cx), .val (.int cy), .val (.ref b1), .val (.int (1 : Int32)), .val (.ref bb)] [(.int (2 : Int32)), (.ref bb)]))
          refine own_go (own_ldB X303j147 hx hZ rfl A (j := (2 : Int32)) (by decide) h257 (g := (mkF m 243 #[.val (.int x0), .val (.int x1), .val (.int x2), .val (.int x3), .val (.int x4), .val (.int x5), .val (.int C0), .val (.int R0), .val (.int P0), .val (.int k), .val (.int cx), .val (.int cy), .val (.ref b1), .val (.int (1 : Int32)), .val (.ref bb)] [(.int (2 : Int32)), (.ref bb)])) rfl rfl (hb hby at_243)) ?_
          show own_Fin p e below s (own_Q0 n0) room_1.cells room_1.slots (T303j147.setTop (mkF m 244 #[.val (.int x0), .val (.int x1), .val (.int x2), .val (.int x3), .val (.int x4), .val (.int x5), .val (.int C0), .val (.int R0), .val (.int P0), .val (.int k), .val (.int cx), .val (.int cy), .val (.ref b1), .val (.int (1 : Int32)), .val (.ref bb)] [(.int (q (2 : Int32)))]))
          refine own_go (fun tgt => XS.iload X303j147.here hx rfl (hb hby at_244) rfl) ?_
          show own_Fin p e below s (own_Q0 n0) room_1.cells room_1.slots (T303j147.setTop (mkF m 246 #[.val (.int x0), .val (.int x1), .val (.int x2), .val (.int x3), .val (.int x4), .val (.int x5), .val (.int C0), .val (.int R0), .val (.int P0), .val (.int k), .val (.int cx), .val (.int cy), .val (.ref b1), .val (.int (1 : Int32)), .val (.ref bb)] [(.int cy), (.int (q (2 : Int32)))]))
          refine own_go (fun tgt => XS.i2b X303j147.here hx rfl (hb hby at_246) rfl) ?_
          show own_Fin p e below s (own_Q0 n0) room_1.cells room_1.slots (T303j147.setTop (mkF m 247 #[.val (.int x0), .val (.int x1), .val (.int x2), .val (.int x3), .val (.int x4), .val (.int x5), .val (.int C0), .val (.int R0), .val (.int P0), .val (.int k), .val (.int cx), .val (.int cy), .val (.ref b1), .val (.int (1 : Int32)), .val (.ref bb)] [(.int (cy.toInt8.toInt32)), (.int (q (2 : Int32)))]))
          refine own_go (fun tgt => XS.icmpNo X303j147.here hx rfl (hb hby at_247) rfl (teq (hq (2 : Int32) (by decide) h257)).2) ?_
          show own_Fin p e below s (own_Q0 n0) room_1.cells room_1.slots (T303j147.setTop (mkF m 250 #[.val (.int x0), .val (.int x1), .val (.int x2), .val (.int x3), .val (.int x4), .val (.int x5), .val (.int C0), .val (.int R0), .val (.int P0), .val (.int k), .val (.int cx), .val (.int cy), .val (.ref b1), .val (.int (1 : Int32)), .val (.ref bb)] []))
          refine own_go (fun tgt => XS.iconst X303j147.here hx rfl (hb hby at_250)) ?_
          show own_Fin p e below s (own_Q0 n0) room_1.cells room_1.slots (T303j147.setTop (mkF m 251 #[.val (.int x0), .val (.int x1), .val (.int x2), .val (.int x3), .val (.int x4), .val (.int x5), .val (.int C0), .val (.int R0), .val (.int P0), .val (.int k), .val (.int cx), .val (.int cy), .val (.ref b1), .val (.int (1 : Int32)), .val (.ref bb)] [(.int (1 : Int32))]))
          refine own_go (fun tgt => XS.goto X303j147.here hx rfl (pc0 := 251) (pc' := 255) rfl (hb hby at_251) (by decide) (by decide)) ?_
          show own_Fin p e below s (own_Q0 n0) room_1.cells room_1.slots (T303j147.setTop (mkF m 255 #[.val (.int x0), .val (.int x1), .val (.int x2), .val (.int x3), .val (.int x4), .val (.int x5), .val (.int C0), .val (.int R0), .val (.int P0), .val (.int k), .val (.int cx), .val (.int cy), .val (.ref b1), .val (.int (1 : Int32)), .val (.ref bb)] [(.int (1 : Int32))]))
          refine own_go (fun tgt => XS.istore X303j147.here hx rfl (hb hby at_255) rfl (l' := #[.val (.int x0), .val (.int x1), .val (.int x2), .val (.int x3), .val (.int x4), .val (.int x5), .val (.int C0), .val (.int R0), .val (.int P0), .val (.int k), .val (.int cx), .val (.int cy), .val (.ref b1), .val (.int (1 : Int32)), .val (.ref bb)]) rfl) ?_
          show own_Fin p e below s (own_Q0 n0) room_1.cells room_1.slots (T303j147.setTop (mkF m 257 #[.val (.int x0), .val (.int x1), .val (.int x2), .val (.int x3), .val (.int x4), .val (.int x5), .val (.int C0), .val (.int R0), .val (.int P0), .val (.int k), .val (.int cx), .val (.int cy), .val (.ref b1), .val (.int (1 : Int32)), .val (.ref bb)] []))
          refine own_go (fun tgt => XS.iload X303j147.here hx rfl (hb hby at_257) rfl) ?_
          show own_Fin p e below s (own_Q0 n0) room_1.cells room_1.slots (T303j147.setTop (mkF m 259 #[.val (.int x0), .val (.int x1), .val (.int x2), .val (.int x3), .val (.int x4), .val (.int x5), .val (.int C0), .val (.int R0), .val (.int P0), .val (.int k), .val (.int cx), .val (.int cy), .val (.ref b1), .val (.int (1 : Int32)), .val (.ref bb)] [(.int (1 : Int32))]))
          exact own_ret X303j147 hlk hx (t := .boolean) hret rfl (Or.inl ⟨rfl, by simp, _, rfl⟩) (hb hby at_259) ⟨rfl, N303j147⟩ (by decide) (by decide)
        · refine own_go (fun tgt => XS.icmpYes X303j147.here hx rfl (pc0 := 237) (pc' := 257) rfl (hb hby at_237) rfl (flt h257).2.2.2 (by decide) (by decide)) ?_
          show own_Fin p e below s (own_Q0 n0) room_1.cells room_1.slots (T303j147.setTop (mkF m 257 #[.val (.int x0), .val (.int x1), .val (.int x2), .val (.int x3), .val (.int x4), .val (.int x5), .val (.int C0), .val (.int R0), .val (.int P0), .val (.int k), .val (.int cx), .val (.int cy), .val (.ref b1), .val (.int (1 : Int32)), .val (.ref bb)] []))
          refine own_go (fun tgt => XS.iload X303j147.here hx rfl (hb hby at_257) rfl) ?_
          show own_Fin p e below s (own_Q0 n0) room_1.cells room_1.slots (T303j147.setTop (mkF m 259 #[.val (.int x0), .val (.int x1), .val (.int x2), .val (.int x3), .val (.int x4), .val (.int x5), .val (.int C0), .val (.int R0), .val (.int P0), .val (.int k), .val (.int cx), .val (.int cy), .val (.ref b1), .val (.int (1 : Int32)), .val (.ref bb)] [(.int (1 : Int32))]))
          exact own_ret X303j147 hlk hx (t := .boolean) hret rfl (Or.inl ⟨rfl, by simp, _, rfl⟩) (hb hby at_259) ⟨rfl, N303j147⟩ (by decide) (by decide)
    · refine own_go (fun tgt => XS.ifYes X303j147.here hx rfl (pc0 := 181) (pc' := 201) rfl (hb hby at_181) rfl ((if0 _ _).trans (flt h201).2.2.2) (by decide) (by decide)) ?_
      show own_Fin p e below s (own_Q0 n0) room_1.cells room_1.slots (T303j147.setTop (mkF m 201 #[.val (.int x0), .val (.int x1), .val (.int x2), .val (.int x3), .val (.int x4), .val (.int x5), .val (.int C0), .val (.int R0), .val (.int P0), .val (.int k), .val (.int cx), .val (.int cy), .val (.ref b1), .val (.int (1 : Int32)), .val (.ref bb)] []))
      refine own_go (fun tgt => XS.iload X303j147.here hx rfl (hb hby at_201) rfl) ?_
      show own_Fin p e below s (own_Q0 n0) room_1.cells room_1.slots (T303j147.setTop (mkF m 203 #[.val (.int x0), .val (.int x1), .val (.int x2), .val (.int x3), .val (.int x4), .val (.int x5), .val (.int C0), .val (.int R0), .val (.int P0), .val (.int k), .val (.int cx), .val (.int cy), .val (.ref b1), .val (.int (1 : Int32)), .val (.ref bb)] [(.int (1 : Int32))]))
      refine own_go (fun tgt => XS.ifNo X303j147.here hx rfl (hb hby at_203) rfl ((if0 _ _).trans (feq (by decide)).1)) ?_
      show own_Fin p e below s (own_Q0 n0) room_1.cells room_1.slots (T303j147.setTop (mkF m 206 #[.val (.int x0), .val (.int x1), .val (.int x2), .val (.int x3), .val (.int x4), .val (.int x5), .val (.int C0), .val (.int R0), .val (.int P0), .val (.int k), .val (.int cx), .val (.int cy), .val (.ref b1), .val (.int (1 : Int32)), .val (.ref bb)] []))
      refine own_go (fun tgt => XS.iload X303j147.here hx rfl (hb hby at_206) rfl) ?_
      show own_Fin p e below s (own_Q0 n0) room_1.cells room_1.slots (T303j147.setTop (mkF m 208 #[.val (.int x0), .val (.int x1), .val (.int x2), .val (.int x3), .val (.int x4), .val (.int x5), .val (.int C0), .val (.int R0), .val (.int P0), .val (.int k), .val (.int cx), .val (.int cy), .val (.ref b1), .val (.int (1 : Int32)), .val (.ref bb)] [(.int k)]))
      refine own_go (fun tgt => XS.iconst X303j147.here hx rfl (hb hby at_208)) ?_
      show own_Fin p e below s (own_Q0 n0) room_1.cells room_1.slots (T303j147.setTop (mkF m 209 #[.val (.int x0), .val (.int x1), .val (.int x2), .val (.int x3), .val (.int x4), .val (.int x5), .val (.int C0), .val (.int R0), .val (.int P0), .val (.int k), .val (.int cx), .val (.int cy), .val (.ref b1), .val (.int (1 : Int32)), .val (.ref bb)] [(.int (1 : Int32)), (.int k)]))
      by_cases h229 : (1 : Int32) < k
      · refine own_go (fun tgt => XS.icmpNo X303j147.here hx rfl (hb hby at_209) rfl (tlt h229).2.2.2) ?_
        show own_Fin p e below s (own_Q0 n0) room_1.cells room_1.slots (T303j147.setTop (mkF m 212 #[.val (.int x0), .val (.int x1), .val (.int x2), .val (.int x3), .val (.int x4), .val (.int x5), .val (.int C0), .val (.int R0), .val (.int P0), .val (.int k), .val (.int cx), .val (.int cy), .val (.ref b1), .val (.int (1 : Int32)), .val (.ref bb)] []))
        refine own_go (fun tgt => XS.aload X303j147.here hx rfl (hb hby at_212) rfl rfl) ?_
        show own_Fin p e below s (own_Q0 n0) room_1.cells room_1.slots (T303j147.setTop (mkF m 214 #[.val (.int x0), .val (.int x1), .val (.int x2), .val (.int x3), .val (.int x4), .val (.int x5), .val (.int C0), .val (.int R0), .val (.int P0), .val (.int k), .val (.int cx), .val (.int cy), .val (.ref b1), .val (.int (1 : Int32)), .val (.ref bb)] [(.ref bb)]))
        refine own_go (fun tgt => XS.iconst X303j147.here hx rfl (hb hby at_214)) ?_
        show own_Fin p e below s (own_Q0 n0) room_1.cells room_1.slots (T303j147.setTop (mkF m 215 #[.val (.int x0), .val (.int x1), .val (.int x2), .val (.int x3), .val (.int x4), .val (.int x5), .val (.int C0), .val (.int R0), .val (.int P0), .val (.int k), .val (.int cx), .val (.int cy), .val (.ref b1), .val (.int (1 : Int32)), .val (.ref bb)] [(.int (1 : Int32)), (.ref bb)]))
        refine own_go (own_ldB X303j147 hx hZ rfl A (j := (1 : Int32)) (by decide) h229 (g := (mkF m 215 #[.val (.int x0), .val (.int x1), .val (.int x2), .val (.int x3), .val (.int x4), .val (.int x5), .val (.int C0), .val (.int R0), .val (.int P0), .val (.int k), .val (.int cx), .val (.int cy), .val (.ref b1), .val (.int (1 : Int32)), .val (.ref bb)] [(.int (1 : Int32)), (.ref bb)])) rfl rfl (hb hby at_215)) ?_
        show own_Fin p e below s (own_Q0 n0) room_1.cells room_1.slots (T303j147.setTop (mkF m 216 #[.val (.int x0), .val (.int x1), .val (.int x2), .val (.int x3), .val (.int x4), .val (.int x5), .val (.int C0), .val (.int R0), .val (.int P0), .val (.int k), .val (.int cx), .val (.int cy), .val (.ref b1), .val (.int (1 : Int32)), .val (.ref bb)] [(.int (q (1 : Int32)))]))
        refine own_go (fun tgt => XS.iload X303j147.here hx rfl (hb hby at_216) rfl) ?_
        show own_Fin p e below s (own_Q0 n0) room_1.cells room_1.slots (T303j147.setTop (mkF m 218 #[.val (.int x0), .val (.int x1), .val (.int x2), .val (.int x3), .val (.int x4), .val (.int x5), .val (.int C0), .val (.int R0), .val (.int P0), .val (.int k), .val (.int cx), .val (.int cy), .val (.ref b1), .val (.int (1 : Int32)), .val (.ref bb)] [(.int cx), (.int (q (1 : Int32)))]))
        refine own_go (fun tgt => XS.i2b X303j147.here hx rfl (hb hby at_218) rfl) ?_
        show own_Fin p e below s (own_Q0 n0) room_1.cells room_1.slots (T303j147.setTop (mkF m 219 #[.val (.int x0), .val (.int x1), .val (.int x2), .val (.int x3), .val (.int x4), .val (.int x5), .val (.int C0), .val (.int R0), .val (.int P0), .val (.int k), .val (.int cx), .val (.int cy), .val (.ref b1), .val (.int (1 : Int32)), .val (.ref bb)] [(.int (cx.toInt8.toInt32)), (.int (q (1 : Int32)))]))
        refine own_go (fun tgt => XS.icmpNo X303j147.here hx rfl (hb hby at_219) rfl (teq (hq (1 : Int32) (by decide) h229)).2) ?_
        show own_Fin p e below s (own_Q0 n0) room_1.cells room_1.slots (T303j147.setTop (mkF m 222 #[.val (.int x0), .val (.int x1), .val (.int x2), .val (.int x3), .val (.int x4), .val (.int x5), .val (.int C0), .val (.int R0), .val (.int P0), .val (.int k), .val (.int cx), .val (.int cy), .val (.ref b1), .val (.int (1 : Int32)), .val (.ref bb)] []))
        refine own_go (fun tgt => XS.iconst X303j147.here hx rfl (hb hby at_222)) ?_
        show own_Fin p e below s (own_Q0 n0) room_1.cells room_1.slots (T303j147.setTop (mkF m 223 #[.val (.int x0), .val (.int x1), .val (.int x2), .val (.int x3), .val (.int x4), .val (.int x5), .val (.int C0), .val (.int R0), .val (.int P0), .val (.int k), .val (.int cx), .val (.int cy), .val (.ref b1), .val (.int (1 : Int32)), .val (.ref bb)] [(.int (1 : Int32))]))
        refine own_go (fun tgt => XS.goto X303j147.here hx rfl (pc0 := 223) (pc' := 227) rfl (hb hby at_223) (by decide) (by decide)) ?_
        show own_Fin p e below s (own_Q0 n0) room_1.cells room_1.slots (T303j147.setTop (mkF m 227 #[.val (.int x0), .val (.int x1), .val (.int x2), .val (.int x3), .val (.int x4), .val (.int x5), .val (.int C0), .val (.int R0), .val (.int P0), .val (.int k), .val (.int cx), .val (.int cy), .val (.ref b1), .val (.int (1 : Int32)), .val (.ref bb)] [(.int (1 : Int32))]))
        refine own_go (fun tgt => XS.istore X303j147.here hx rfl (hb hby at_227) rfl (l' := #[.val (.int x0), .val (.int x1), .val (.int x2), .val (.int x3), .val (.int x4), .val (.int x5), .val (.int C0), .val (.int R0), .val (.int P0), .val (.int k), .val (.int cx), .val (.int cy), .val (.ref b1), .val (.int (1 : Int32)), .val (.ref bb)]) rfl) ?_
        show own_Fin p e below s (own_Q0 n0) room_1.cells room_1.slots (T303j147.setTop (mkF m 229 #[.val (.int x0), .val (.int x1), .val (.int x2), .val (.int x3), .val (.int x4), .val (.int x5), .val (.int C0), .val (.int R0), .val (.int P0), .val (.int k), .val (.int cx), .val (.int cy), .val (.ref b1), .val (.int (1 : Int32)), .val (.ref bb)] []))
        refine own_go (fun tgt => XS.iload X303j147.here hx rfl (hb hby at_229) rfl) ?_
        show own_Fin p e below s (own_Q0 n0) room_1.cells room_1.slots (T303j147.setTop (mkF m 231 #[.val (.int x0), .val (.int x1), .val (.int x2), .val (.int x3), .val (.int x4), .val (.int x5), .val (.int C0), .val (.int R0), .val (.int P0), .val (.int k), .val (.int cx), .val (.int cy), .val (.ref b1), .val (.int (1 : Int32)), .val (.ref bb)] [(.int (1 : Int32))]))
        refine own_go (fun tgt => XS.ifNo X303j147.here hx rfl (hb hby at_231) rfl ((if0 _ _).trans (feq (by decide)).1)) ?_
        show own_Fin p e below s (own_Q0 n0) room_1.cells room_1.slots (T303j147.setTop (mkF m 234 #[.val (.int x0), .val (.int x1), .val (.int x2), .val (.int x3), .val (.int x4), .val (.int x5), .val (.int C0), .val (.int R0), .val (.int P0), .val (.int k), .val (.int cx), .val (.int cy), .val (.ref b1), .val (.int (1 : Int32)), .val (.ref bb)] []))
        refine own_go (fun tgt => XS.iload X303j147.here hx rfl (hb hby at_234) rfl) ?_
        show own_Fin p e below s (own_Q0 n0) room_1.cells room_1.slots (T303j147.setTop (mkF m 236 #[.val (.int x0), .val (.int x1), .val (.int x2), .val (.int x3), .val (.int x4), .val (.int x5), .val (.int C0), .val (.int R0), .val (.int P0), .val (.int k), .val (.int cx), .val (.int cy), .val (.ref b1), .val (.int (1 : Int32)), .val (.ref bb)] [(.int k)]))
        refine own_go (fun tgt => XS.iconst X303j147.here hx rfl (hb hby at_236)) ?_
        show own_Fin p e below s (own_Q0 n0) room_1.cells room_1.slots (T303j147.setTop (mkF m 237 #[.val (.int x0), .val (.int x1), .val (.int x2), .val (.int x3), .val (.int x4), .val (.int x5), .val (.int C0), .val (.int R0), .val (.int P0), .val (.int k), .val (.int cx), .val (.int cy), .val (.ref b1), .val (.int (1 : Int32)), .val (.ref bb)] [(.int (2 : Int32)), (.int k)]))
        by_cases h257 : (2 : Int32) < k
        · refine own_go (fun tgt => XS.icmpNo X303j147.here hx rfl (hb hby at_237) rfl (tlt h257).2.2.2) ?_
          show own_Fin p e below s (own_Q0 n0) room_1.cells room_1.slots (T303j147.setTop (mkF m 240 #[.val (.int x0), .val (.int x1), .val (.int x2), .val (.int x3), .val (.int x4), .val (.int x5), .val (.int C0), .val (.int R0), .val (.int P0), .val (.int k), .val (.int cx), .val (.int cy), .val (.ref b1), .val (.int (1 : Int32)), .val (.ref bb)] []))
          refine own_go (fun tgt => XS.aload X303j147.here hx rfl (hb hby at_240) rfl rfl) ?_
          show own_Fin p e below s (own_Q0 n0) room_1.cells room_1.slots (T303j147.setTop (mkF m 242 #[.val (.int x0), .val (.int x1), .val (.int x2), .val (.int x3), .val (.int x4), .val (.int x5), .val (.int C0), .val (.int R0), .val (.int P0), .val (.int k), .val (.int cx), .val (.int cy), .val (.ref b1), .val (.int (1 : Int32)), .val (.ref bb)] [(.ref bb)]))
          refine own_go (fun tgt => XS.iconst X303j147.here hx rfl (hb hby at_242)) ?_
          show own_Fin p e below s (own_Q0 n0) room_1.cells room_1.slots (T303j147.setTop (mkF m 243 #[.val (.int x0), .val (.int x1), .val (.int x2), .val (.int x3), .val (.int x4), .val (.int x5), .val (.int C0), .val (.int R0), .val (.int P0), .val (.int k), .val (.int cx), .val (.int cy), .val (.ref b1), .val (.int (1 : Int32)), .val (.ref bb)] [(.int (2 : Int32)), (.ref bb)]))
          refine own_go (own_ldB X303j147 hx hZ rfl A (j := (2 : Int32)) (by decide) h257 (g := (mkF m 243 #[.val (.int x0), .val (.int x1), .val (.int x2), .val (.int x3), .val (.int x4), .val (.int x5), .val (.int C0), .val (.int R0), .val (.int P0), .val (.int k), .val (.int cx), .val (.int cy), .val (.ref b1), .val (.int (1 : Int32)), .val (.ref bb)] [(.int (2 : Int32)), (.ref bb)])) rfl rfl (hb hby at_243)) ?_
          show own_Fin p e below s (own_Q0 n0) room_1.cells room_1.slots (T303j147.setTop (mkF m 244 #[.val (.int x0), .val (.int x1), .val (.int x2), .val (.int x3), .val (.int x4), .val (.int x5), .val (.int C0), .val (.int R0), .val (.int P0), .val (.int k), .val (.int cx), .val (.int cy), .val (.ref b1), .val (.int (1 : Int32)), .val (.ref bb)] [(.int (q (2 : Int32)))]))
          refine own_go (fun tgt => XS.iload X303j147.here hx rfl (hb hby at_244) rfl) ?_
          show own_Fin p e below s (own_Q0 n0) room_1.cells room_1.slots (T303j147.setTop (mkF m 246 #[.val (.int x0), .val (.int x1), .val (.int x2), .val (.int x3), .val (.int x4), .val (.int x5), .val (.int C0), .val (.int R0), .val (.int P0), .val (.int k), .val (.int cx), .val (.int cy), .val (.ref b1), .val (.int (1 : Int32)), .val (.ref bb)] [(.int cy), (.int (q (2 : Int32)))]))
          refine own_go (fun tgt => XS.i2b X303j147.here hx rfl (hb hby at_246) rfl) ?_
          show own_Fin p e below s (own_Q0 n0) room_1.cells room_1.slots (T303j147.setTop (mkF m 247 #[.val (.int x0), .val (.int x1), .val (.int x2), .val (.int x3), .val (.int x4), .val (.int x5), .val (.int C0), .val (.int R0), .val (.int P0), .val (.int k), .val (.int cx), .val (.int cy), .val (.ref b1), .val (.int (1 : Int32)), .val (.ref bb)] [(.int (cy.toInt8.toInt32)), (.int (q (2 : Int32)))]))
          refine own_go (fun tgt => XS.icmpNo X303j147.here hx rfl (hb hby at_247) rfl (teq (hq (2 : Int32) (by decide) h257)).2) ?_
          show own_Fin p e below s (own_Q0 n0) room_1.cells room_1.slots (T303j147.setTop (mkF m 250 #[.val (.int x0), .val (.int x1), .val (.int x2), .val (.int x3), .val (.int x4), .val (.int x5), .val (.int C0), .val (.int R0), .val (.int P0), .val (.int k), .val (.int cx), .val (.int cy), .val (.ref b1), .val (.int (1 : Int32)), .val (.ref bb)] []))
          refine own_go (fun tgt => XS.iconst X303j147.here hx rfl (hb hby at_250)) ?_
          show own_Fin p e below s (own_Q0 n0) room_1.cells room_1.slots (T303j147.setTop (mkF m 251 #[.val (.int x0), .val (.int x1), .val (.int x2), .val (.int x3), .val (.int x4), .val (.int x5), .val (.int C0), .val (.int R0), .val (.int P0), .val (.int k), .val (.int cx), .val (.int cy), .val (.ref b1), .val (.int (1 : Int32)), .val (.ref bb)] [(.int (1 : Int32))]))
          refine own_go (fun tgt => XS.goto X303j147.here hx rfl (pc0 := 251) (pc' := 255) rfl (hb hby at_251) (by decide) (by decide)) ?_
          show own_Fin p e below s (own_Q0 n0) room_1.cells room_1.slots (T303j147.setTop (mkF m 255 #[.val (.int x0), .val (.int x1), .val (.int x2), .val (.int x3), .val (.int x4), .val (.int x5), .val (.int C0), .val (.int R0), .val (.int P0), .val (.int k), .val (.int cx), .val (.int cy), .val (.ref b1), .val (.int (1 : Int32)), .val (.ref bb)] [(.int (1 : Int32))]))
          refine own_go (fun tgt => XS.istore X303j147.here hx rfl (hb hby at_255) rfl (l' := #[.val (.int x0), .val (.int x1), .val (.int x2), .val (.int x3), .val (.int x4), .val (.int x5), .val (.int C0), .val (.int R0), .val (.int P0), .val (.int k), .val (.int cx), .val (.int cy), .val (.ref b1), .val (.int (1 : Int32)), .val (.ref bb)]) rfl) ?_
          show own_Fin p e below s (own_Q0 n0) room_1.cells room_1.slots (T303j147.setTop (mkF m 257 #[.val (.int x0), .val (.int x1), .val (.int x2), .val (.int x3), .val (.int x4), .val (.int x5), .val (.int C0), .val (.int R0), .val (.int P0), .val (.int k), .val (.int cx), .val (.int cy), .val (.ref b1), .val (.int (1 : Int32)), .val (.ref bb)] []))
          refine own_go (fun tgt => XS.iload X303j147.here hx rfl (hb hby at_257) rfl) ?_
          show own_Fin p e below s (own_Q0 n0) room_1.cells room_1.slots (T303j147.setTop (mkF m 259 #[.val (.int x0), .val (.int x1), .val (.int x2), .val (.int x3), .val (.int x4), .val (.int x5), .val (.int C0), .val (.int R0), .val (.int P0), .val (.int k), .val (.int cx), .val (.int cy), .val (.ref b1), .val (.int (1 : Int32)), .val (.ref bb)] [(.int (1 : Int32))]))
          exact own_ret X303j147 hlk hx (t := .boolean) hret rfl (Or.inl ⟨rfl, by simp, _, rfl⟩) (hb hby at_259) ⟨rfl, N303j147⟩ (by decide) (by decide)
        · refine own_go (fun tgt => XS.icmpYes X303j147.here hx rfl (pc0 := 237) (pc' := 257) rfl (hb hby at_237) rfl (flt h257).2.2.2 (by decide) (by decide)) ?_
          show own_Fin p e below s (own_Q0 n0) room_1.cells room_1.slots (T303j147.setTop (mkF m 257 #[.val (.int x0), .val (.int x1), .val (.int x2), .val (.int x3), .val (.int x4), .val (.int x5), .val (.int C0), .val (.int R0), .val (.int P0), .val (.int k), .val (.int cx), .val (.int cy), .val (.ref b1), .val (.int (1 : Int32)), .val (.ref bb)] []))
          refine own_go (fun tgt => XS.iload X303j147.here hx rfl (hb hby at_257) rfl) ?_
          show own_Fin p e below s (own_Q0 n0) room_1.cells room_1.slots (T303j147.setTop (mkF m 259 #[.val (.int x0), .val (.int x1), .val (.int x2), .val (.int x3), .val (.int x4), .val (.int x5), .val (.int C0), .val (.int R0), .val (.int P0), .val (.int k), .val (.int cx), .val (.int cy), .val (.ref b1), .val (.int (1 : Int32)), .val (.ref bb)] [(.int (1 : Int32))]))
          exact own_ret X303j147 hlk hx (t := .boolean) hret rfl (Or.inl ⟨rfl, by simp, _, rfl⟩) (hb hby at_259) ⟨rfl, N303j147⟩ (by decide) (by decide)
      · refine own_go (fun tgt => XS.icmpYes X303j147.here hx rfl (pc0 := 209) (pc' := 229) rfl (hb hby at_209) rfl (flt h229).2.2.2 (by decide) (by decide)) ?_
        show own_Fin p e below s (own_Q0 n0) room_1.cells room_1.slots (T303j147.setTop (mkF m 229 #[.val (.int x0), .val (.int x1), .val (.int x2), .val (.int x3), .val (.int x4), .val (.int x5), .val (.int C0), .val (.int R0), .val (.int P0), .val (.int k), .val (.int cx), .val (.int cy), .val (.ref b1), .val (.int (1 : Int32)), .val (.ref bb)] []))
        refine own_go (fun tgt => XS.iload X303j147.here hx rfl (hb hby at_229) rfl) ?_
        show own_Fin p e below s (own_Q0 n0) room_1.cells room_1.slots (T303j147.setTop (mkF m 231 #[.val (.int x0), .val (.int x1), .val (.int x2), .val (.int x3), .val (.int x4), .val (.int x5), .val (.int C0), .val (.int R0), .val (.int P0), .val (.int k), .val (.int cx), .val (.int cy), .val (.ref b1), .val (.int (1 : Int32)), .val (.ref bb)] [(.int (1 : Int32))]))
        refine own_go (fun tgt => XS.ifNo X303j147.here hx rfl (hb hby at_231) rfl ((if0 _ _).trans (feq (by decide)).1)) ?_
        show own_Fin p e below s (own_Q0 n0) room_1.cells room_1.slots (T303j147.setTop (mkF m 234 #[.val (.int x0), .val (.int x1), .val (.int x2), .val (.int x3), .val (.int x4), .val (.int x5), .val (.int C0), .val (.int R0), .val (.int P0), .val (.int k), .val (.int cx), .val (.int cy), .val (.ref b1), .val (.int (1 : Int32)), .val (.ref bb)] []))
        refine own_go (fun tgt => XS.iload X303j147.here hx rfl (hb hby at_234) rfl) ?_
        show own_Fin p e below s (own_Q0 n0) room_1.cells room_1.slots (T303j147.setTop (mkF m 236 #[.val (.int x0), .val (.int x1), .val (.int x2), .val (.int x3), .val (.int x4), .val (.int x5), .val (.int C0), .val (.int R0), .val (.int P0), .val (.int k), .val (.int cx), .val (.int cy), .val (.ref b1), .val (.int (1 : Int32)), .val (.ref bb)] [(.int k)]))
        refine own_go (fun tgt => XS.iconst X303j147.here hx rfl (hb hby at_236)) ?_
        show own_Fin p e below s (own_Q0 n0) room_1.cells room_1.slots (T303j147.setTop (mkF m 237 #[.val (.int x0), .val (.int x1), .val (.int x2), .val (.int x3), .val (.int x4), .val (.int x5), .val (.int C0), .val (.int R0), .val (.int P0), .val (.int k), .val (.int cx), .val (.int cy), .val (.ref b1), .val (.int (1 : Int32)), .val (.ref bb)] [(.int (2 : Int32)), (.int k)]))
        by_cases h257 : (2 : Int32) < k
        · refine own_go (fun tgt => XS.icmpNo X303j147.here hx rfl (hb hby at_237) rfl (tlt h257).2.2.2) ?_
          show own_Fin p e below s (own_Q0 n0) room_1.cells room_1.slots (T303j147.setTop (mkF m 240 #[.val (.int x0), .val (.int x1), .val (.int x2), .val (.int x3), .val (.int x4), .val (.int x5), .val (.int C0), .val (.int R0), .val (.int P0), .val (.int k), .val (.int cx), .val (.int cy), .val (.ref b1), .val (.int (1 : Int32)), .val (.ref bb)] []))
          refine own_go (fun tgt => XS.aload X303j147.here hx rfl (hb hby at_240) rfl rfl) ?_
          show own_Fin p e below s (own_Q0 n0) room_1.cells room_1.slots (T303j147.setTop (mkF m 242 #[.val (.int x0), .val (.int x1), .val (.int x2), .val (.int x3), .val (.int x4), .val (.int x5), .val (.int C0), .val (.int R0), .val (.int P0), .val (.int k), .val (.int cx), .val (.int cy), .val (.ref b1), .val (.int (1 : Int32)), .val (.ref bb)] [(.ref bb)]))
          refine own_go (fun tgt => XS.iconst X303j147.here hx rfl (hb hby at_242)) ?_
          show own_Fin p e below s (own_Q0 n0) room_1.cells room_1.slots (T303j147.setTop (mkF m 243 #[.val (.int x0), .val (.int x1), .val (.int x2), .val (.int x3), .val (.int x4), .val (.int x5), .val (.int C0), .val (.int R0), .val (.int P0), .val (.int k), .val (.int cx), .val (.int cy), .val (.ref b1), .val (.int (1 : Int32)), .val (.ref bb)] [(.int (2 : Int32)), (.ref bb)]))
          refine own_go (own_ldB X303j147 hx hZ rfl A (j := (2 : Int32)) (by decide) h257 (g := (mkF m 243 #[.val (.int x0), .val (.int x1), .val (.int x2), .val (.int x3), .val (.int x4), .val (.int x5), .val (.int C0), .val (.int R0), .val (.int P0), .val (.int k), .val (.int cx), .val (.int cy), .val (.ref b1), .val (.int (1 : Int32)), .val (.ref bb)] [(.int (2 : Int32)), (.ref bb)])) rfl rfl (hb hby at_243)) ?_
          show own_Fin p e below s (own_Q0 n0) room_1.cells room_1.slots (T303j147.setTop (mkF m 244 #[.val (.int x0), .val (.int x1), .val (.int x2), .val (.int x3), .val (.int x4), .val (.int x5), .val (.int C0), .val (.int R0), .val (.int P0), .val (.int k), .val (.int cx), .val (.int cy), .val (.ref b1), .val (.int (1 : Int32)), .val (.ref bb)] [(.int (q (2 : Int32)))]))
          refine own_go (fun tgt => XS.iload X303j147.here hx rfl (hb hby at_244) rfl) ?_
          show own_Fin p e below s (own_Q0 n0) room_1.cells room_1.slots (T303j147.setTop (mkF m 246 #[.val (.int x0), .val (.int x1), .val (.int x2), .val (.int x3), .val (.int x4), .val (.int x5), .val (.int C0), .val (.int R0), .val (.int P0), .val (.int k), .val (.int cx), .val (.int cy), .val (.ref b1), .val (.int (1 : Int32)), .val (.ref bb)] [(.int cy), (.int (q (2 : Int32)))]))
          refine own_go (fun tgt => XS.i2b X303j147.here hx rfl (hb hby at_246) rfl) ?_
          show own_Fin p e below s (own_Q0 n0) room_1.cells room_1.slots (T303j147.setTop (mkF m 247 #[.val (.int x0), .val (.int x1), .val (.int x2), .val (.int x3), .val (.int x4), .val (.int x5), .val (.int C0), .val (.int R0), .val (.int P0), .val (.int k), .val (.int cx), .val (.int cy), .val (.ref b1), .val (.int (1 : Int32)), .val (.ref bb)] [(.int (cy.toInt8.toInt32)), (.int (q (2 : Int32)))]))
          refine own_go (fun tgt => XS.icmpNo X303j147.here hx rfl (hb hby at_247) rfl (teq (hq (2 : Int32) (by decide) h257)).2) ?_
          show own_Fin p e below s (own_Q0 n0) room_1.cells room_1.slots (T303j147.setTop (mkF m 250 #[.val (.int x0), .val (.int x1), .val (.int x2), .val (.int x3), .val (.int x4), .val (.int x5), .val (.int C0), .val (.int R0), .val (.int P0), .val (.int k), .val (.int cx), .val (.int cy), .val (.ref b1), .val (.int (1 : Int32)), .val (.ref bb)] []))
          refine own_go (fun tgt => XS.iconst X303j147.here hx rfl (hb hby at_250)) ?_
          show own_Fin p e below s (own_Q0 n0) room_1.cells room_1.slots (T303j147.setTop (mkF m 251 #[.val (.int x0), .val (.int x1), .val (.int x2), .val (.int x3), .val (.int x4), .val (.int x5), .val (.int C0), .val (.int R0), .val (.int P0), .val (.int k), .val (.int cx), .val (.int cy), .val (.ref b1), .val (.int (1 : Int32)), .val (.ref bb)] [(.int (1 : Int32))]))
          refine own_go (fun tgt => XS.goto X303j147.here hx rfl (pc0 := 251) (pc' := 255) rfl (hb hby at_251) (by decide) (by decide)) ?_
          show own_Fin p e below s (own_Q0 n0) room_1.cells room_1.slots (T303j147.setTop (mkF m 255 #[.val (.int x0), .val (.int x1), .val (.int x2), .val (.int x3), .val (.int x4), .val (.int x5), .val (.int C0), .val (.int R0), .val (.int P0), .val (.int k), .val (.int cx), .val (.int cy), .val (.ref b1), .val (.int (1 : Int32)), .val (.ref bb)] [(.int (1 : Int32))]))
          refine own_go (fun tgt => XS.istore X303j147.here hx rfl (hb hby at_255) rfl (l' := #[.val (.int x0), .val (.int x1), .val (.int x2), .val (.int x3), .val (.int x4), .val (.int x5), .val (.int C0), .val (.int R0), .val (.int P0), .val (.int k), .val (.int cx), .val (.int cy), .val (.ref b1), .val (.int (1 : Int32)), .val (.ref bb)]) rfl) ?_
          show own_Fin p e below s (own_Q0 n0) room_1.cells room_1.slots (T303j147.setTop (mkF m 257 #[.val (.int x0), .val (.int x1), .val (.int x2), .val (.int x3), .val (.int x4), .val (.int x5), .val (.int C0), .val (.int R0), .val (.int P0), .val (.int k), .val (.int cx), .val (.int cy), .val (.ref b1), .val (.int (1 : Int32)), .val (.ref bb)] []))
          refine own_go (fun tgt => XS.iload X303j147.here hx rfl (hb hby at_257) rfl) ?_
          show own_Fin p e below s (own_Q0 n0) room_1.cells room_1.slots (T303j147.setTop (mkF m 259 #[.val (.int x0), .val (.int x1), .val (.int x2), .val (.int x3), .val (.int x4), .val (.int x5), .val (.int C0), .val (.int R0), .val (.int P0), .val (.int k), .val (.int cx), .val (.int cy), .val (.ref b1), .val (.int (1 : Int32)), .val (.ref bb)] [(.int (1 : Int32))]))
          exact own_ret X303j147 hlk hx (t := .boolean) hret rfl (Or.inl ⟨rfl, by simp, _, rfl⟩) (hb hby at_259) ⟨rfl, N303j147⟩ (by decide) (by decide)
        · refine own_go (fun tgt => XS.icmpYes X303j147.here hx rfl (pc0 := 237) (pc' := 257) rfl (hb hby at_237) rfl (flt h257).2.2.2 (by decide) (by decide)) ?_
          show own_Fin p e below s (own_Q0 n0) room_1.cells room_1.slots (T303j147.setTop (mkF m 257 #[.val (.int x0), .val (.int x1), .val (.int x2), .val (.int x3), .val (.int x4), .val (.int x5), .val (.int C0), .val (.int R0), .val (.int P0), .val (.int k), .val (.int cx), .val (.int cy), .val (.ref b1), .val (.int (1 : Int32)), .val (.ref bb)] []))
          refine own_go (fun tgt => XS.iload X303j147.here hx rfl (hb hby at_257) rfl) ?_
          show own_Fin p e below s (own_Q0 n0) room_1.cells room_1.slots (T303j147.setTop (mkF m 259 #[.val (.int x0), .val (.int x1), .val (.int x2), .val (.int x3), .val (.int x4), .val (.int x5), .val (.int C0), .val (.int R0), .val (.int P0), .val (.int k), .val (.int cx), .val (.int cy), .val (.ref b1), .val (.int (1 : Int32)), .val (.ref bb)] [(.int (1 : Int32))]))
          exact own_ret X303j147 hlk hx (t := .boolean) hret rfl (Or.inl ⟨rfl, by simp, _, rfl⟩) (hb hby at_259) ⟨rfl, N303j147⟩ (by decide) (by decide)
  have J134 : ∀ (U : State) (L : List Loc) (b : Addr) (z k : Int32) (f : Int32 → Int32), Stand p l e room_1 s m args below meth c U L 9 89 → Fr n0 L → n0 ≤ b → own_JB Z U.heap b1 b z k f → 0 ≤ k.toInt → k.toInt ≤ z.toInt → z.toInt ≤ 31 → (k.toInt = if M0.toInt ≤ 2 then M0.toInt else 2) → (∀ j : Int32, ¬ j < 0 → j < k → f j = own_E cx cy j) → own_Fin p e below s (own_Q0 n0) room_1.cells room_1.slots (U.setTop (mkF m 134 #[.val (.int x0), .val (.int x1), .val (.int x2), .val (.int x3), .val (.int x4), .val (.int x5), .val (.int C0), .val (.int R0), .val (.int P0), .val (.int M0), .val (.int cx), .val (.int cy), .val (.ref b1), .val (.int (1 : Int32)), .unset] [])) := by
    intro U L b z k f Y N gb hJ hk0 hkz hz hkm hf
    show own_Fin p e below s (own_Q0 n0) room_1.cells room_1.slots (U.setTop (mkF m 134 #[.val (.int x0), .val (.int x1), .val (.int x2), .val (.int x3), .val (.int x4), .val (.int x5), .val (.int C0), .val (.int R0), .val (.int P0), .val (.int M0), .val (.int cx), .val (.int cy), .val (.ref b1), .val (.int (1 : Int32)), .unset] []))
    have ZU : n0 ≤ Array.size U.heap := Nat.le_trans gb (Nat.le_of_lt hJ.2.2.2.1.lt)
    refine own_go (fun tgt => XS.iload Y.here hx rfl (hb hby at_134) rfl) ?_
    show own_Fin p e below s (own_Q0 n0) room_1.cells room_1.slots (U.setTop (mkF m 136 #[.val (.int x0), .val (.int x1), .val (.int x2), .val (.int x3), .val (.int x4), .val (.int x5), .val (.int C0), .val (.int R0), .val (.int P0), .val (.int M0), .val (.int cx), .val (.int cy), .val (.ref b1), .val (.int (1 : Int32)), .unset] [(.int M0)]))
    refine own_go (fun tgt => XS.iconst Y.here hx rfl (hb hby at_136)) ?_
    show own_Fin p e below s (own_Q0 n0) room_1.cells room_1.slots (U.setTop (mkF m 137 #[.val (.int x0), .val (.int x1), .val (.int x2), .val (.int x3), .val (.int x4), .val (.int x5), .val (.int C0), .val (.int R0), .val (.int P0), .val (.int M0), .val (.int cx), .val (.int cy), .val (.ref b1), .val (.int (1 : Int32)), .unset] [(.int (2 : Int32)), (.int M0)]))
    by_cases hbr : (2 : Int32) < M0
    · refine own_go (fun tgt => XS.icmpNo Y.here hx rfl (hb hby at_137) rfl (tlt hbr).2.2.2) ?_
      show own_Fin p e below s (own_Q0 n0) room_1.cells room_1.slots (U.setTop (mkF m 140 #[.val (.int x0), .val (.int x1), .val (.int x2), .val (.int x3), .val (.int x4), .val (.int x5), .val (.int C0), .val (.int R0), .val (.int P0), .val (.int M0), .val (.int cx), .val (.int cy), .val (.ref b1), .val (.int (1 : Int32)), .unset] []))
      have hc := own_ltT hbr
      have oi : (2 : Int32).toInt = 2 := by decide
      refine own_go (fun tgt => XS.aload Y.here hx rfl (hb hby at_140) rfl rfl) ?_
      show own_Fin p e below s (own_Q0 n0) room_1.cells room_1.slots (U.setTop (mkF m 142 #[.val (.int x0), .val (.int x1), .val (.int x2), .val (.int x3), .val (.int x4), .val (.int x5), .val (.int C0), .val (.int R0), .val (.int P0), .val (.int M0), .val (.int cx), .val (.int cy), .val (.ref b1), .val (.int (1 : Int32)), .unset] [(.ref b1)]))
      refine own_go (fun tgt => XS.iload Y.here hx rfl (hb hby at_142) rfl) ?_
      show own_Fin p e below s (own_Q0 n0) room_1.cells room_1.slots (U.setTop (mkF m 144 #[.val (.int x0), .val (.int x1), .val (.int x2), .val (.int x3), .val (.int x4), .val (.int x5), .val (.int C0), .val (.int R0), .val (.int P0), .val (.int M0), .val (.int cx), .val (.int cy), .val (.ref b1), .val (.int (1 : Int32)), .unset] [(.int cy), (.ref b1)]))
      obtain ⟨_, T403j134, L403j134, X403j134, ⟨rfl, Nq403j134, K403j134, b', z', f', hJ', hz1, hz2, gb', hf', hfk⟩, st403j134⟩ := own_callV Y hx hZ rfl (y := (⟨"com/example/binlogue/binlogue/json/JsonBuffer", "ascii", "(C)V"⟩ : MethodName)) hown (hw _ (List.mem_of_getElem? (i := 14) rfl)) (hw _ (List.mem_of_getElem? (i := 15) rfl)) (hw _ (List.mem_of_getElem? (i := 17) rfl)) (hw _ (List.mem_of_getElem? (i := 16) rfl)) (hw _ (List.mem_of_getElem? (i := 2) rfl)) (hw _ (List.mem_of_getElem? (i := 18) rfl)) (by decide) (a := b1) hJ.1 (argsL := [(.int cy)]) (rest := []) (own_asc l Z a0 hw b1 cy b z k f _ n0 ZU G_b1 gb hJ (by omega) hkz hz) (by decide) 0 (by decide) (by decide) (by decide) (g := (mkF m 144 #[.val (.int x0), .val (.int x1), .val (.int x2), .val (.int x3), .val (.int x4), .val (.int x5), .val (.int C0), .val (.int R0), .val (.int P0), .val (.int M0), .val (.int cx), .val (.int cy), .val (.ref b1), .val (.int (1 : Int32)), .unset] [(.int cy), (.ref b1)])) rfl (by rw [hml]; rfl) (lenOf own_pd4 rfl) rfl (by show 2 * 0 + _ ≤ _; exact Nat.le_of_eq rfl) (hb hby at_144)
      have N403j134 := Fr.app N Nq403j134
      refine own_go st403j134 ?_
      show own_Fin p e below s (own_Q0 n0) room_1.cells room_1.slots (T403j134.setTop (mkF m 147 #[.val (.int x0), .val (.int x1), .val (.int x2), .val (.int x3), .val (.int x4), .val (.int x5), .val (.int C0), .val (.int R0), .val (.int P0), .val (.int M0), .val (.int cx), .val (.int cy), .val (.ref b1), .val (.int (1 : Int32)), .unset] []))
      have ek : (k + (1 : Int32)).toInt = k.toInt + 1 := by
        have a := c_iadd k 1
        have r := rng32 (k + (1 : Int32))
        have o1 : (1 : Int32).toInt = 1 := by decide
        omega
      exact J147 _ _ _ _ _ _ X403j134 N403j134 gb' hJ' (by omega) (by omega) hz2 (by rw [ek, hkm, if_neg (by omega : ¬ M0.toInt ≤ 2)]; by_cases q : M0.toInt ≤ 3 <;> simp [q] <;> omega) (fun j h1 h2 => by
        have h2' := own_ltT h2
        have hkk : k.toInt = 2 := by rw [hkm, if_neg (by omega : ¬ M0.toInt ≤ 2)]
        by_cases q : j = k
        · rw [q, hfk]
          have e1 : k = (2 : Int32) := Int32.toInt_inj.mp (by rw [hkk]; decide)
          rw [e1]; rfl
        · rw [hf' j h1 (own_Tlt (by have := own_neT q; omega))]; exact hf j h1 (own_Tlt (by have := own_neT q; omega)))
    · refine own_go (fun tgt => XS.icmpYes Y.here hx rfl (pc0 := 137) (pc' := 147) rfl (hb hby at_137) rfl (flt hbr).2.2.2 (by decide) (by decide)) ?_
      show own_Fin p e below s (own_Q0 n0) room_1.cells room_1.slots (U.setTop (mkF m 147 #[.val (.int x0), .val (.int x1), .val (.int x2), .val (.int x3), .val (.int x4), .val (.int x5), .val (.int C0), .val (.int R0), .val (.int P0), .val (.int M0), .val (.int cx), .val (.int cy), .val (.ref b1), .val (.int (1 : Int32)), .unset] []))
      have hc := own_nltT hbr
      have oi : (2 : Int32).toInt = 2 := by decide
      exact J147 _ _ _ _ _ _ (Y.mono (by decide) (by decide)) N gb hJ hk0 hkz hz (by rw [hkm, if_pos (by omega : M0.toInt ≤ 2), if_pos (by omega : M0.toInt ≤ 3)]) hf
  have J121 : ∀ (U : State) (L : List Loc) (b : Addr) (z k : Int32) (f : Int32 → Int32), Stand p l e room_1 s m args below meth c U L 8 85 → Fr n0 L → n0 ≤ b → own_JB Z U.heap b1 b z k f → 0 ≤ k.toInt → k.toInt ≤ z.toInt → z.toInt ≤ 31 → (k.toInt = if M0.toInt ≤ 1 then M0.toInt else 1) → (∀ j : Int32, ¬ j < 0 → j < k → f j = own_E cx cy j) → own_Fin p e below s (own_Q0 n0) room_1.cells room_1.slots (U.setTop (mkF m 121 #[.val (.int x0), .val (.int x1), .val (.int x2), .val (.int x3), .val (.int x4), .val (.int x5), .val (.int C0), .val (.int R0), .val (.int P0), .val (.int M0), .val (.int cx), .val (.int cy), .val (.ref b1), .val (.int (1 : Int32)), .unset] [])) := by
    intro U L b z k f Y N gb hJ hk0 hkz hz hkm hf
    show own_Fin p e below s (own_Q0 n0) room_1.cells room_1.slots (U.setTop (mkF m 121 #[.val (.int x0), .val (.int x1), .val (.int x2), .val (.int x3), .val (.int x4), .val (.int x5), .val (.int C0), .val (.int R0), .val (.int P0), .val (.int M0), .val (.int cx), .val (.int cy), .val (.ref b1), .val (.int (1 : Int32)), .unset] []))
    have ZU : n0 ≤ Array.size U.heap := Nat.le_trans gb (Nat.le_of_lt hJ.2.2.2.1.lt)
    refine own_go (fun tgt => XS.iload Y.here hx rfl (hb hby at_121) rfl) ?_
    show own_Fin p e below s (own_Q0 n0) room_1.cells room_1.slots (U.setTop (mkF m 123 #[.val (.int x0), .val (.int x1), .val (.int x2), .val (.int x3), .val (.int x4), .val (.int x5), .val (.int C0), .val (.int R0), .val (.int P0), .val (.int M0), .val (.int cx), .val (.int cy), .val (.ref b1), .val (.int (1 : Int32)), .unset] [(.int M0)]))
    refine own_go (fun tgt => XS.iconst Y.here hx rfl (hb hby at_123)) ?_
    show own_Fin p e below s (own_Q0 n0) room_1.cells room_1.slots (U.setTop (mkF m 124 #[.val (.int x0), .val (.int x1), .val (.int x2), .val (.int x3), .val (.int x4), .val (.int x5), .val (.int C0), .val (.int R0), .val (.int P0), .val (.int M0), .val (.int cx), .val (.int cy), .val (.ref b1), .val (.int (1 : Int32)), .unset] [(.int (1 : Int32)), (.int M0)]))
    by_cases hbr : (1 : Int32) < M0
    · refine own_go (fun tgt => XS.icmpNo Y.here hx rfl (hb hby at_124) rfl (tlt hbr).2.2.2) ?_
      show own_Fin p e below s (own_Q0 n0) room_1.cells room_1.slots (U.setTop (mkF m 127 #[.val (.int x0), .val (.int x1), .val (.int x2), .val (.int x3), .val (.int x4), .val (.int x5), .val (.int C0), .val (.int R0), .val (.int P0), .val (.int M0), .val (.int cx), .val (.int cy), .val (.ref b1), .val (.int (1 : Int32)), .unset] []))
      have hc := own_ltT hbr
      have oi : (1 : Int32).toInt = 1 := by decide
      refine own_go (fun tgt => XS.aload Y.here hx rfl (hb hby at_127) rfl rfl) ?_
      show own_Fin p e below s (own_Q0 n0) room_1.cells room_1.slots (U.setTop (mkF m 129 #[.val (.int x0), .val (.int x1), .val (.int x2), .val (.int x3), .val (.int x4), .val (.int x5), .val (.int C0), .val (.int R0), .val (.int P0), .val (.int M0), .val (.int cx), .val (.int cy), .val (.ref b1), .val (.int (1 : Int32)), .unset] [(.ref b1)]))
      refine own_go (fun tgt => XS.iload Y.here hx rfl (hb hby at_129) rfl) ?_
      show own_Fin p e below s (own_Q0 n0) room_1.cells room_1.slots (U.setTop (mkF m 131 #[.val (.int x0), .val (.int x1), .val (.int x2), .val (.int x3), .val (.int x4), .val (.int x5), .val (.int C0), .val (.int R0), .val (.int P0), .val (.int M0), .val (.int cx), .val (.int cy), .val (.ref b1), .val (.int (1 : Int32)), .unset] [(.int cx), (.ref b1)]))
      obtain ⟨_, T403j121, L403j121, X403j121, ⟨rfl, Nq403j121, K403j121, b', z', f', hJ', hz1, hz2, gb', hf', hfk⟩, st403j121⟩ := own_callV Y hx hZ rfl (y := (⟨"com/example/binlogue/binlogue/json/JsonBuffer", "ascii", "(C)V"⟩ : MethodName)) hown (hw _ (List.mem_of_getElem? (i := 14) rfl)) (hw _ (List.mem_of_getElem? (i := 15) rfl)) (hw _ (List.mem_of_getElem? (i := 17) rfl)) (hw _ (List.mem_of_getElem? (i := 16) rfl)) (hw _ (List.mem_of_getElem? (i := 2) rfl)) (hw _ (List.mem_of_getElem? (i := 18) rfl)) (by decide) (a := b1) hJ.1 (argsL := [(.int cx)]) (rest := []) (own_asc l Z a0 hw b1 cx b z k f _ n0 ZU G_b1 gb hJ (by omega) hkz hz) (by decide) 0 (by decide) (by decide) (by decide) (g := (mkF m 131 #[.val (.int x0), .val (.int x1), .val (.int x2), .val (.int x3), .val (.int x4), .val (.int x5), .val (.int C0), .val (.int R0), .val (.int P0), .val (.int M0), .val (.int cx), .val (.int cy), .val (.ref b1), .val (.int (1 : Int32)), .unset] [(.int cx), (.ref b1)])) rfl (by rw [hml]; rfl) (lenOf own_pd4 rfl) rfl (by show 2 * 0 + _ ≤ _; exact Nat.le_of_eq rfl) (hb hby at_131)
      have N403j121 := Fr.app N Nq403j121
      refine own_go st403j121 ?_
      show own_Fin p e below s (own_Q0 n0) room_1.cells room_1.slots (T403j121.setTop (mkF m 134 #[.val (.int x0), .val (.int x1), .val (.int x2), .val (.int x3), .val (.int x4), .val (.int x5), .val (.int C0), .val (.int R0), .val (.int P0), .val (.int M0), .val (.int cx), .val (.int cy), .val (.ref b1), .val (.int (1 : Int32)), .unset] []))
      have ek : (k + (1 : Int32)).toInt = k.toInt + 1 := by
        have a := c_iadd k 1
        have r := rng32 (k + (1 : Int32))
        have o1 : (1 : Int32).toInt = 1 := by decide
        omega
      exact J134 _ _ _ _ _ _ X403j121 N403j121 gb' hJ' (by omega) (by omega) hz2 (by rw [ek, hkm, if_neg (by omega : ¬ M0.toInt ≤ 1)]; by_cases q : M0.toInt ≤ 2 <;> simp [q] <;> omega) (fun j h1 h2 => by
        have h2' := own_ltT h2
        have hkk : k.toInt = 1 := by rw [hkm, if_neg (by omega : ¬ M0.toInt ≤ 1)]
        by_cases q : j = k
        · rw [q, hfk]
          have e1 : k = (1 : Int32) := Int32.toInt_inj.mp (by rw [hkk]; decide)
          rw [e1]; rfl
        · rw [hf' j h1 (own_Tlt (by have := own_neT q; omega))]; exact hf j h1 (own_Tlt (by have := own_neT q; omega)))
    · refine own_go (fun tgt => XS.icmpYes Y.here hx rfl (pc0 := 124) (pc' := 134) rfl (hb hby at_124) rfl (flt hbr).2.2.2 (by decide) (by decide)) ?_
      show own_Fin p e below s (own_Q0 n0) room_1.cells room_1.slots (U.setTop (mkF m 134 #[.val (.int x0), .val (.int x1), .val (.int x2), .val (.int x3), .val (.int x4), .val (.int x5), .val (.int C0), .val (.int R0), .val (.int P0), .val (.int M0), .val (.int cx), .val (.int cy), .val (.ref b1), .val (.int (1 : Int32)), .unset] []))
      have hc := own_nltT hbr
      have oi : (1 : Int32).toInt = 1 := by decide
      exact J134 _ _ _ _ _ _ (Y.mono (by decide) (by decide)) N gb hJ hk0 hkz hz (by rw [hkm, if_pos (by omega : M0.toInt ≤ 1), if_pos (by omega : M0.toInt ≤ 2)]) hf
  have J109 : ∀ (U : State) (L : List Loc) (b : Addr) (z k : Int32) (f : Int32 → Int32), Stand p l e room_1 s m args below meth c U L 7 81 → Fr n0 L → n0 ≤ b → own_JB Z U.heap b1 b z k f → 0 ≤ k.toInt → k.toInt ≤ z.toInt → z.toInt ≤ 31 → (k.toInt = if M0.toInt ≤ 0 then M0.toInt else 0) → (∀ j : Int32, ¬ j < 0 → j < k → f j = own_E cx cy j) → own_Fin p e below s (own_Q0 n0) room_1.cells room_1.slots (U.setTop (mkF m 109 #[.val (.int x0), .val (.int x1), .val (.int x2), .val (.int x3), .val (.int x4), .val (.int x5), .val (.int C0), .val (.int R0), .val (.int P0), .val (.int M0), .val (.int cx), .val (.int cy), .val (.ref b1), .val (.int (1 : Int32)), .unset] [])) := by
    intro U L b z k f Y N gb hJ hk0 hkz hz hkm hf
    show own_Fin p e below s (own_Q0 n0) room_1.cells room_1.slots (U.setTop (mkF m 109 #[.val (.int x0), .val (.int x1), .val (.int x2), .val (.int x3), .val (.int x4), .val (.int x5), .val (.int C0), .val (.int R0), .val (.int P0), .val (.int M0), .val (.int cx), .val (.int cy), .val (.ref b1), .val (.int (1 : Int32)), .unset] []))
    have ZU : n0 ≤ Array.size U.heap := Nat.le_trans gb (Nat.le_of_lt hJ.2.2.2.1.lt)
    refine own_go (fun tgt => XS.iload Y.here hx rfl (hb hby at_109) rfl) ?_
    show own_Fin p e below s (own_Q0 n0) room_1.cells room_1.slots (U.setTop (mkF m 111 #[.val (.int x0), .val (.int x1), .val (.int x2), .val (.int x3), .val (.int x4), .val (.int x5), .val (.int C0), .val (.int R0), .val (.int P0), .val (.int M0), .val (.int cx), .val (.int cy), .val (.ref b1), .val (.int (1 : Int32)), .unset] [(.int M0)]))
    by_cases hbr : (0 : Int32) < M0
    · refine own_go (fun tgt => XS.ifNo Y.here hx rfl (hb hby at_111) rfl ((if0 _ _).trans (tlt hbr).2.2.2)) ?_
      show own_Fin p e below s (own_Q0 n0) room_1.cells room_1.slots (U.setTop (mkF m 114 #[.val (.int x0), .val (.int x1), .val (.int x2), .val (.int x3), .val (.int x4), .val (.int x5), .val (.int C0), .val (.int R0), .val (.int P0), .val (.int M0), .val (.int cx), .val (.int cy), .val (.ref b1), .val (.int (1 : Int32)), .unset] []))
      have hc := own_ltT hbr
      have oi : (0 : Int32).toInt = 0 := by decide
      refine own_go (fun tgt => XS.aload Y.here hx rfl (hb hby at_114) rfl rfl) ?_
      show own_Fin p e below s (own_Q0 n0) room_1.cells room_1.slots (U.setTop (mkF m 116 #[.val (.int x0), .val (.int x1), .val (.int x2), .val (.int x3), .val (.int x4), .val (.int x5), .val (.int C0), .val (.int R0), .val (.int P0), .val (.int M0), .val (.int cx), .val (.int cy), .val (.ref b1), .val (.int (1 : Int32)), .unset] [(.ref b1)]))
      refine own_go (fun tgt => XS.iload Y.here hx rfl (hb hby at_116) rfl) ?_
      show own_Fin p e below s (own_Q0 n0) room_1.cells room_1.slots (U.setTop (mkF m 118 #[.val (.int x0), .val (.int x1), .val (.int x2), .val (.int x3), .val (.int x4), .val (.int x5), .val (.int C0), .val (.int R0), .val (.int P0), .val (.int M0), .val (.int cx), .val (.int cy), .val (.ref b1), .val (.int (1 : Int32)), .unset] [(.int cy), (.ref b1)]))
      obtain ⟨_, T403j109, L403j109, X403j109, ⟨rfl, Nq403j109, K403j109, b', z', f', hJ', hz1, hz2, gb', hf', hfk⟩, st403j109⟩ := own_callV Y hx hZ rfl (y := (⟨"com/example/binlogue/binlogue/json/JsonBuffer", "ascii", "(C)V"⟩ : MethodName)) hown (hw _ (List.mem_of_getElem? (i := 14) rfl)) (hw _ (List.mem_of_getElem? (i := 15) rfl)) (hw _ (List.mem_of_getElem? (i := 17) rfl)) (hw _ (List.mem_of_getElem? (i := 16) rfl)) (hw _ (List.mem_of_getElem? (i := 2) rfl)) (hw _ (List.mem_of_getElem? (i := 18) rfl)) (by decide) (a := b1) hJ.1 (argsL := [(.int cy)]) (rest := []) (own_asc l Z a0 hw b1 cy b z k f _ n0 ZU G_b1 gb hJ (by omega) hkz hz) (by decide) 0 (by decide) (by decide) (by decide) (g := (mkF m 118 #[.val (.int x0), .val (.int x1), .val (.int x2), .val (.int x3), .val (.int x4), .val (.int x5), .val (.int C0), .val (.int R0), .val (.int P0), .val (.int M0), .val (.int cx), .val (.int cy), .val (.ref b1), .val (.int (1 : Int32)), .unset] [(.int cy), (.ref b1)])) rfl (by rw [hml]; rfl) (lenOf own_pd4 rfl) rfl (by show 2 * 0 + _ ≤ _; exact Nat.le_of_eq rfl) (hb hby at_118)
      have N403j109 := Fr.app N Nq403j109
      refine own_go st403j109 ?_
      show own_Fin p e below s (own_Q0 n0) room_1.cells room_1.slots (T403j109.setTop (mkF m 121 #[.val (.int x0), .val (.int x1), .val (.int x2), .val (.int x3), .val (.int x4), .val (.int x5), .val (.int C0), .val (.int R0), .val (.int P0), .val (.int M0), .val (.int cx), .val (.int cy), .val (.ref b1), .val (.int (1 : Int32)), .unset] []))
      have ek : (k + (1 : Int32)).toInt = k.toInt + 1 := by
        have a := c_iadd k 1
        have r := rng32 (k + (1 : Int32))
        have o1 : (1 : Int32).toInt = 1 := by decide
        omega
      exact J121 _ _ _ _ _ _ X403j109 N403j109 gb' hJ' (by omega) (by omega) hz2 (by rw [ek, hkm, if_neg (by omega : ¬ M0.toInt ≤ 0)]; by_cases q : M0.toInt ≤ 1 <;> simp [q] <;> omega) (fun j h1 h2 => by
        have h2' := own_ltT h2
        have hkk : k.toInt = 0 := by rw [hkm, if_neg (by omega : ¬ M0.toInt ≤ 0)]
        by_cases q : j = k
        · rw [q, hfk]
          have e1 : k = (0 : Int32) := Int32.toInt_inj.mp (by rw [hkk]; decide)
          rw [e1]; rfl
        · rw [hf' j h1 (own_Tlt (by have := own_neT q; omega))]; exact hf j h1 (own_Tlt (by have := own_neT q; omega)))
    · refine own_go (fun tgt => XS.ifYes Y.here hx rfl (pc0 := 111) (pc' := 121) rfl (hb hby at_111) rfl ((if0 _ _).trans (flt hbr).2.2.2) (by decide) (by decide)) ?_
      show own_Fin p e below s (own_Q0 n0) room_1.cells room_1.slots (U.setTop (mkF m 121 #[.val (.int x0), .val (.int x1), .val (.int x2), .val (.int x3), .val (.int x4), .val (.int x5), .val (.int C0), .val (.int R0), .val (.int P0), .val (.int M0), .val (.int cx), .val (.int cy), .val (.ref b1), .val (.int (1 : Int32)), .unset] []))
      have hc := own_nltT hbr
      have oi : (0 : Int32).toInt = 0 := by decide
      exact J121 _ _ _ _ _ _ (Y.mono (by decide) (by decide)) N gb hJ hk0 hkz hz (by rw [hkm, if_pos (by omega : M0.toInt ≤ 0), if_pos (by omega : M0.toInt ≤ 1)]) hf
  have J87 : ∀ (U : State) (L : List Loc) (b : Addr) (z k : Int32) (f : Int32 → Int32), Stand p l e room_1 s m args below meth c U L 6 50 → Fr n0 L → n0 ≤ b → own_JB Z U.heap b1 b z k f → 0 ≤ k.toInt → k.toInt ≤ z.toInt → z.toInt ≤ 31 → k.toInt ≤ 3 → own_Fin p e below s (own_Q0 n0) room_1.cells room_1.slots (U.setTop (mkF m 87 #[.val (.int x0), .val (.int x1), .val (.int x2), .val (.int x3), .val (.int x4), .val (.int x5), .val (.int C0), .val (.int R0), .val (.int P0), .val (.int M0), .val (.int cx), .val (.int cy), .val (.ref b1), .unset, .unset] [])) := by
    intro U L b z k f Y N gb hJ hk0 hkz hz hki
    show own_Fin p e below s (own_Q0 n0) room_1.cells room_1.slots (U.setTop (mkF m 87 #[.val (.int x0), .val (.int x1), .val (.int x2), .val (.int x3), .val (.int x4), .val (.int x5), .val (.int C0), .val (.int R0), .val (.int P0), .val (.int M0), .val (.int cx), .val (.int cy), .val (.ref b1), .unset, .unset] []))
    have ZU : n0 ≤ Array.size U.heap := Nat.le_trans gb (Nat.le_of_lt hJ.2.2.2.1.lt)
    refine own_go (fun tgt => XS.aload Y.here hx rfl (hb hby at_87) rfl rfl) ?_
    show own_Fin p e below s (own_Q0 n0) room_1.cells room_1.slots (U.setTop (mkF m 89 #[.val (.int x0), .val (.int x1), .val (.int x2), .val (.int x3), .val (.int x4), .val (.int x5), .val (.int C0), .val (.int R0), .val (.int P0), .val (.int M0), .val (.int cx), .val (.int cy), .val (.ref b1), .unset, .unset] [(.ref b1)]))
    refine own_go (fun tgt => XS.iload Y.here hx rfl (hb hby at_89) rfl) ?_
    show own_Fin p e below s (own_Q0 n0) room_1.cells room_1.slots (U.setTop (mkF m 91 #[.val (.int x0), .val (.int x1), .val (.int x2), .val (.int x3), .val (.int x4), .val (.int x5), .val (.int C0), .val (.int R0), .val (.int P0), .val (.int M0), .val (.int cx), .val (.int cy), .val (.ref b1), .unset, .unset] [(.int R0), (.ref b1)]))
    obtain ⟨_, T303j87, L303j87, X303j87, ⟨rfl, Nq303j87, K303j87, b', z', f', hJ', hz2, gb'⟩, st303j87⟩ := own_callV Y hx hZ rfl (y := (⟨"com/example/binlogue/binlogue/json/JsonBuffer", "clear", "(I)V"⟩ : MethodName)) hown (hw _ (List.mem_of_getElem? (i := 46) rfl)) (hw _ (List.mem_of_getElem? (i := 47) rfl)) (hw _ (List.mem_of_getElem? (i := 49) rfl)) (hw _ (List.mem_of_getElem? (i := 48) rfl)) (hw _ (List.mem_of_getElem? (i := 2) rfl)) (hw _ (List.mem_of_getElem? (i := 50) rfl)) (by decide) (a := b1) hJ.1 (argsL := [(.int R0)]) (rest := []) (own_clr l Z a0 hw b1 R0 b z k f _ n0 ZU G_b1 gb hJ hz hR.1) (by decide) 0 (by decide) (by decide) (by decide) (g := (mkF m 91 #[.val (.int x0), .val (.int x1), .val (.int x2), .val (.int x3), .val (.int x4), .val (.int x5), .val (.int C0), .val (.int R0), .val (.int P0), .val (.int M0), .val (.int cx), .val (.int cy), .val (.ref b1), .unset, .unset] [(.int R0), (.ref b1)])) rfl (by rw [hml]; rfl) (lenOf own_pd3 rfl) rfl (by show 2 * 0 + _ ≤ _; exact Nat.le_of_eq rfl) (hb hby at_91)
    have N303j87 := Fr.app N Nq303j87
    refine own_go st303j87 ?_
    show own_Fin p e below s (own_Q0 n0) room_1.cells room_1.slots (T303j87.setTop (mkF m 94 #[.val (.int x0), .val (.int x1), .val (.int x2), .val (.int x3), .val (.int x4), .val (.int x5), .val (.int C0), .val (.int R0), .val (.int P0), .val (.int M0), .val (.int cx), .val (.int cy), .val (.ref b1), .unset, .unset] []))
    refine own_go (fun tgt => XS.aload X303j87.here hx rfl (hb hby at_94) rfl rfl) ?_
    show own_Fin p e below s (own_Q0 n0) room_1.cells room_1.slots (T303j87.setTop (mkF m 96 #[.val (.int x0), .val (.int x1), .val (.int x2), .val (.int x3), .val (.int x4), .val (.int x5), .val (.int C0), .val (.int R0), .val (.int P0), .val (.int M0), .val (.int cx), .val (.int cy), .val (.ref b1), .unset, .unset] [(.ref b1)]))
    obtain ⟨T304j87, X304j87, e304j87, st304j87⟩ := own_callVP X303j87 hx hZ rfl (y := (⟨"com/example/binlogue/binlogue/json/JsonBuffer", "length", "()I"⟩ : MethodName)) hown (hw _ (List.mem_of_getElem? (i := 51) rfl)) (hw _ (List.mem_of_getElem? (i := 52) rfl)) (hw _ (List.mem_of_getElem? (i := 54) rfl)) (hw _ (List.mem_of_getElem? (i := 53) rfl)) (hw _ (List.mem_of_getElem? (i := 2) rfl)) (hw _ (List.mem_of_getElem? (i := 55) rfl)) (by decide) (a := b1) hJ'.1 (argsL := []) (rest := []) (own_lng l Z a0 hw b1 (0 : Int32) _ 0 (Nat.zero_le _) hJ'.2.2.1) (by decide) 0 (by decide) (by decide) (by decide) (g := (mkF m 96 #[.val (.int x0), .val (.int x1), .val (.int x2), .val (.int x3), .val (.int x4), .val (.int x5), .val (.int C0), .val (.int R0), .val (.int P0), .val (.int M0), .val (.int cx), .val (.int cy), .val (.ref b1), .unset, .unset] [(.ref b1)])) rfl (by rw [hml]; rfl) (lenOf own_pd5 rfl) rfl (by show 2 * 0 + _ ≤ _; exact Nat.le_of_eq rfl) (hb hby at_96)
    refine own_go st304j87 ?_
    show own_Fin p e below s (own_Q0 n0) room_1.cells room_1.slots (T304j87.setTop (mkF m 99 #[.val (.int x0), .val (.int x1), .val (.int x2), .val (.int x3), .val (.int x4), .val (.int x5), .val (.int C0), .val (.int R0), .val (.int P0), .val (.int M0), .val (.int cx), .val (.int cy), .val (.ref b1), .unset, .unset] [(.int (0 : Int32))]))
    refine own_go (fun tgt => XS.ifNo X304j87.here hx rfl (hb hby at_99) rfl ((if0 _ _).trans (teq rfl).2)) ?_
    show own_Fin p e below s (own_Q0 n0) room_1.cells room_1.slots (T304j87.setTop (mkF m 102 #[.val (.int x0), .val (.int x1), .val (.int x2), .val (.int x3), .val (.int x4), .val (.int x5), .val (.int C0), .val (.int R0), .val (.int P0), .val (.int M0), .val (.int cx), .val (.int cy), .val (.ref b1), .unset, .unset] []))
    refine own_go (fun tgt => XS.iconst X304j87.here hx rfl (hb hby at_102)) ?_
    show own_Fin p e below s (own_Q0 n0) room_1.cells room_1.slots (T304j87.setTop (mkF m 103 #[.val (.int x0), .val (.int x1), .val (.int x2), .val (.int x3), .val (.int x4), .val (.int x5), .val (.int C0), .val (.int R0), .val (.int P0), .val (.int M0), .val (.int cx), .val (.int cy), .val (.ref b1), .unset, .unset] [(.int (1 : Int32))]))
    refine own_go (fun tgt => XS.goto X304j87.here hx rfl (pc0 := 103) (pc' := 107) rfl (hb hby at_103) (by decide) (by decide)) ?_
    show own_Fin p e below s (own_Q0 n0) room_1.cells room_1.slots (T304j87.setTop (mkF m 107 #[.val (.int x0), .val (.int x1), .val (.int x2), .val (.int x3), .val (.int x4), .val (.int x5), .val (.int C0), .val (.int R0), .val (.int P0), .val (.int M0), .val (.int cx), .val (.int cy), .val (.ref b1), .unset, .unset] [(.int (1 : Int32))]))
    refine own_go (fun tgt => XS.istore X304j87.here hx rfl (hb hby at_107) rfl (l' := #[.val (.int x0), .val (.int x1), .val (.int x2), .val (.int x3), .val (.int x4), .val (.int x5), .val (.int C0), .val (.int R0), .val (.int P0), .val (.int M0), .val (.int cx), .val (.int cy), .val (.ref b1), .val (.int (1 : Int32)), .unset]) rfl) ?_
    show own_Fin p e below s (own_Q0 n0) room_1.cells room_1.slots (T304j87.setTop (mkF m 109 #[.val (.int x0), .val (.int x1), .val (.int x2), .val (.int x3), .val (.int x4), .val (.int x5), .val (.int C0), .val (.int R0), .val (.int P0), .val (.int M0), .val (.int cx), .val (.int cy), .val (.ref b1), .val (.int (1 : Int32)), .unset] []))
    have o0 : (0 : Int32).toInt = 0 := by decide
    have z0 := own_nlt0 hJ'.2.2.2.1.nn
    exact J109 _ _ _ _ _ _ X304j87 N303j87 gb' (by rw [e304j87]; exact hJ') (by omega) (by omega) hz2 (by rw [o0]; by_cases q : M0.toInt ≤ 0 <;> simp [q] <;> omega) (fun j h1 h2 => absurd (own_ltT h2) (by have := own_nltT h1; omega))
  have J74 : ∀ (U : State) (L : List Loc) (b : Addr) (z k : Int32) (f : Int32 → Int32), Stand p l e room_1 s m args below meth c U L 5 46 → Fr n0 L → n0 ≤ b → own_JB Z U.heap b1 b z k f → 0 ≤ k.toInt → k.toInt ≤ z.toInt → z.toInt ≤ 31 → k.toInt ≤ 2 → own_Fin p e below s (own_Q0 n0) room_1.cells room_1.slots (U.setTop (mkF m 74 #[.val (.int x0), .val (.int x1), .val (.int x2), .val (.int x3), .val (.int x4), .val (.int x5), .val (.int C0), .val (.int R0), .val (.int P0), .val (.int M0), .val (.int cx), .val (.int cy), .val (.ref b1), .unset, .unset] [])) := by
    intro U L b z k f Y N gb hJ hk0 hkz hz hki
    show own_Fin p e below s (own_Q0 n0) room_1.cells room_1.slots (U.setTop (mkF m 74 #[.val (.int x0), .val (.int x1), .val (.int x2), .val (.int x3), .val (.int x4), .val (.int x5), .val (.int C0), .val (.int R0), .val (.int P0), .val (.int M0), .val (.int cx), .val (.int cy), .val (.ref b1), .unset, .unset] []))
    have ZU : n0 ≤ Array.size U.heap := Nat.le_trans gb (Nat.le_of_lt hJ.2.2.2.1.lt)
    refine own_go (fun tgt => XS.iload Y.here hx rfl (hb hby at_74) rfl) ?_
    show own_Fin p e below s (own_Q0 n0) room_1.cells room_1.slots (U.setTop (mkF m 76 #[.val (.int x0), .val (.int x1), .val (.int x2), .val (.int x3), .val (.int x4), .val (.int x5), .val (.int C0), .val (.int R0), .val (.int P0), .val (.int M0), .val (.int cx), .val (.int cy), .val (.ref b1), .unset, .unset] [(.int P0)]))
    refine own_go (fun tgt => XS.iconst Y.here hx rfl (hb hby at_76)) ?_
    show own_Fin p e below s (own_Q0 n0) room_1.cells room_1.slots (U.setTop (mkF m 77 #[.val (.int x0), .val (.int x1), .val (.int x2), .val (.int x3), .val (.int x4), .val (.int x5), .val (.int C0), .val (.int R0), .val (.int P0), .val (.int M0), .val (.int cx), .val (.int cy), .val (.ref b1), .unset, .unset] [(.int (2 : Int32)), (.int P0)]))
    by_cases hbr : (2 : Int32) < P0
    · refine own_go (fun tgt => XS.icmpNo Y.here hx rfl (hb hby at_77) rfl (tlt hbr).2.2.2) ?_
      show own_Fin p e below s (own_Q0 n0) room_1.cells room_1.slots (U.setTop (mkF m 80 #[.val (.int x0), .val (.int x1), .val (.int x2), .val (.int x3), .val (.int x4), .val (.int x5), .val (.int C0), .val (.int R0), .val (.int P0), .val (.int M0), .val (.int cx), .val (.int cy), .val (.ref b1), .unset, .unset] []))
      have hc := own_ltT hbr
      have oi : (2 : Int32).toInt = 2 := by decide
      refine own_go (fun tgt => XS.aload Y.here hx rfl (hb hby at_80) rfl rfl) ?_
      show own_Fin p e below s (own_Q0 n0) room_1.cells room_1.slots (U.setTop (mkF m 82 #[.val (.int x0), .val (.int x1), .val (.int x2), .val (.int x3), .val (.int x4), .val (.int x5), .val (.int C0), .val (.int R0), .val (.int P0), .val (.int M0), .val (.int cx), .val (.int cy), .val (.ref b1), .unset, .unset] [(.ref b1)]))
      refine own_go (fun tgt => XS.iload Y.here hx rfl (hb hby at_82) rfl) ?_
      show own_Fin p e below s (own_Q0 n0) room_1.cells room_1.slots (U.setTop (mkF m 84 #[.val (.int x0), .val (.int x1), .val (.int x2), .val (.int x3), .val (.int x4), .val (.int x5), .val (.int C0), .val (.int R0), .val (.int P0), .val (.int M0), .val (.int cx), .val (.int cy), .val (.ref b1), .unset, .unset] [(.int cx), (.ref b1)]))
      obtain ⟨_, T403j74, L403j74, X403j74, ⟨rfl, Nq403j74, K403j74, b', z', f', hJ', hz1, hz2, gb', hf', hfk⟩, st403j74⟩ := own_callV Y hx hZ rfl (y := (⟨"com/example/binlogue/binlogue/json/JsonBuffer", "ascii", "(C)V"⟩ : MethodName)) hown (hw _ (List.mem_of_getElem? (i := 14) rfl)) (hw _ (List.mem_of_getElem? (i := 15) rfl)) (hw _ (List.mem_of_getElem? (i := 17) rfl)) (hw _ (List.mem_of_getElem? (i := 16) rfl)) (hw _ (List.mem_of_getElem? (i := 2) rfl)) (hw _ (List.mem_of_getElem? (i := 18) rfl)) (by decide) (a := b1) hJ.1 (argsL := [(.int cx)]) (rest := []) (own_asc l Z a0 hw b1 cx b z k f _ n0 ZU G_b1 gb hJ (by omega) hkz hz) (by decide) 0 (by decide) (by decide) (by decide) (g := (mkF m 84 #[.val (.int x0), .val (.int x1), .val (.int x2), .val (.int x3), .val (.int x4), .val (.int x5), .val (.int C0), .val (.int R0), .val (.int P0), .val (.int M0), .val (.int cx), .val (.int cy), .val (.ref b1), .unset, .unset] [(.int cx), (.ref b1)])) rfl (by rw [hml]; rfl) (lenOf own_pd4 rfl) rfl (by show 2 * 0 + _ ≤ _; exact Nat.le_of_eq rfl) (hb hby at_84)
      have N403j74 := Fr.app N Nq403j74
      refine own_go st403j74 ?_
      show own_Fin p e below s (own_Q0 n0) room_1.cells room_1.slots (T403j74.setTop (mkF m 87 #[.val (.int x0), .val (.int x1), .val (.int x2), .val (.int x3), .val (.int x4), .val (.int x5), .val (.int C0), .val (.int R0), .val (.int P0), .val (.int M0), .val (.int cx), .val (.int cy), .val (.ref b1), .unset, .unset] []))
      have ek : (k + (1 : Int32)).toInt = k.toInt + 1 := by
        have a := c_iadd k 1
        have r := rng32 (k + (1 : Int32))
        have o1 : (1 : Int32).toInt = 1 := by decide
        omega
      exact J87 _ _ _ _ _ _ X403j74 N403j74 gb' hJ' (by omega) (by omega) hz2 (by omega)
    · refine own_go (fun tgt => XS.icmpYes Y.here hx rfl (pc0 := 77) (pc' := 87) rfl (hb hby at_77) rfl (flt hbr).2.2.2 (by decide) (by decide)) ?_
      show own_Fin p e below s (own_Q0 n0) room_1.cells room_1.slots (U.setTop (mkF m 87 #[.val (.int x0), .val (.int x1), .val (.int x2), .val (.int x3), .val (.int x4), .val (.int x5), .val (.int C0), .val (.int R0), .val (.int P0), .val (.int M0), .val (.int cx), .val (.int cy), .val (.ref b1), .unset, .unset] []))
      have hc := own_nltT hbr
      have oi : (2 : Int32).toInt = 2 := by decide
      exact J87 _ _ _ _ _ _ (Y.mono (by decide) (by decide)) N gb hJ hk0 hkz hz (by omega)
  have J61 : ∀ (U : State) (L : List Loc) (b : Addr) (z k : Int32) (f : Int32 → Int32), Stand p l e room_1 s m args below meth c U L 4 42 → Fr n0 L → n0 ≤ b → own_JB Z U.heap b1 b z k f → 0 ≤ k.toInt → k.toInt ≤ z.toInt → z.toInt ≤ 31 → k.toInt ≤ 1 → own_Fin p e below s (own_Q0 n0) room_1.cells room_1.slots (U.setTop (mkF m 61 #[.val (.int x0), .val (.int x1), .val (.int x2), .val (.int x3), .val (.int x4), .val (.int x5), .val (.int C0), .val (.int R0), .val (.int P0), .val (.int M0), .val (.int cx), .val (.int cy), .val (.ref b1), .unset, .unset] [])) := by
    intro U L b z k f Y N gb hJ hk0 hkz hz hki
    show own_Fin p e below s (own_Q0 n0) room_1.cells room_1.slots (U.setTop (mkF m 61 #[.val (.int x0), .val (.int x1), .val (.int x2), .val (.int x3), .val (.int x4), .val (.int x5), .val (.int C0), .val (.int R0), .val (.int P0), .val (.int M0), .val (.int cx), .val (.int cy), .val (.ref b1), .unset, .unset] []))
    have ZU : n0 ≤ Array.size U.heap := Nat.le_trans gb (Nat.le_of_lt hJ.2.2.2.1.lt)
    refine own_go (fun tgt => XS.iload Y.here hx rfl (hb hby at_61) rfl) ?_
    show own_Fin p e below s (own_Q0 n0) room_1.cells room_1.slots (U.setTop (mkF m 63 #[.val (.int x0), .val (.int x1), .val (.int x2), .val (.int x3), .val (.int x4), .val (.int x5), .val (.int C0), .val (.int R0), .val (.int P0), .val (.int M0), .val (.int cx), .val (.int cy), .val (.ref b1), .unset, .unset] [(.int P0)]))
    refine own_go (fun tgt => XS.iconst Y.here hx rfl (hb hby at_63)) ?_
    show own_Fin p e below s (own_Q0 n0) room_1.cells room_1.slots (U.setTop (mkF m 64 #[.val (.int x0), .val (.int x1), .val (.int x2), .val (.int x3), .val (.int x4), .val (.int x5), .val (.int C0), .val (.int R0), .val (.int P0), .val (.int M0), .val (.int cx), .val (.int cy), .val (.ref b1), .unset, .unset] [(.int (1 : Int32)), (.int P0)]))
    by_cases hbr : (1 : Int32) < P0
    · refine own_go (fun tgt => XS.icmpNo Y.here hx rfl (hb hby at_64) rfl (tlt hbr).2.2.2) ?_
      show own_Fin p e below s (own_Q0 n0) room_1.cells room_1.slots (U.setTop (mkF m 67 #[.val (.int x0), .val (.int x1), .val (.int x2), .val (.int x3), .val (.int x4), .val (.int x5), .val (.int C0), .val (.int R0), .val (.int P0), .val (.int M0), .val (.int cx), .val (.int cy), .val (.ref b1), .unset, .unset] []))
      have hc := own_ltT hbr
      have oi : (1 : Int32).toInt = 1 := by decide
      refine own_go (fun tgt => XS.aload Y.here hx rfl (hb hby at_67) rfl rfl) ?_
      show own_Fin p e below s (own_Q0 n0) room_1.cells room_1.slots (U.setTop (mkF m 69 #[.val (.int x0), .val (.int x1), .val (.int x2), .val (.int x3), .val (.int x4), .val (.int x5), .val (.int C0), .val (.int R0), .val (.int P0), .val (.int M0), .val (.int cx), .val (.int cy), .val (.ref b1), .unset, .unset] [(.ref b1)]))
      refine own_go (fun tgt => XS.iload Y.here hx rfl (hb hby at_69) rfl) ?_
      show own_Fin p e below s (own_Q0 n0) room_1.cells room_1.slots (U.setTop (mkF m 71 #[.val (.int x0), .val (.int x1), .val (.int x2), .val (.int x3), .val (.int x4), .val (.int x5), .val (.int C0), .val (.int R0), .val (.int P0), .val (.int M0), .val (.int cx), .val (.int cy), .val (.ref b1), .unset, .unset] [(.int cy), (.ref b1)]))
      obtain ⟨_, T403j61, L403j61, X403j61, ⟨rfl, Nq403j61, K403j61, b', z', f', hJ', hz1, hz2, gb', hf', hfk⟩, st403j61⟩ := own_callV Y hx hZ rfl (y := (⟨"com/example/binlogue/binlogue/json/JsonBuffer", "ascii", "(C)V"⟩ : MethodName)) hown (hw _ (List.mem_of_getElem? (i := 14) rfl)) (hw _ (List.mem_of_getElem? (i := 15) rfl)) (hw _ (List.mem_of_getElem? (i := 17) rfl)) (hw _ (List.mem_of_getElem? (i := 16) rfl)) (hw _ (List.mem_of_getElem? (i := 2) rfl)) (hw _ (List.mem_of_getElem? (i := 18) rfl)) (by decide) (a := b1) hJ.1 (argsL := [(.int cy)]) (rest := []) (own_asc l Z a0 hw b1 cy b z k f _ n0 ZU G_b1 gb hJ (by omega) hkz hz) (by decide) 0 (by decide) (by decide) (by decide) (g := (mkF m 71 #[.val (.int x0), .val (.int x1), .val (.int x2), .val (.int x3), .val (.int x4), .val (.int x5), .val (.int C0), .val (.int R0), .val (.int P0), .val (.int M0), .val (.int cx), .val (.int cy), .val (.ref b1), .unset, .unset] [(.int cy), (.ref b1)])) rfl (by rw [hml]; rfl) (lenOf own_pd4 rfl) rfl (by show 2 * 0 + _ ≤ _; exact Nat.le_of_eq rfl) (hb hby at_71)
      have N403j61 := Fr.app N Nq403j61
      refine own_go st403j61 ?_
      show own_Fin p e below s (own_Q0 n0) room_1.cells room_1.slots (T403j61.setTop (mkF m 74 #[.val (.int x0), .val (.int x1), .val (.int x2), .val (.int x3), .val (.int x4), .val (.int x5), .val (.int C0), .val (.int R0), .val (.int P0), .val (.int M0), .val (.int cx), .val (.int cy), .val (.ref b1), .unset, .unset] []))
      have ek : (k + (1 : Int32)).toInt = k.toInt + 1 := by
        have a := c_iadd k 1
        have r := rng32 (k + (1 : Int32))
        have o1 : (1 : Int32).toInt = 1 := by decide
        omega
      exact J74 _ _ _ _ _ _ X403j61 N403j61 gb' hJ' (by omega) (by omega) hz2 (by omega)
    · refine own_go (fun tgt => XS.icmpYes Y.here hx rfl (pc0 := 64) (pc' := 74) rfl (hb hby at_64) rfl (flt hbr).2.2.2 (by decide) (by decide)) ?_
      show own_Fin p e below s (own_Q0 n0) room_1.cells room_1.slots (U.setTop (mkF m 74 #[.val (.int x0), .val (.int x1), .val (.int x2), .val (.int x3), .val (.int x4), .val (.int x5), .val (.int C0), .val (.int R0), .val (.int P0), .val (.int M0), .val (.int cx), .val (.int cy), .val (.ref b1), .unset, .unset] []))
      have hc := own_nltT hbr
      have oi : (1 : Int32).toInt = 1 := by decide
      exact J74 _ _ _ _ _ _ (Y.mono (by decide) (by decide)) N gb hJ hk0 hkz hz (by omega)
  have J49 : ∀ (U : State) (L : List Loc) (b : Addr) (z k : Int32) (f : Int32 → Int32), Stand p l e room_1 s m args below meth c U L 3 38 → Fr n0 L → n0 ≤ b → own_JB Z U.heap b1 b z k f → 0 ≤ k.toInt → k.toInt ≤ z.toInt → z.toInt ≤ 31 → k.toInt ≤ 0 → own_Fin p e below s (own_Q0 n0) room_1.cells room_1.slots (U.setTop (mkF m 49 #[.val (.int x0), .val (.int x1), .val (.int x2), .val (.int x3), .val (.int x4), .val (.int x5), .val (.int C0), .val (.int R0), .val (.int P0), .val (.int M0), .val (.int cx), .val (.int cy), .val (.ref b1), .unset, .unset] [])) := by
    intro U L b z k f Y N gb hJ hk0 hkz hz hki
    show own_Fin p e below s (own_Q0 n0) room_1.cells room_1.slots (U.setTop (mkF m 49 #[.val (.int x0), .val (.int x1), .val (.int x2), .val (.int x3), .val (.int x4), .val (.int x5), .val (.int C0), .val (.int R0), .val (.int P0), .val (.int M0), .val (.int cx), .val (.int cy), .val (.ref b1), .unset, .unset] []))
    have ZU : n0 ≤ Array.size U.heap := Nat.le_trans gb (Nat.le_of_lt hJ.2.2.2.1.lt)
    refine own_go (fun tgt => XS.iload Y.here hx rfl (hb hby at_49) rfl) ?_
    show own_Fin p e below s (own_Q0 n0) room_1.cells room_1.slots (U.setTop (mkF m 51 #[.val (.int x0), .val (.int x1), .val (.int x2), .val (.int x3), .val (.int x4), .val (.int x5), .val (.int C0), .val (.int R0), .val (.int P0), .val (.int M0), .val (.int cx), .val (.int cy), .val (.ref b1), .unset, .unset] [(.int P0)]))
    by_cases hbr : (0 : Int32) < P0
    · refine own_go (fun tgt => XS.ifNo Y.here hx rfl (hb hby at_51) rfl ((if0 _ _).trans (tlt hbr).2.2.2)) ?_
      show own_Fin p e below s (own_Q0 n0) room_1.cells room_1.slots (U.setTop (mkF m 54 #[.val (.int x0), .val (.int x1), .val (.int x2), .val (.int x3), .val (.int x4), .val (.int x5), .val (.int C0), .val (.int R0), .val (.int P0), .val (.int M0), .val (.int cx), .val (.int cy), .val (.ref b1), .unset, .unset] []))
      have hc := own_ltT hbr
      have oi : (0 : Int32).toInt = 0 := by decide
      refine own_go (fun tgt => XS.aload Y.here hx rfl (hb hby at_54) rfl rfl) ?_
      show own_Fin p e below s (own_Q0 n0) room_1.cells room_1.slots (U.setTop (mkF m 56 #[.val (.int x0), .val (.int x1), .val (.int x2), .val (.int x3), .val (.int x4), .val (.int x5), .val (.int C0), .val (.int R0), .val (.int P0), .val (.int M0), .val (.int cx), .val (.int cy), .val (.ref b1), .unset, .unset] [(.ref b1)]))
      refine own_go (fun tgt => XS.iload Y.here hx rfl (hb hby at_56) rfl) ?_
      show own_Fin p e below s (own_Q0 n0) room_1.cells room_1.slots (U.setTop (mkF m 58 #[.val (.int x0), .val (.int x1), .val (.int x2), .val (.int x3), .val (.int x4), .val (.int x5), .val (.int C0), .val (.int R0), .val (.int P0), .val (.int M0), .val (.int cx), .val (.int cy), .val (.ref b1), .unset, .unset] [(.int cx), (.ref b1)]))
      obtain ⟨_, T403j49, L403j49, X403j49, ⟨rfl, Nq403j49, K403j49, b', z', f', hJ', hz1, hz2, gb', hf', hfk⟩, st403j49⟩ := own_callV Y hx hZ rfl (y := (⟨"com/example/binlogue/binlogue/json/JsonBuffer", "ascii", "(C)V"⟩ : MethodName)) hown (hw _ (List.mem_of_getElem? (i := 14) rfl)) (hw _ (List.mem_of_getElem? (i := 15) rfl)) (hw _ (List.mem_of_getElem? (i := 17) rfl)) (hw _ (List.mem_of_getElem? (i := 16) rfl)) (hw _ (List.mem_of_getElem? (i := 2) rfl)) (hw _ (List.mem_of_getElem? (i := 18) rfl)) (by decide) (a := b1) hJ.1 (argsL := [(.int cx)]) (rest := []) (own_asc l Z a0 hw b1 cx b z k f _ n0 ZU G_b1 gb hJ (by omega) hkz hz) (by decide) 0 (by decide) (by decide) (by decide) (g := (mkF m 58 #[.val (.int x0), .val (.int x1), .val (.int x2), .val (.int x3), .val (.int x4), .val (.int x5), .val (.int C0), .val (.int R0), .val (.int P0), .val (.int M0), .val (.int cx), .val (.int cy), .val (.ref b1), .unset, .unset] [(.int cx), (.ref b1)])) rfl (by rw [hml]; rfl) (lenOf own_pd4 rfl) rfl (by show 2 * 0 + _ ≤ _; exact Nat.le_of_eq rfl) (hb hby at_58)
      have N403j49 := Fr.app N Nq403j49
      refine own_go st403j49 ?_
      show own_Fin p e below s (own_Q0 n0) room_1.cells room_1.slots (T403j49.setTop (mkF m 61 #[.val (.int x0), .val (.int x1), .val (.int x2), .val (.int x3), .val (.int x4), .val (.int x5), .val (.int C0), .val (.int R0), .val (.int P0), .val (.int M0), .val (.int cx), .val (.int cy), .val (.ref b1), .unset, .unset] []))
      have ek : (k + (1 : Int32)).toInt = k.toInt + 1 := by
        have a := c_iadd k 1
        have r := rng32 (k + (1 : Int32))
        have o1 : (1 : Int32).toInt = 1 := by decide
        omega
      exact J61 _ _ _ _ _ _ X403j49 N403j49 gb' hJ' (by omega) (by omega) hz2 (by omega)
    · refine own_go (fun tgt => XS.ifYes Y.here hx rfl (pc0 := 51) (pc' := 61) rfl (hb hby at_51) rfl ((if0 _ _).trans (flt hbr).2.2.2) (by decide) (by decide)) ?_
      show own_Fin p e below s (own_Q0 n0) room_1.cells room_1.slots (U.setTop (mkF m 61 #[.val (.int x0), .val (.int x1), .val (.int x2), .val (.int x3), .val (.int x4), .val (.int x5), .val (.int C0), .val (.int R0), .val (.int P0), .val (.int M0), .val (.int cx), .val (.int cy), .val (.ref b1), .unset, .unset] []))
      have hc := own_nltT hbr
      have oi : (0 : Int32).toInt = 0 := by decide
      exact J61 _ _ _ _ _ _ (Y.mono (by decide) (by decide)) N gb hJ hk0 hkz hz (by omega)
  exact J49 _ _ _ _ _ _ X2 N2 gb0 J0 (by decide) (by have := own_nlt0 J0.2.2.2.1.nn; have o0 : (0 : Int32).toInt = 0 := (by decide); omega) (by omega) (by decide)
theorem own_pn1 : plainName "com/example/binlogue/binlogue/json/JsonBufferClearPinLaw" = true := by first | (simp [plainName, overriddenIn]; done) | decide +kernel
theorem own_rm0 (l : Launch) (Z : State) (a0 : Array Value) (hw : ∀ d ∈ tables_1, d.before a0 Z = true) (ws : List Jvm.Cond) (x0 : Int32) (x1 : Int32) (x2 : Int32) (x3 : Int32) (x4 : Int32) (x5 : Int32) (h0 : Heap) (n0 : Nat) (Z0 : n0 ≤ h0.size) : own_Met l Z x code maxLocals ret ws room_1 #[(.int x0), (.int x1), (.int x2), (.int x3), (.int x4), (.int x5)] h0 (own_Q0 n0) :=
  own_enter (plainFor_of_name own_pn1) (own_ef0 x0 x1 x2 x3 x4 x5) hw (fun p e s m below meth c T X C hh => own_law X C hh x0 x1 x2 x3 x4 x5 n0 Z0)
set_option maxRecDepth 65536 in
set_option maxHeartbeats 40000000 in
theorem own_comes {Post : Tables → Env → Array Value → State → Outcome → State → Prop} (hpost : ∀ tb e args s v u, (limb_1_1.after args s (.returned v) u = true ∧ limb_1_2.after args s (.returned v) u = true ∧ True) → FrameEnd s (.returned v) u (Jvm.fieldLocs frame_1_writes args s ++ Jvm.arrayLocs frame_1_arrays args s ++ Jvm.staticLocs frame_1_statics s) 32 192 → Post tb e args s (.returned v) u) :
    ArmFor flags0 classFile x code maxLocals ret World_1 tables_1 room_1 Calls_1 rest_1 Pre_1 Post := by
  intro l hfl _ _ p e ha hc hk s m args below hf hA hF happ hP
  obtain ⟨hcalls, hrest, hpre⟩ := hP
  obtain ⟨-, -, -, hnamed, -, -, -, hat⟩ := (Spec.applies_iff hf).mp happ
  obtain ⟨hg, hn⟩ := and_e (Cond.before_iff.mp (show (Jvm.Cond.and given_1 narrow_1).before args s = true from hpre))
  obtain ⟨g0, r0⟩ := and_e hg
  obtain ⟨g1, r1⟩ := and_e r0
  obtain ⟨g2, r2⟩ := and_e r1
  obtain ⟨g3, r3⟩ := and_e r2
  obtain ⟨g4, r4⟩ := and_e r3
  obtain ⟨g5, r5⟩ := and_e r4
  obtain ⟨w0, w1, w2, w3, w4, w5, rfl⟩ : ∃ w0 w1 w2 w3 w4 w5 : Value, args = #[w0, w1, w2, w3, w4, w5] := by
    have hs : args.size = 6 := by simpa [Cond.value, given_1] using g0
    obtain ⟨L⟩ := args
    match L, hs with
    | [w0, w1, w2, w3, w4, w5], _ => exact ⟨w0, w1, w2, w3, w4, w5, rfl⟩
  have hw := fun d (hd : d ∈ tables_1) => atoms_spec (ws := Jvm.Cond.code x code maxLocals ret :: tables_1) hat d (List.mem_cons_of_mem _ hd)
  obtain ⟨i0, ei0⟩ := is_v g1
  obtain rfl : w0 = (.int i0) := Option.some.inj ei0
  obtain ⟨i1, ei1⟩ := is_v g2
  obtain rfl : w1 = (.int i1) := Option.some.inj ei1
  obtain ⟨i2, ei2⟩ := is_v g3
  obtain rfl : w2 = (.int i2) := Option.some.inj ei2
  obtain ⟨i3, ei3⟩ := is_v g4
  obtain rfl : w3 = (.int i3) := Option.some.inj ei3
  obtain ⟨i4, ei4⟩ := is_v g5
  obtain rfl : w4 = (.int i4) := Option.some.inj ei4
  obtain ⟨i5, ei5⟩ := is_v r5
  obtain rfl : w5 = (.int i5) := Option.some.inj ei5
  obtain ⟨n, o, h1, h2, h3, _, L, rfl, ⟨rfl, N⟩, hq⟩ := own_rm0 l s _ hw tables_1 i0 i1 i2 i3 i4 i5 s.heap s.heap.size (Nat.le_refl _) p e ha hc hk s m _ below hf ((Spec.applies_iff_loose hf).mp happ).1 ⟨rfl, State.Warmed39.refl s, rfl⟩ trivial
  refine ⟨n, _, h1, h2, h3, hpost _ _ _ _ _ _ ⟨Cond.after_iff.mpr rfl, Cond.after_iff.mpr (eq_i res_at (Term.int_eval (1)) rfl), trivial⟩ ⟨hq.1, hq.2.1, (hq.2.2.sift fun y hy => Or.inr (N y hy)).mono (by decide) (by decide)⟩⟩
theorem main_1_1 : Claimed_1_1 := own_comes fun _ _ _ _ _ _ h hF => ⟨h.1, hF⟩
theorem main_1_2 : Claimed_1_2 := own_comes fun _ _ _ _ _ _ h hF => ⟨h.2.1, hF⟩
end Jvm.Pilot.@@N@@
namespace Jvm.Pilot.@@N@@
open Jvm Jvm.ClassFile Sem Op Lib Jvm.Free Jvm.Stand Jvm.Pilot.@@N@@.Jvm.D
/-! MADE BY PROGRAM (witnessworld.py) out of the Statement's table words and the real class files: 12 classes; the members and pool entries that the words name. The judged class is class 1, her method 1. -/
namespace start1
open Jvm.ClassFile
def u (s : String) : CpInfo := .utf8 (stringToUtf16 s)
/-- a pool by its gaps: so many unusable entries, then the entry; so many at the end -/
def gap : Nat → List CpInfo → List CpInfo
  | 0, r => r
  | n + 1, r => .unusable :: gap n r
def poolList (es : List (Nat × CpInfo)) (last : Nat) : List CpInfo := es.foldr (fun e r => gap e.1 (e.2 :: r)) (gap last [])
def pool (es : List (Nat × CpInfo)) (last : Nat) : Array CpInfo := ⟨poolList es last⟩
def fileOf (pool : Array CpInfo) (this : Nat) (attrs : Array Attribute := #[]) (ms : Array MethodInfo := #[]) (fl : Nat := 33) (sup : Nat := 0) (ifs : Array Nat := #[]) (fds : Array FieldInfo := #[]) : ClassFile where
  minorVersion := 0
  majorVersion := 65
  constantPool := pool
  accessFlags := fl
  thisClass := this
  superClass := sup
  interfaces := ifs
  fields := fds
  methods := ms
  attributes := attrs
def plain (name : String) (sup : Option ClassId) : Class where
  name := name
  kind := .ordinary
  loader := none
  accessFlags := 33
  super := sup
  interfaces := #[]
  cf := none
  fields := #[]
  methods := #[]
  instanceTypes := #[]
  staticTypes := #[]
  resolved := #[]
  callSites := []
  init := .initialized
  statics := none
  mirror := none

def pool0 : Array CpInfo := pool [(5, u "<init>"), (0, u "()V"), (1, .class_ 10), (1, u "java/lang/Object"), (85, u "clone"), (0, u "()Ljava/lang/Object;")] 26

def k0c0 : Code := { maxStack := 0, maxLocals := 1, code := object_method_1_code, exceptionTable := #[], attributes := #[] }
def k0m0 : Method := { name := "<init>", desc := "()V", sig := { parameters := [], returnType := none }, accessFlags := 1, code := some k0c0 }
def k0m1 : Method := { name := "clone", desc := "()Ljava/lang/Object;", sig := { parameters := [], returnType := some (.object "java/lang/Object") }, accessFlags := 260, code := none }
/-- java/lang/Object -/
def k0 : Class := { plain "java/lang/Object" none with
  accessFlags := 33
  interfaces := #[]
  cf := some (fileOf pool0 8 #[] #[{ accessFlags := 1, nameIndex := 5, descriptorIndex := 6, attributes := #[] }, { accessFlags := 260, nameIndex := 96, descriptorIndex := 97, attributes := #[] }] 33 0 #[] #[])
  fields := #[]
  methods := #[k0m0, k0m1]
  instanceTypes := #[]
  staticTypes := #[]
  resolved := Array.replicate 124 none
  statics := none }

def pool1 : Array CpInfo := pool [(2, .class_ 4), (1, u "java/lang/Object"), (0, u "<init>"), (0, u "()V"), (0, .class_ 8), (0, u "com/example/binlogue/binlogue/json/JsonBuffer"), (0, .methodref 7 10), (0, .nameAndType 5 11), (0, u "(I)V"), (0, .methodref 7 13), (0, .nameAndType 14 15), (0, u "ascii"), (0, u "(C)V"), (0, .methodref 7 17), (0, .nameAndType 18 11), (0, u "clear"), (0, .methodref 7 20), (0, .nameAndType 21 22), (0, u "length"), (0, u "()I"), (0, .methodref 7 24), (0, .nameAndType 25 26), (0, u "toByteArray"), (0, u "()[B"), (0, .class_ 28), (0, u "com/example/binlogue/binlogue/json/JsonBufferClearPinLaw"), (2, u "law"), (0, u "(IIIIII)Z")] 5

def k1m0 : Method := { name := "<init>", desc := "()V", sig := { parameters := [], returnType := none }, accessFlags := 1, code := none }
def k1c1 : Code := { maxStack := 3, maxLocals := 15, code := code, exceptionTable := #[], attributes := #[] }
def k1m1 : Method := { name := "law", desc := "(IIIIII)Z", sig := { parameters := [.int, .int, .int, .int, .int, .int], returnType := some .boolean }, accessFlags := 9, code := some k1c1 }
/-- com/example/binlogue/binlogue/json/JsonBufferClearPinLaw -/
def k1 : Class := { plain "com/example/binlogue/binlogue/json/JsonBufferClearPinLaw" (some 0) with
  accessFlags := 49
  interfaces := #[]
  cf := some (fileOf pool1 27 #[] #[{ accessFlags := 1, nameIndex := 5, descriptorIndex := 6, attributes := #[] }, { accessFlags := 9, nameIndex := 31, descriptorIndex := 32, attributes := #[] }] 49 2 #[] #[])
  fields := #[]
  methods := #[k1m0, k1m1]
  instanceTypes := #[]
  staticTypes := #[]
  resolved := Array.replicate 38 none
  statics := none }

def pool2 : Array CpInfo := pool [(3, .methodref 4 5), (0, .class_ 6), (0, .nameAndType 7 8), (0, u "java/lang/Object"), (0, u "<init>"), (0, u "()V"), (0, .fieldref 10 11), (0, .class_ 12), (0, .nameAndType 13 14), (0, u "com/example/binlogue/binlogue/json/JsonBuffer"), (0, u "digits"), (0, u "[B"), (0, .fieldref 10 16), (0, .nameAndType 17 14), (0, u "bytes"), (0, .fieldref 10 19), (0, .nameAndType 20 21), (0, u "length"), (0, u "I"), (4, u "()I"), (0, .methodref 10 28), (0, .nameAndType 29 30), (0, u "ensure"), (0, u "(I)V"), (25, u "ascii"), (0, u "(C)V"), (13, .methodref 72 73), (0, .class_ 74), (0, .nameAndType 75 76), (0, u "java/util/Arrays"), (0, u "copyOf"), (0, u "([BI)[B"), (7, u "HEX_DIGITS"), (0, .integer 2147483639), (7, .long 2147483639), (1, .long 2), (1, .methodref 98 99), (0, .class_ 100), (0, .nameAndType 101 102), (0, u "java/lang/Math"), (0, u "max"), (0, u "(JJ)J"), (0, .methodref 98 104), (0, .nameAndType 105 102), (0, u "min"), (0, u "MAX_SIZE"), (1, u "MAX_ESCAPE_BYTES"), (3, u "clear"), (6, u "toByteArray"), (0, u "()[B")] 10

def k2c0 : Code := { maxStack := 2, maxLocals := 2, code := prog_78_method_1_code, exceptionTable := #[], attributes := #[] }
def k2m0 : Method := { name := "<init>", desc := "(I)V", sig := { parameters := [.int], returnType := none }, accessFlags := 0, code := some k2c0 }
def k2c1 : Code := { maxStack := 2, maxLocals := 2, code := prog_78_method_2_code, exceptionTable := #[], attributes := #[] }
def k2m1 : Method := { name := "clear", desc := "(I)V", sig := { parameters := [.int], returnType := none }, accessFlags := 0, code := some k2c1 }
def k2c2 : Code := { maxStack := 1, maxLocals := 1, code := prog_78_method_3_code, exceptionTable := #[], attributes := #[] }
def k2m2 : Method := { name := "length", desc := "()I", sig := { parameters := [], returnType := some .int }, accessFlags := 0, code := some k2c2 }
def k2c3 : Code := { maxStack := 5, maxLocals := 2, code := prog_78_method_5_code, exceptionTable := #[], attributes := #[] }
def k2m3 : Method := { name := "ascii", desc := "(C)V", sig := { parameters := [.char], returnType := none }, accessFlags := 0, code := some k2c3 }
def k2c4 : Code := { maxStack := 2, maxLocals := 1, code := prog_78_method_10_code, exceptionTable := #[], attributes := #[] }
def k2m4 : Method := { name := "toByteArray", desc := "()[B", sig := { parameters := [], returnType := some (.array .byte) }, accessFlags := 0, code := some k2c4 }
def k2c5 : Code := { maxStack := 10, maxLocals := 2, code := prog_78_method_14_code, exceptionTable := #[], attributes := #[] }
def k2m5 : Method := { name := "ensure", desc := "(I)V", sig := { parameters := [.int], returnType := none }, accessFlags := 2, code := some k2c5 }
/-- com/example/binlogue/binlogue/json/JsonBuffer -/
def k2 : Class := { plain "com/example/binlogue/binlogue/json/JsonBuffer" (some 0) with
  accessFlags := 48
  interfaces := #[]
  cf := some (fileOf pool2 10 #[] #[{ accessFlags := 0, nameIndex := 7, descriptorIndex := 30, attributes := #[] }, { accessFlags := 0, nameIndex := 112, descriptorIndex := 30, attributes := #[] }, { accessFlags := 0, nameIndex := 20, descriptorIndex := 26, attributes := #[] }, { accessFlags := 0, nameIndex := 56, descriptorIndex := 57, attributes := #[] }, { accessFlags := 0, nameIndex := 119, descriptorIndex := 120, attributes := #[] }, { accessFlags := 2, nameIndex := 29, descriptorIndex := 30, attributes := #[] }] 48 4 #[] #[{ accessFlags := 26, nameIndex := 106, descriptorIndex := 21, attributes := #[] }, { accessFlags := 26, nameIndex := 108, descriptorIndex := 21, attributes := #[] }, { accessFlags := 26, nameIndex := 84, descriptorIndex := 14, attributes := #[] }, { accessFlags := 18, nameIndex := 13, descriptorIndex := 14, attributes := #[] }, { accessFlags := 2, nameIndex := 17, descriptorIndex := 14, attributes := #[] }, { accessFlags := 2, nameIndex := 20, descriptorIndex := 21, attributes := #[] }])
  fields := #[{ name := "MAX_SIZE", type := .int, accessFlags := 26, slot := 0, constantValue := 0 }, { name := "MAX_ESCAPE_BYTES", type := .int, accessFlags := 26, slot := 1, constantValue := 0 }, { name := "HEX_DIGITS", type := (.array .byte), accessFlags := 26, slot := 2, constantValue := 0 }, { name := "digits", type := (.array .byte), accessFlags := 18, slot := 0, constantValue := 0 }, { name := "bytes", type := (.array .byte), accessFlags := 2, slot := 1, constantValue := 0 }, { name := "length", type := .int, accessFlags := 2, slot := 2, constantValue := 0 }]
  methods := #[k2m0, k2m1, k2m2, k2m3, k2m4, k2m5]
  instanceTypes := #[(.array .byte), (.array .byte), .int]
  staticTypes := #[.int, .int, (.array .byte)]
  resolved := Array.replicate 131 none
  statics := none }

def pool3 : Array CpInfo := pool [(1, .class_ 2), (0, u "java/lang/Math"), (1, .class_ 6), (1, u "java/lang/Object"), (0, u "<init>"), (0, u "()V"), (89, .class_ 100), (1, u "java/lang/Math$RandomNumberGeneratorHolder"), (20, u "(JJ)J"), (50, u "negativeZeroFloatBits"), (0, u "J"), (2, u "negativeZeroDoubleBits"), (21, u "max"), (2, u "min"), (43, u "$assertionsDisabled"), (0, u "Z"), (88, u "(II)I"), (2, u "twoToTheDoubleScaleDown"), (0, u "D"), (4, u "twoToTheDoubleScaleUp"), (9, u "E"), (3, u "PI"), (2, u "TAU"), (2, u "DEGREES_TO_RADIANS"), (0, u "RADIANS_TO_DEGREES")] 94

def k3m0 : Method := { name := "<init>", desc := "()V", sig := { parameters := [], returnType := none }, accessFlags := 2, code := none }
def k3c1 : Code := { maxStack := 4, maxLocals := 4, code := jdk_29_method_66_code, exceptionTable := #[], attributes := #[] }
def k3m1 : Method := { name := "max", desc := "(JJ)J", sig := { parameters := [.long, .long], returnType := some .long }, accessFlags := 9, code := some k3c1 }
def k3c2 : Code := { maxStack := 2, maxLocals := 2, code := jdk_29_method_69_code, exceptionTable := #[], attributes := #[] }
def k3m2 : Method := { name := "min", desc := "(II)I", sig := { parameters := [.int, .int], returnType := some .int }, accessFlags := 9, code := some k3c2 }
def k3c3 : Code := { maxStack := 4, maxLocals := 4, code := jdk_29_method_70_code, exceptionTable := #[], attributes := #[] }
def k3m3 : Method := { name := "min", desc := "(JJ)J", sig := { parameters := [.long, .long], returnType := some .long }, accessFlags := 9, code := some k3c3 }
/-- java/lang/Math -/
def k3 : Class := { plain "java/lang/Math" (some 0) with
  accessFlags := 49
  interfaces := #[]
  cf := some (fileOf pool3 1 #[.nestMembers #[98]] #[{ accessFlags := 2, nameIndex := 7, descriptorIndex := 8, attributes := #[] }, { accessFlags := 9, nameIndex := 198, descriptorIndex := 121, attributes := #[] }, { accessFlags := 9, nameIndex := 201, descriptorIndex := 335, attributes := #[] }, { accessFlags := 9, nameIndex := 201, descriptorIndex := 121, attributes := #[] }] 49 4 #[] #[{ accessFlags := 25, nameIndex := 354, descriptorIndex := 339, attributes := #[] }, { accessFlags := 25, nameIndex := 358, descriptorIndex := 339, attributes := #[] }, { accessFlags := 25, nameIndex := 361, descriptorIndex := 339, attributes := #[] }, { accessFlags := 26, nameIndex := 364, descriptorIndex := 339, attributes := #[] }, { accessFlags := 26, nameIndex := 365, descriptorIndex := 339, attributes := #[] }, { accessFlags := 26, nameIndex := 172, descriptorIndex := 173, attributes := #[] }, { accessFlags := 26, nameIndex := 176, descriptorIndex := 173, attributes := #[] }, { accessFlags := 8, nameIndex := 344, descriptorIndex := 339, attributes := #[] }, { accessFlags := 8, nameIndex := 338, descriptorIndex := 339, attributes := #[] }, { accessFlags := 4120, nameIndex := 245, descriptorIndex := 246, attributes := #[] }])
  fields := #[{ name := "E", type := .double, accessFlags := 25, slot := 0, constantValue := 0 }, { name := "PI", type := .double, accessFlags := 25, slot := 1, constantValue := 0 }, { name := "TAU", type := .double, accessFlags := 25, slot := 2, constantValue := 0 }, { name := "DEGREES_TO_RADIANS", type := .double, accessFlags := 26, slot := 3, constantValue := 0 }, { name := "RADIANS_TO_DEGREES", type := .double, accessFlags := 26, slot := 4, constantValue := 0 }, { name := "negativeZeroFloatBits", type := .long, accessFlags := 26, slot := 5, constantValue := 0 }, { name := "negativeZeroDoubleBits", type := .long, accessFlags := 26, slot := 6, constantValue := 0 }, { name := "twoToTheDoubleScaleUp", type := .double, accessFlags := 8, slot := 7, constantValue := 0 }, { name := "twoToTheDoubleScaleDown", type := .double, accessFlags := 8, slot := 8, constantValue := 0 }, { name := "$assertionsDisabled", type := .boolean, accessFlags := 4120, slot := 9, constantValue := 0 }]
  methods := #[k3m0, k3m1, k3m2, k3m3]
  instanceTypes := #[]
  staticTypes := #[.double, .double, .double, .double, .double, .long, .long, .double, .double, .boolean]
  resolved := Array.replicate 460 none
  statics := none }

def pool4 : Array CpInfo := pool [(2, .class_ 4), (1, u "java/lang/Object"), (0, u "<init>"), (0, u "()V"), (7, .class_ 16), (1, u "java/util/Arrays"), (57, .class_ 76), (1, u "java/util/Arrays$NaturalOrder"), (32, u "()Ljava/lang/Object;"), (3, .class_ 115), (1, u "java/util/Arrays$LegacyMergeSort"), (1, u "Z"), (10, .nameAndType 129 109), (0, u "clone"), (20, .methodref 151 152), (0, .class_ 153), (0, .nameAndType 154 155), (0, u "java/lang/System"), (0, u "arraycopy"), (0, u "(Ljava/lang/Object;ILjava/lang/Object;II)V"), (146, u "copyOf"), (1, .methodref 305 306), (0, .class_ 307), (0, .nameAndType 308 309), (0, u "java/lang/Math"), (0, u "min"), (0, u "(II)I"), (0, .methodref 311 128), (0, .class_ 312), (0, u "[B"), (62, .class_ 376), (0, u "java/util/Arrays$ArrayList"), (68, u "$assertionsDisabled"), (269, u "MIN_ARRAY_SORT_GRAN"), (0, u "I"), (2, u "INSERTIONSORT_THRESHOLD"), (149, u "([BI)[B"), (105, .class_ 976), (0, u "java/util/Arrays$ArrayItr")] 52

def k4m0 : Method := { name := "<init>", desc := "()V", sig := { parameters := [], returnType := none }, accessFlags := 2, code := none }
def k4c1 : Code := { maxStack := 6, maxLocals := 3, code := jdk_65_method_121_code, exceptionTable := #[], attributes := #[] }
def k4m1 : Method := { name := "copyOf", desc := "([BI)[B", sig := { parameters := [(.array .byte), .int], returnType := some (.array .byte) }, accessFlags := 9, code := some k4c1 }
/-- java/util/Arrays -/
def k4 : Class := { plain "java/util/Arrays" (some 0) with
  accessFlags := 49
  interfaces := #[]
  cf := some (fileOf pool4 14 #[.nestMembers #[975, 375, 113, 74]] #[{ accessFlags := 2, nameIndex := 5, descriptorIndex := 6, attributes := #[] }, { accessFlags := 9, nameIndex := 302, descriptorIndex := 869, attributes := #[] }] 49 2 #[] #[{ accessFlags := 26, nameIndex := 715, descriptorIndex := 716, attributes := #[] }, { accessFlags := 26, nameIndex := 719, descriptorIndex := 716, attributes := #[] }, { accessFlags := 4120, nameIndex := 445, descriptorIndex := 117, attributes := #[] }])
  fields := #[{ name := "MIN_ARRAY_SORT_GRAN", type := .int, accessFlags := 26, slot := 0, constantValue := 0 }, { name := "INSERTIONSORT_THRESHOLD", type := .int, accessFlags := 26, slot := 1, constantValue := 0 }, { name := "$assertionsDisabled", type := .boolean, accessFlags := 4120, slot := 2, constantValue := 0 }]
  methods := #[k4m0, k4m1]
  instanceTypes := #[]
  staticTypes := #[.int, .int, .boolean]
  resolved := Array.replicate 1029 none
  statics := none }

def pool5 : Array CpInfo := pool [(2, .class_ 4), (1, u "java/lang/Object"), (0, u "<init>"), (0, u "()V"), (1, .class_ 10), (1, u "java/lang/System"), (0, u "allowSecurityManager"), (0, u "I"), (16, u "cons"), (0, u "Ljava/io/Console;"), (77, .class_ 110), (1, u "java/lang/System$CallersHolder"), (43, u "initialErrStream"), (0, u "Ljava/io/PrintStream;"), (19, u "security"), (0, u "Ljava/lang/SecurityManager;"), (31, .class_ 209), (0, u "java/lang/System$1"), (7, u "props"), (0, u "Ljava/util/Properties;"), (2, u "lineSeparator"), (0, u "Ljava/lang/String;"), (96, .class_ 321), (1, u "java/lang/System$LoggerFinder"), (5, .class_ 328), (0, u "java/lang/System$Logger"), (67, u "err"), (2, u "out"), (91, u "notSupportedJnuEncoding"), (15, u "in"), (17, u "initialIn"), (0, u "Ljava/io/InputStream;"), (35, u "bootLayer"), (0, u "Ljava/lang/ModuleLayer;"), (99, .class_ 664), (0, u "java/lang/System$2"), (9, u "NEVER"), (2, u "MAYBE"), (49, u "arraycopy"), (0, u "(Ljava/lang/Object;ILjava/lang/Object;II)V"), (72, .class_ 802), (0, u "java/lang/System$Logger$Level")] 31

def k5m0 : Method := { name := "<init>", desc := "()V", sig := { parameters := [], returnType := none }, accessFlags := 2, code := none }
def k5m1 : Method := { name := "arraycopy", desc := "(Ljava/lang/Object;ILjava/lang/Object;II)V", sig := { parameters := [(.object "java/lang/Object"), .int, (.object "java/lang/Object"), .int, .int], returnType := none }, accessFlags := 265, code := none }
/-- java/lang/System -/
def k5 : Class := { plain "java/lang/System" (some 0) with
  accessFlags := 49
  interfaces := #[]
  cf := some (fileOf pool5 8 #[.nestMembers #[319, 327, 801, 108, 663, 208]] #[{ accessFlags := 2, nameIndex := 5, descriptorIndex := 6, attributes := #[] }, { accessFlags := 265, nameIndex := 727, descriptorIndex := 728, attributes := #[] }] 49 2 #[] #[{ accessFlags := 25, nameIndex := 507, descriptorIndex := 526, attributes := #[] }, { accessFlags := 25, nameIndex := 399, descriptorIndex := 155, attributes := #[] }, { accessFlags := 25, nameIndex := 396, descriptorIndex := 155, attributes := #[] }, { accessFlags := 10, nameIndex := 525, descriptorIndex := 526, attributes := #[] }, { accessFlags := 26, nameIndex := 674, descriptorIndex := 12, attributes := #[] }, { accessFlags := 26, nameIndex := 677, descriptorIndex := 12, attributes := #[] }, { accessFlags := 10, nameIndex := 11, descriptorIndex := 12, attributes := #[] }, { accessFlags := 74, nameIndex := 175, descriptorIndex := 176, attributes := #[] }, { accessFlags := 10, nameIndex := 491, descriptorIndex := 222, attributes := #[] }, { accessFlags := 74, nameIndex := 29, descriptorIndex := 30, attributes := #[] }, { accessFlags := 74, nameIndex := 154, descriptorIndex := 155, attributes := #[] }, { accessFlags := 10, nameIndex := 217, descriptorIndex := 218, attributes := #[] }, { accessFlags := 10, nameIndex := 221, descriptorIndex := 222, attributes := #[] }, { accessFlags := 8, nameIndex := 562, descriptorIndex := 563, attributes := #[] }])
  fields := #[{ name := "in", type := (.object "java/io/InputStream"), accessFlags := 25, slot := 0, constantValue := 0 }, { name := "out", type := (.object "java/io/PrintStream"), accessFlags := 25, slot := 1, constantValue := 0 }, { name := "err", type := (.object "java/io/PrintStream"), accessFlags := 25, slot := 2, constantValue := 0 }, { name := "initialIn", type := (.object "java/io/InputStream"), accessFlags := 10, slot := 3, constantValue := 0 }, { name := "NEVER", type := .int, accessFlags := 26, slot := 4, constantValue := 0 }, { name := "MAYBE", type := .int, accessFlags := 26, slot := 5, constantValue := 0 }, { name := "allowSecurityManager", type := .int, accessFlags := 10, slot := 6, constantValue := 0 }, { name := "security", type := (.object "java/lang/SecurityManager"), accessFlags := 74, slot := 7, constantValue := 0 }, { name := "notSupportedJnuEncoding", type := (.object "java/lang/String"), accessFlags := 10, slot := 8, constantValue := 0 }, { name := "cons", type := (.object "java/io/Console"), accessFlags := 74, slot := 9, constantValue := 0 }, { name := "initialErrStream", type := (.object "java/io/PrintStream"), accessFlags := 74, slot := 10, constantValue := 0 }, { name := "props", type := (.object "java/util/Properties"), accessFlags := 10, slot := 11, constantValue := 0 }, { name := "lineSeparator", type := (.object "java/lang/String"), accessFlags := 10, slot := 12, constantValue := 0 }, { name := "bootLayer", type := (.object "java/lang/ModuleLayer"), accessFlags := 8, slot := 13, constantValue := 0 }]
  methods := #[k5m0, k5m1]
  instanceTypes := #[]
  staticTypes := #[(.object "java/io/InputStream"), (.object "java/io/PrintStream"), (.object "java/io/PrintStream"), (.object "java/io/InputStream"), .int, .int, .int, (.object "java/lang/SecurityManager"), (.object "java/lang/String"), (.object "java/io/Console"), (.object "java/io/PrintStream"), (.object "java/util/Properties"), (.object "java/lang/String"), (.object "java/lang/ModuleLayer")]
  resolved := Array.replicate 834 none
  statics := none }

def pool6 : Array CpInfo := pool [(1, .class_ 2), (0, u "java/lang/Cloneable"), (0, .class_ 4), (0, u "java/lang/Object")] 2

/-- java/lang/Cloneable -/
def k6 : Class := { plain "java/lang/Cloneable" (some 0) with
  accessFlags := 1537
  interfaces := #[]
  cf := some (fileOf pool6 1 #[] #[] 1537 3 #[] #[])
  fields := #[]
  methods := #[]
  instanceTypes := #[]
  staticTypes := #[]
  resolved := Array.replicate 7 none
  statics := none }

def pool7 : Array CpInfo := pool [(1, u "java/io/Serializable"), (0, .class_ 1), (0, u "java/lang/Object"), (0, .class_ 3)] 3

/-- java/io/Serializable -/
def k7 : Class := { plain "java/io/Serializable" (some 0) with
  accessFlags := 1537
  interfaces := #[]
  cf := some (fileOf pool7 2 #[] #[] 1537 4 #[] #[])
  fields := #[]
  methods := #[]
  instanceTypes := #[]
  staticTypes := #[]
  resolved := Array.replicate 8 none
  statics := none }

/-- the primitive byte -/
def k8 : Class := { plain "byte" none with kind := .primitive 'B', accessFlags := 0x411 }
/-- [B -/
def k9 : Class := { plain "[B" (some 0) with kind := .array 8 .byte, interfaces := #[6, 7], accessFlags := 1041 }

/-- the primitive int -/
def k10 : Class := { plain "int" none with kind := .primitive 'I', accessFlags := 0x411 }
/-- [I -/
def k11 : Class := { plain "[I" (some 0) with kind := .array 10 .int, interfaces := #[6, 7], accessFlags := 1041 }

def heap : Heap := #[]
def classes : Array Class := #[k0, k1, k2, k3, k4, k5, k6, k7, k8, k9, k10, k11]
def interned : List (Array UInt16 × Addr) := []
def slotsUsed : Nat := 0
def theMethod : MethodId := ⟨1, 1⟩
def args0 : Array Value := #[.int 5, .int 3, .int 2, .int 1, .int 0, .int 2]
def aboutOver (below : List Frame) : State where
  vm := { classes := classes, interned := interned.toArray }
  heap := heap
  slotsUsed := slotsUsed
  threads := #[{ frames := .invoking theMethod args0 :: below }]
def below0 : List Frame := [.native { method := ⟨0, 0⟩, args := #[] }]
def about1 : State := aboutOver below0
def p0 : Program := .bare "" "" ""
def e0 : Env := launch0.env 0 0 0
theorem w_frames : about1.frames = Frame.invoking theMethod args0 :: below0 := rfl
set_option maxRecDepth 65536 in
theorem w_args : argsFit about1.vm theMethod args0 = true := by decide +kernel
set_option maxRecDepth 65536 in
theorem w_heap : heapFits about1 = true := by decide +kernel
set_option maxRecDepth 65536 in
theorem w_runnable : about1.curStatus? = some .runnable := by decide +kernel
set_option maxRecDepth 65536 in
theorem w_alone : about1.alone = true := by decide +kernel
set_option maxRecDepth 65536 in
theorem w_named : about1.methodNamed? x = some theMethod := by decide +kernel
set_option maxRecDepth 65536 in
theorem w_hears : about1.hears theMethod below0 = true := by decide +kernel
set_option maxRecDepth 65536 in
theorem w_ripe : about1.ripe theMethod args0 below0 = true := by decide +kernel
theorem w_running : about1.status = .running := rfl
set_option maxRecDepth 65536 in
theorem w_room : about1.hasRoom e0.platform room_1 = true :=
  launch0.hasRoom_least _ room_1 (by decide +kernel) (by decide +kernel) (by decide +kernel) (by decide +kernel) (by decide +kernel) (by decide +kernel)
theorem allAtoms_all (ts : List Jvm.Cond) (a : Array Jvm.Value) (st : Jvm.State) : (allAtoms ts).before a st = ts.all (fun c => c.before a st) := by
  induction ts with
  | nil => rfl
  | cons c t ih =>
    show (Jvm.Cond.and c (allAtoms t)).before a st = _
    rw [Jvm.Cond.before_and, ih, List.all_cons]
def words1 : List Jvm.Cond := Jvm.Cond.code x code maxLocals ret :: tables_1
/-- a 'code' word, met by the world's own term for the bytes: nothing is compared byte by byte -/
theorem code_word {y : MethodName} {bytes : ByteArray} {mx : Nat} {rt : Option FieldType} {a : Array Value} {s : State} {m : MethodId} {meth : Method} {c : Code} (h1 : s.methodNamed? y = some m) (h2 : s.vm.method? m = some meth) (h3 : meth.code = some c) (h4 : c.code = bytes)
    (h5 : (c.maxLocals == mx && c.exceptionTable.isEmpty && decide (c.maxStack ≤ mostOperands) && decide (meth.sig.returnType = rt) && !meth.locks && decide (parseMethodDescriptor y.desc = some meth.sig)) = true) : (Jvm.Cond.code y bytes mx rt).before a s = true := by
  simp only [Bool.and_eq_true, beq_iff_eq, Bool.not_eq_true', decide_eq_true_eq] at h5
  obtain ⟨⟨⟨⟨⟨g1, g2⟩, g3⟩, g4⟩, g5⟩, g6⟩ := h5
  simp [Cond.before, Cond.holds, Cond.value, h1, h2, h3, h4, g1, g2, g3, g4, g5, g6]
def isCode : Jvm.Cond → Bool
  | .code _ _ _ _ => true
  | _ => false
theorem all_split {L : List Jvm.Cond} {P : Jvm.Cond → Bool} (h1 : L.all (fun c => isCode c || P c) = true) (h2 : ∀ c ∈ L.filter isCode, P c = true) : L.all P = true := by
  refine List.all_eq_true.mpr fun c hc => ?_
  have h := List.all_eq_true.mp h1 c hc
  rcases Bool.eq_false_or_eq_true (isCode c) with hi | hi
  · exact h2 c (List.mem_filter.mpr ⟨hc, hi⟩)
  · simpa [hi] using h
set_option maxRecDepth 65536 in
theorem w_c0 : (Jvm.Cond.code x code maxLocals ret).before args0 about1 = true := code_word (m := ⟨1, 1⟩) (meth := k1m1) (c := k1c1) (by decide +kernel) rfl rfl rfl (by decide +kernel)
set_option maxRecDepth 65536 in
theorem w_c1 : (Jvm.Cond.code ({ cls := "com/example/binlogue/binlogue/json/JsonBuffer", name := "<init>", desc := "(I)V" } : Jvm.MethodName) prog_78_method_1_code (2 : Nat) (Option.none : Option Jvm.ClassFile.FieldType)).before args0 about1 = true := code_word (m := ⟨2, 0⟩) (meth := k2m0) (c := k2c0) (by decide +kernel) rfl rfl rfl (by decide +kernel)
set_option maxRecDepth 65536 in
theorem w_c2 : (Jvm.Cond.code ({ cls := "java/lang/Object", name := "<init>", desc := "()V" } : Jvm.MethodName) object_method_1_code (1 : Nat) (Option.none : Option Jvm.ClassFile.FieldType)).before args0 about1 = true := code_word (m := ⟨0, 0⟩) (meth := k0m0) (c := k0c0) (by decide +kernel) rfl rfl rfl (by decide +kernel)
set_option maxRecDepth 65536 in
theorem w_c3 : (Jvm.Cond.code ({ cls := "com/example/binlogue/binlogue/json/JsonBuffer", name := "ascii", desc := "(C)V" } : Jvm.MethodName) prog_78_method_5_code (2 : Nat) (Option.none : Option Jvm.ClassFile.FieldType)).before args0 about1 = true := code_word (m := ⟨2, 3⟩) (meth := k2m3) (c := k2c3) (by decide +kernel) rfl rfl rfl (by decide +kernel)
set_option maxRecDepth 65536 in
theorem w_c4 : (Jvm.Cond.code ({ cls := "com/example/binlogue/binlogue/json/JsonBuffer", name := "ensure", desc := "(I)V" } : Jvm.MethodName) prog_78_method_14_code (2 : Nat) (Option.none : Option Jvm.ClassFile.FieldType)).before args0 about1 = true := code_word (m := ⟨2, 5⟩) (meth := k2m5) (c := k2c5) (by decide +kernel) rfl rfl rfl (by decide +kernel)
set_option maxRecDepth 65536 in
theorem w_c5 : (Jvm.Cond.code ({ cls := "java/lang/Math", name := "max", desc := "(JJ)J" } : Jvm.MethodName) jdk_29_method_66_code (4 : Nat) (Option.some Jvm.ClassFile.FieldType.long)).before args0 about1 = true := code_word (m := ⟨3, 1⟩) (meth := k3m1) (c := k3c1) (by decide +kernel) rfl rfl rfl (by decide +kernel)
set_option maxRecDepth 65536 in
theorem w_c6 : (Jvm.Cond.code ({ cls := "java/lang/Math", name := "min", desc := "(JJ)J" } : Jvm.MethodName) jdk_29_method_70_code (4 : Nat) (Option.some Jvm.ClassFile.FieldType.long)).before args0 about1 = true := code_word (m := ⟨3, 3⟩) (meth := k3m3) (c := k3c3) (by decide +kernel) rfl rfl rfl (by decide +kernel)
set_option maxRecDepth 65536 in
theorem w_c7 : (Jvm.Cond.code ({ cls := "java/util/Arrays", name := "copyOf", desc := "([BI)[B" } : Jvm.MethodName) jdk_65_method_121_code (3 : Nat) (Option.some (Jvm.ClassFile.FieldType.array Jvm.ClassFile.FieldType.byte))).before args0 about1 = true := code_word (m := ⟨4, 1⟩) (meth := k4m1) (c := k4c1) (by decide +kernel) rfl rfl rfl (by decide +kernel)
set_option maxRecDepth 65536 in
theorem w_c8 : (Jvm.Cond.code ({ cls := "java/lang/Math", name := "min", desc := "(II)I" } : Jvm.MethodName) jdk_29_method_69_code (2 : Nat) (Option.some Jvm.ClassFile.FieldType.int)).before args0 about1 = true := code_word (m := ⟨3, 2⟩) (meth := k3m2) (c := k3c2) (by decide +kernel) rfl rfl rfl (by decide +kernel)
set_option maxRecDepth 65536 in
theorem w_c9 : (Jvm.Cond.code ({ cls := "com/example/binlogue/binlogue/json/JsonBuffer", name := "clear", desc := "(I)V" } : Jvm.MethodName) prog_78_method_2_code (2 : Nat) (Option.none : Option Jvm.ClassFile.FieldType)).before args0 about1 = true := code_word (m := ⟨2, 1⟩) (meth := k2m1) (c := k2c1) (by decide +kernel) rfl rfl rfl (by decide +kernel)
set_option maxRecDepth 65536 in
theorem w_c10 : (Jvm.Cond.code ({ cls := "com/example/binlogue/binlogue/json/JsonBuffer", name := "length", desc := "()I" } : Jvm.MethodName) prog_78_method_3_code (1 : Nat) (Option.some Jvm.ClassFile.FieldType.int)).before args0 about1 = true := code_word (m := ⟨2, 2⟩) (meth := k2m2) (c := k2c2) (by decide +kernel) rfl rfl rfl (by decide +kernel)
set_option maxRecDepth 65536 in
theorem w_c11 : (Jvm.Cond.code ({ cls := "com/example/binlogue/binlogue/json/JsonBuffer", name := "toByteArray", desc := "()[B" } : Jvm.MethodName) prog_78_method_10_code (1 : Nat) (Option.some (Jvm.ClassFile.FieldType.array Jvm.ClassFile.FieldType.byte))).before args0 about1 = true := code_word (m := ⟨2, 4⟩) (meth := k2m4) (c := k2c4) (by decide +kernel) rfl rfl rfl (by decide +kernel)
def codes1 : List Jvm.Cond := [Jvm.Cond.code x code maxLocals ret, Jvm.Cond.code ({ cls := "com/example/binlogue/binlogue/json/JsonBuffer", name := "<init>", desc := "(I)V" } : Jvm.MethodName) prog_78_method_1_code (2 : Nat) (Option.none : Option Jvm.ClassFile.FieldType), Jvm.Cond.code ({ cls := "java/lang/Object", name := "<init>", desc := "()V" } : Jvm.MethodName) object_method_1_code (1 : Nat) (Option.none : Option Jvm.ClassFile.FieldType), Jvm.Cond.code ({ cls := "com/example/binlogue/binlogue/json/JsonBuffer", name := "ascii", desc := "(C)V" } : Jvm.MethodName) prog_78_method_5_code (2 : Nat) (Option.none : Option Jvm.ClassFile.FieldType), Jvm.Cond.code ({ cls := "com/example/binlogue/binlogue/json/JsonBuffer", name := "ensure", desc := "(I)V" } : Jvm.MethodName) prog_78_method_14_code (2 : Nat) (Option.none : Option Jvm.ClassFile.FieldType), Jvm.Cond.code ({ cls := "java/lang/Math", name := "max", desc := "(JJ)J" } : Jvm.MethodName) jdk_29_method_66_code (4 : Nat) (Option.some Jvm.ClassFile.FieldType.long), Jvm.Cond.code ({ cls := "java/lang/Math", name := "min", desc := "(JJ)J" } : Jvm.MethodName) jdk_29_method_70_code (4 : Nat) (Option.some Jvm.ClassFile.FieldType.long), Jvm.Cond.code ({ cls := "java/util/Arrays", name := "copyOf", desc := "([BI)[B" } : Jvm.MethodName) jdk_65_method_121_code (3 : Nat) (Option.some (Jvm.ClassFile.FieldType.array Jvm.ClassFile.FieldType.byte)), Jvm.Cond.code ({ cls := "java/lang/Math", name := "min", desc := "(II)I" } : Jvm.MethodName) jdk_29_method_69_code (2 : Nat) (Option.some Jvm.ClassFile.FieldType.int), Jvm.Cond.code ({ cls := "com/example/binlogue/binlogue/json/JsonBuffer", name := "clear", desc := "(I)V" } : Jvm.MethodName) prog_78_method_2_code (2 : Nat) (Option.none : Option Jvm.ClassFile.FieldType), Jvm.Cond.code ({ cls := "com/example/binlogue/binlogue/json/JsonBuffer", name := "length", desc := "()I" } : Jvm.MethodName) prog_78_method_3_code (1 : Nat) (Option.some Jvm.ClassFile.FieldType.int), Jvm.Cond.code ({ cls := "com/example/binlogue/binlogue/json/JsonBuffer", name := "toByteArray", desc := "()[B" } : Jvm.MethodName) prog_78_method_10_code (1 : Nat) (Option.some (Jvm.ClassFile.FieldType.array Jvm.ClassFile.FieldType.byte))]
set_option maxRecDepth 65536 in
theorem codes_eq : words1.filter isCode = codes1 := rfl
theorem w_codes : ∀ c ∈ words1.filter isCode, c.before args0 about1 = true := by
  rw [codes_eq]
  intro c hc
  simp only [codes1, List.mem_cons, List.not_mem_nil, or_false] at hc
  rcases hc with rfl | rfl | rfl | rfl | rfl | rfl | rfl | rfl | rfl | rfl | rfl | rfl
  · exact w_c0
  · exact w_c1
  · exact w_c2
  · exact w_c3
  · exact w_c4
  · exact w_c5
  · exact w_c6
  · exact w_c7
  · exact w_c8
  · exact w_c9
  · exact w_c10
  · exact w_c11
set_option maxRecDepth 65536 in
theorem w_t1 : (words1.take 24).all (fun c => isCode c || c.before args0 about1) = true := by decide +kernel
set_option maxRecDepth 65536 in
theorem w_t2 : ((words1.drop 24).take 24).all (fun c => isCode c || c.before args0 about1) = true := by decide +kernel
set_option maxRecDepth 65536 in
theorem w_t3 : ((words1.drop 24).drop 24).all (fun c => isCode c || c.before args0 about1) = true := by decide +kernel
theorem w_tables : (allAtoms (Jvm.Cond.code x code maxLocals ret :: tables_1)).before args0 about1 = true := by
  rw [allAtoms_all]
  show words1.all (fun c => c.before args0 about1) = true
  refine all_split ?_ w_codes
  rw [← List.take_append_drop 24 words1, List.all_append, w_t1, ← List.take_append_drop 24 (words1.drop 24), List.all_append, w_t2, w_t3]
  rfl
set_option maxRecDepth 65536 in
theorem w_case : (Jvm.Cond.and given_1 narrow_1).before args0 about1 = true := by decide +kernel
theorem w_applies : (headSpec (Jvm.Cond.code x code maxLocals ret :: tables_1) room_1).applies x e0.platform about1 = true :=
  (Spec.applies_iff w_frames).mpr ⟨w_running, w_runnable, w_alone, w_named, w_hears, w_ripe, w_room, w_tables⟩
theorem atStart : AtStart classFile x code maxLocals ret World_1 tables_1 room_1 Calls_1 rest_1 Pre_1 launch0 p0 e0 about1 theMethod args0 below0 :=
  ⟨lists_1, trivial, launch0.admits_env _ _ _, launch0.least_env, fairChoices_fair.cas, fairChoices_fair.clock, w_frames, w_args, w_heap, w_applies, trivial, trivial, w_case⟩
end start1
theorem witness_1 : WitnessClaimed_1 := ⟨start1.p0, start1.e0, start1.about1, start1.theMethod, start1.args0, start1.below0, start1.atStart⟩
end Jvm.Pilot.@@N@@
