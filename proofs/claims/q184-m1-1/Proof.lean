import JvmDerived
import JvmDerived.Pilot.@@N@@Statement
import JvmDerived.Pilot.@@N@@Code
set_option linter.unusedVariables false
set_option linter.unusedSimpArgs false
namespace Jvm.RoadKit
open Sem ClassFile Op Lib Jvm.Stand Jvm.Free Jvm.LawKit
section OwnKit
variable {p : Program} {l : Launch} {e : Env} {R : Room} {s : State} {m : MethodId} {args : Array Value} {below : List Frame} {meth : Method} {c : Code} {T : State} {locs : List Loc} {cells slots : Nat} {Z : State} {a0 : Array Value} {Q : Option Value → Heap → List Loc → Prop} {kc ks : Nat}
/-- the run from A ends, returns, and leaves what Q says -/
def own_Fin (p : Program) (e : Env) (below : List Frame) (s : State) (Q : Option Value → Heap → List Loc → Prop) (kc ks : Nat) (A : State) : Prop :=
  ∃ s₂ o, Steps p.tables e below A s₂ ∧ s₂.status = .running ∧ Ended s₂ below o ∧ ∃ v L, o = .returned v ∧ Q v s₂.heap L ∧ FrameEnd s o s₂ L kc ks
theorem own_go {A A' : State} (h : ∀ t, Steps p.tables e below A' t → Steps p.tables e below A t) (k : own_Fin p e below s Q kc ks A') : own_Fin p e below s Q kc ks A := by
  obtain ⟨s₂, o, h1, r⟩ := k
  exact ⟨s₂, o, h _ h1, r⟩
theorem own_to {A A' : State} (h : Steps p.tables e below A A') (k : own_Fin p e below s Q kc ks A') : own_Fin p e below s Q kc ks A := own_go (fun _ q => h.trans q) k
theorem own_mono {A : State} {Q' : Option Value → Heap → List Loc → Prop} (k : own_Fin p e below s Q kc ks A) (q : ∀ v h L, Q v h L → Q' v h L) : own_Fin p e below s Q' kc ks A := by
  obtain ⟨s₂, o, h1, h2, h3, v, L, h4, h5, h6⟩ := k
  exact ⟨s₂, o, h1, h2, h3, v, L, h4, q _ _ _ h5, h6⟩
/-- what a body knows of itself -/
def own_Ctx (p : Program) (s : State) (m : MethodId) (meth : Method) (c : Code) (Z : State) (a0 : Array Value) (tb : List Cond) (y : MethodName) (bytes : ByteArray) (maxL : Nat) (ret : Option FieldType) : Prop :=
  p.tables.exec = Jvm.exec ∧ c.code = bytes ∧ c.maxLocals = maxL ∧ Z.Warmed39 s.vm ∧ s.vm.findClass y.cls = some m.cls ∧ meth.name = y.name ∧ meth.sig.returnType = ret ∧ meth.locks = false ∧ (∀ d ∈ tb, d.before a0 Z = true)
/-- a contract -/
def own_Met (l : Launch) (Z : State) (y : MethodName) (bytes : ByteArray) (maxL : Nat) (ret : Option FieldType) (ws : List Cond) (rm : Room) (as' : Array Value) (h0 : Heap) (Q : Option Value → Heap → List Loc → Prop) : Prop :=
  MetFree l y (head1 (Cond.code y bytes maxL ret :: ws) rm) (fun a U => a = as' ∧ Z.Warmed39 U.vm ∧ U.heap = h0) (fun _ _ _ _ _ => True) (fun _ U o U' => ∃ v L, o = .returned v ∧ Q v U'.heap L ∧ FrameEnd U o U' L rm.cells rm.slots)
theorem own_enter {y : MethodName} {bytes : ByteArray} {maxL : Nat} {ret : Option FieldType} {rm : Room} {as' : Array Value} {h0 : Heap} {ws tb : List Cond} {Ls : Array Slot} (hp : plainFor y = true) (hef : ∀ m, entryFrame m as' maxL = mkF m 0 Ls []) (hw : ∀ d ∈ tb, d.before a0 Z = true)
    (body : ∀ (p : Program) (e : Env) (s : State) (m : MethodId) (below : List Frame) (meth : Method) (c : Code) (T : State), Stand p l e rm s m as' below meth c T [] 0 0 → own_Ctx p s m meth c Z a0 tb y bytes maxL ret → T.heap = h0 → own_Fin p e below s Q rm.cells rm.slots (T.setTop (mkF m 0 Ls []))) :
    own_Met l Z y bytes maxL ret ws rm as' h0 Q := by
  refine MetFree.of_bodySF hp hisR ?_
  intro p e s m args below meth c s₁ Bd hml0 hP hK
  obtain ⟨rfl, hZ, hh⟩ := hP
  have e0 : s₁.heap = h0 := by rw [← hh, Bd.state]; rfl
  obtain ⟨s₂, o, h1, r⟩ := body p e s m below meth c s₁ (Stand.of_body Bd) ⟨Bd.exec, Bd.bytes, hml0, hZ, findClass_of_methodNamed Bd.named, (name_of_methodNamed Bd.named Bd.method).1, Bd.returns, Bd.notSynchronized, hw⟩ e0
  exact ⟨s₂, o, castTop (hef m) h1, r⟩
/-- a return of a value -/
theorem own_ret (X : Stand p l e R s m args below meth c T locs cells slots) (hlk : meth.locks = false) (hx : p.tables.exec = Jvm.exec) {pc : Nat} {Ls : Array Slot} {w : Value} {t : FieldType} {i : Instr} {rest : List Value} (hret : meth.sig.returnType = some t) (hn : narrow t w = w)
    (hi : (i = .ireturn ∧ (t = .int ∨ t = .boolean ∨ t = .byte ∨ t = .char ∨ t = .short) ∧ ∃ z, w = .int z) ∨ (i = .lreturn ∧ t = .long ∧ ∃ z, w = .long z) ∨ (i = .dreturn ∧ t = .double ∧ ∃ z, w = .double z) ∨ (i = .freturn ∧ t = .float ∧ ∃ z, w = .float z) ∨ (i = .areturn ∧ t.isReference = true ∧ w.isRef = true))
    (hd : decode c.code pc = .ok (i, 1)) (hq : Q (some w) T.heap locs) (hc : cells ≤ kc) (hs : slots ≤ ks) : own_Fin p e below s Q kc ks (T.setTop (mkF m pc Ls (w :: rest))) := by
  obtain ⟨fs, hr, hrun, hended, hW, hsame⟩ := X.leave (v := some w) (fun h => by rw [hret] at h; cases h) hlk
  exact ⟨_, _, retOut X hx hret hn hi hd hr, hrun, hended, _, _, rfl, hq, ⟨_, rfl⟩, hW, hsame.mono hc hs⟩
/-- a return of a boolean, byte, char, short that may be narrowed -/
theorem own_retN (X : Stand p l e R s m args below meth c T locs cells slots) (hlk : meth.locks = false) (hx : p.tables.exec = Jvm.exec) {pc : Nat} {Ls : Array Slot} {z : Int32} {t : FieldType} {rest : List Value} (hret : meth.sig.returnType = some t) (ht : t = .boolean ∨ t = .byte ∨ t = .char ∨ t = .short)
    (hd : decode c.code pc = .ok (.ireturn, 1)) (hq : Q (some (.int (nar t z))) T.heap locs) (hc : cells ≤ kc) (hs : slots ≤ ks) : own_Fin p e below s Q kc ks (T.setTop (mkF m pc Ls (.int z :: rest))) := by
  obtain ⟨fs, hr, hrun, hended, hW, hsame⟩ := X.leave (v := some (.int (nar t z))) (fun h => by rw [hret] at h; cases h) hlk
  exact ⟨_, _, retN X hx hret ht hd hr, hrun, hended, _, _, rfl, hq, ⟨_, rfl⟩, hW, hsame.mono hc hs⟩
/-- a return of nothing -/
theorem own_ret0 (X : Stand p l e R s m args below meth c T locs cells slots) (hlk : meth.locks = false) (hx : p.tables.exec = Jvm.exec) {pc : Nat} {Ls : Array Slot} (hret : meth.sig.returnType = none)
    (hd : decode c.code pc = .ok (.return_, 1)) (hq : Q none T.heap locs) (hc : cells ≤ kc) (hs : slots ≤ ks) : own_Fin p e below s Q kc ks (T.setTop (mkF m pc Ls [])) := by
  obtain ⟨fs, hr, hrun, hended, hW, hsame⟩ := X.leave (v := none) (fun _ => rfl) hlk
  exact ⟨_, _, X.returnOut hx hret hd hr, hrun, hended, _, _, rfl, hq, ⟨_, rfl⟩, hW, hsame.mono hc hs⟩
/-- calls by contract -/
theorem own_callS (X : Stand p l e R s m args below meth c T locs cells slots) (hx : p.tables.exec = Jvm.exec) (hZ : Z.Warmed39 s.vm) {h : Heap} (eT : T.heap = h) {own : String} {index : Nat} {y : MethodName} {bytes : ByteArray} {maxL : Nat} {ret : Option FieldType} (hown : s.vm.findClass own = some m.cls)
    (w1 : (Cond.methodLink own index y).before a0 Z = true) (w2 : (Cond.static y).before a0 Z = true) (w3 : (Cond.initialized y.cls).before a0 Z = true) (w4 : (Cond.code y bytes maxL ret).before a0 Z = true) (hy : y.cls ≠ "java/lang/invoke/MethodHandle" ∧ y.cls ≠ "java/lang/invoke/VarHandle")
    {rm : Room} {argsL rest : List Value} (hM : own_Met l Z y bytes maxL ret [] rm argsL.toArray h Q) (hf : rm.frames + 1 ≤ R.frames) (W : Nat) (hl : W + (maxL + 11) + rm.locals ≤ R.locals) (hcR : cells + rm.cells ≤ R.cells) (hsR : slots + rm.slots ≤ R.slots)
    {g : JFrame} (hg : g.method = m) (hsize : g.locals.size = c.maxLocals) (hlen : ∀ sig, parseMethodDescriptor y.desc = some sig → argsL.length = sig.parameters.length) (hstack : g.stack = argsL.reverse ++ rest) (hW : 2 * g.monitorRoom + (rest.map fun v => v.category).sum ≤ W) (hdg : decode c.code g.pc = .ok (.invokestatic index, 3)) :
    ∃ v T' L, Stand p l e R s m args below meth c T' (locs ++ L) (cells + rm.cells) (slots + rm.slots) ∧ Q v T'.heap L ∧ ∀ target, Steps p.tables e below (T'.setTop { g with pc := g.pc + 3, stack := v.toList ++ rest }) target → Steps p.tables e below (T.setTop g) target := by
  obtain ⟨v, _, ⟨T', L', k', n'⟩, -, X', ⟨L, hQ, l1, y1, z1⟩, st⟩ := Jvm.LawKit.callS X hx hown (mvT hZ w1) (mvT hZ w2) (mvT hZ w3) (mvT hZ w4) hy (backOf (W := W) hM hZ w4 w3 hf hl) hg hsize hlen hstack hW hdg (fun _ _ => ⟨rfl, eT, hcR, hsR⟩)
  dsimp only [Pt.U, Pt.locs, Pt.cells, Pt.slots] at X' l1 y1 z1 st hQ
  subst l1 y1 z1
  exact ⟨v, T', L, X', hQ, st⟩
/-- a result, and nothing else -/
def own_QP (r : Option Value) (h0 : Heap) (v : Option Value) (h : Heap) (L : List Loc) : Prop := v = r ∧ L = [] ∧ h = h0
theorem own_callP (X : Stand p l e R s m args below meth c T locs cells slots) (hx : p.tables.exec = Jvm.exec) (hZ : Z.Warmed39 s.vm) {h : Heap} (eT : T.heap = h) {own : String} {index : Nat} {y : MethodName} {bytes : ByteArray} {maxL : Nat} {ret : Option FieldType} (hown : s.vm.findClass own = some m.cls)
    (w1 : (Cond.methodLink own index y).before a0 Z = true) (w2 : (Cond.static y).before a0 Z = true) (w3 : (Cond.initialized y.cls).before a0 Z = true) (w4 : (Cond.code y bytes maxL ret).before a0 Z = true) (hy : y.cls ≠ "java/lang/invoke/MethodHandle" ∧ y.cls ≠ "java/lang/invoke/VarHandle")
    {fr lo : Nat} {r : Option Value} {argsL rest : List Value} (hM : own_Met l Z y bytes maxL ret [] { frames := fr, cells := 0, slots := 0, locals := lo } argsL.toArray h (own_QP r h)) (hf : fr + 1 ≤ R.frames) (W : Nat) (hl : W + (maxL + 11) + lo ≤ R.locals) (hcR : cells ≤ R.cells) (hsR : slots ≤ R.slots)
    {g : JFrame} (hg : g.method = m) (hsize : g.locals.size = c.maxLocals) (hlen : ∀ sig, parseMethodDescriptor y.desc = some sig → argsL.length = sig.parameters.length) (hstack : g.stack = argsL.reverse ++ rest) (hW : 2 * g.monitorRoom + (rest.map fun v => v.category).sum ≤ W) (hdg : decode c.code g.pc = .ok (.invokestatic index, 3)) :
    ∃ T', Stand p l e R s m args below meth c T' locs cells slots ∧ T'.heap = h ∧ ∀ target, Steps p.tables e below (T'.setTop { g with pc := g.pc + 3, stack := r.toList ++ rest }) target → Steps p.tables e below (T.setTop g) target := by
  obtain ⟨v, T', L, X', ⟨rfl, rfl, e1⟩, st⟩ := own_callS X hx hZ eT hown w1 w2 w3 w4 hy hM hf W hl hcR hsR hg hsize hlen hstack hW hdg
  rw [List.append_nil] at X'
  exact ⟨T', X', e1, st⟩
theorem own_callI (X : Stand p l e R s m args below meth c T locs cells slots) (hx : p.tables.exec = Jvm.exec) (hZ : Z.Warmed39 s.vm) {h : Heap} (eT : T.heap = h) {own : String} {index : Nat} {y : MethodName} {bytes : ByteArray} {maxL : Nat} (hy1 : y.name = "<init>") (hown : s.vm.findClass own = some m.cls)
    (w1 : (Cond.methodLink own index y).before a0 Z = true) (w2 : (Cond.instanceMethod y).before a0 Z = true) (w3 : (Cond.initialized y.cls).before a0 Z = true) (w4 : (Cond.code y bytes maxL none).before a0 Z = true) (hy : y.cls ≠ "java/lang/invoke/MethodHandle" ∧ y.cls ≠ "java/lang/invoke/VarHandle")
    {rm : Room} {a : Addr} {argsL rest : List Value} (hM : own_Met l Z y bytes maxL none [] rm (.ref a :: argsL).toArray h Q) (hf : rm.frames + 1 ≤ R.frames) (W : Nat) (hl : W + (maxL + 11) + rm.locals ≤ R.locals) (hcR : cells + rm.cells ≤ R.cells) (hsR : slots + rm.slots ≤ R.slots)
    {g : JFrame} (hg : g.method = m) (hsize : g.locals.size = c.maxLocals) (hlen : ∀ sig, parseMethodDescriptor y.desc = some sig → argsL.length = sig.parameters.length) (hstack : g.stack = argsL.reverse ++ .ref a :: rest) (hW : 2 * g.monitorRoom + (rest.map fun v => v.category).sum ≤ W) (hdg : decode c.code g.pc = .ok (.invokespecial index, 3)) :
    ∃ v T' L, Stand p l e R s m args below meth c T' (locs ++ L) (cells + rm.cells) (slots + rm.slots) ∧ Q v T'.heap L ∧ ∀ target, Steps p.tables e below (T'.setTop { g with pc := g.pc + 3, stack := v.toList ++ rest }) target → Steps p.tables e below (T.setTop g) target := by
  obtain ⟨v, _, ⟨T', L', k', n'⟩, -, X', ⟨L, hQ, l1, y1, z1⟩, st⟩ := X.specialBack hx hy1 hown (mvT hZ w1) (mvT hZ w2) (mvT hZ w4) hy (backOf (W := W) hM hZ w4 w3 hf hl) hg hsize (Steps.refl _) hlen hstack hW hdg (fun _ _ => ⟨rfl, eT, hcR, hsR⟩)
  dsimp only [Pt.U, Pt.locs, Pt.cells, Pt.slots] at X' l1 y1 z1 st hQ
  subst l1 y1 z1
  exact ⟨v, T', L, X', hQ, fun _ q => st.trans q⟩
theorem own_callIP (X : Stand p l e R s m args below meth c T locs cells slots) (hx : p.tables.exec = Jvm.exec) (hZ : Z.Warmed39 s.vm) {h : Heap} (eT : T.heap = h) {own : String} {index : Nat} {y : MethodName} {bytes : ByteArray} {maxL : Nat} (hy1 : y.name = "<init>") (hown : s.vm.findClass own = some m.cls)
    (w1 : (Cond.methodLink own index y).before a0 Z = true) (w2 : (Cond.instanceMethod y).before a0 Z = true) (w3 : (Cond.initialized y.cls).before a0 Z = true) (w4 : (Cond.code y bytes maxL none).before a0 Z = true) (hy : y.cls ≠ "java/lang/invoke/MethodHandle" ∧ y.cls ≠ "java/lang/invoke/VarHandle")
    {fr lo : Nat} {a : Addr} {argsL rest : List Value} (hM : own_Met l Z y bytes maxL none [] { frames := fr, cells := 0, slots := 0, locals := lo } (.ref a :: argsL).toArray h (own_QP none h)) (hf : fr + 1 ≤ R.frames) (W : Nat) (hl : W + (maxL + 11) + lo ≤ R.locals) (hcR : cells ≤ R.cells) (hsR : slots ≤ R.slots)
    {g : JFrame} (hg : g.method = m) (hsize : g.locals.size = c.maxLocals) (hlen : ∀ sig, parseMethodDescriptor y.desc = some sig → argsL.length = sig.parameters.length) (hstack : g.stack = argsL.reverse ++ .ref a :: rest) (hW : 2 * g.monitorRoom + (rest.map fun v => v.category).sum ≤ W) (hdg : decode c.code g.pc = .ok (.invokespecial index, 3)) :
    ∃ T', Stand p l e R s m args below meth c T' locs cells slots ∧ T'.heap = h ∧ ∀ target, Steps p.tables e below (T'.setTop { g with pc := g.pc + 3, stack := rest }) target → Steps p.tables e below (T.setTop g) target := by
  obtain ⟨v, T', L, X', ⟨rfl, rfl, e1⟩, st⟩ := own_callI X hx hZ eT hy1 hown w1 w2 w3 w4 hy hM hf W hl hcR hsR hg hsize hlen hstack hW hdg
  rw [List.append_nil] at X'
  exact ⟨T', X', e1, st⟩
theorem own_callV (X : Stand p l e R s m args below meth c T locs cells slots) (hx : p.tables.exec = Jvm.exec) (hZ : Z.Warmed39 s.vm) {h : Heap} (eT : T.heap = h) {own C : String} {index : Nat} {y : MethodName} {bytes : ByteArray} {maxL : Nat} {ret : Option FieldType} (hown : s.vm.findClass own = some m.cls)
    (w1 : (Cond.methodLink own index y).before a0 Z = true) (wd : (Cond.declares y).before a0 Z = true) (ws : (Cond.selects C y y).before a0 Z = true) (w2 : (Cond.instanceMethod y).before a0 Z = true) (w3 : (Cond.initialized y.cls).before a0 Z = true) (w4 : (Cond.code y bytes maxL ret).before a0 Z = true) (hy : y.cls ≠ "java/lang/invoke/MethodHandle" ∧ y.cls ≠ "java/lang/invoke/VarHandle")
    {rm : Room} {a : Addr} (hE : Exa Z h a C) {argsL rest : List Value} (hM : own_Met l Z y bytes maxL ret [] rm (.ref a :: argsL).toArray h Q) (hf : rm.frames + 1 ≤ R.frames) (W : Nat) (hl : W + (maxL + 11) + rm.locals ≤ R.locals) (hcR : cells + rm.cells ≤ R.cells) (hsR : slots + rm.slots ≤ R.slots)
    {g : JFrame} (hg : g.method = m) (hsize : g.locals.size = c.maxLocals) (hlen : ∀ sig, parseMethodDescriptor y.desc = some sig → argsL.length = sig.parameters.length) (hstack : g.stack = argsL.reverse ++ .ref a :: rest) (hW : 2 * g.monitorRoom + (rest.map fun v => v.category).sum ≤ W) (hdg : decode c.code g.pc = .ok (.invokevirtual index, 3)) :
    ∃ v T' L, Stand p l e R s m args below meth c T' (locs ++ L) (cells + rm.cells) (slots + rm.slots) ∧ Q v T'.heap L ∧ ∀ target, Steps p.tables e below (T'.setTop { g with pc := g.pc + 3, stack := v.toList ++ rest }) target → Steps p.tables e below (T.setTop g) target := by
  obtain ⟨cq, kq, qa, qb, qc⟩ := isOf hZ eT hE
  obtain ⟨v, _, ⟨T', L', k', n'⟩, -, X', ⟨L, hQ, l1, y1, z1⟩, st⟩ := X.virtualBack hx hown (mvT hZ w1) (mvT hZ wd) (notFace_of_selects (args := #[]) (mvT hZ ws)) (mvT hZ ws) (mvT hZ w2) hy (backOf (W := W) hM hZ w4 w3 hf hl) qa qc hg hsize (Steps.refl _) hlen hstack hW hdg (fun _ _ => ⟨rfl, eT, hcR, hsR⟩)
  dsimp only [Pt.U, Pt.locs, Pt.cells, Pt.slots] at X' l1 y1 z1 st hQ
  subst l1 y1 z1
  exact ⟨v, T', L, X', hQ, fun _ q => st.trans q⟩
/-- a virtual call that only reads -/
theorem own_callVP (X : Stand p l e R s m args below meth c T locs cells slots) (hx : p.tables.exec = Jvm.exec) (hZ : Z.Warmed39 s.vm) {h : Heap} (eT : T.heap = h) {own C : String} {index : Nat} {y : MethodName} {bytes : ByteArray} {maxL : Nat} {ret : Option FieldType} (hown : s.vm.findClass own = some m.cls)
    (w1 : (Cond.methodLink own index y).before a0 Z = true) (wd : (Cond.declares y).before a0 Z = true) (ws : (Cond.selects C y y).before a0 Z = true) (w2 : (Cond.instanceMethod y).before a0 Z = true) (w3 : (Cond.initialized y.cls).before a0 Z = true) (w4 : (Cond.code y bytes maxL ret).before a0 Z = true) (hy : y.cls ≠ "java/lang/invoke/MethodHandle" ∧ y.cls ≠ "java/lang/invoke/VarHandle")
    {fr lo : Nat} {r : Option Value} {a : Addr} (hE : Exa Z h a C) {argsL rest : List Value} (hM : own_Met l Z y bytes maxL ret [] { frames := fr, cells := 0, slots := 0, locals := lo } (.ref a :: argsL).toArray h (own_QP r h)) (hf : fr + 1 ≤ R.frames) (W : Nat) (hl : W + (maxL + 11) + lo ≤ R.locals) (hcR : cells ≤ R.cells) (hsR : slots ≤ R.slots)
    {g : JFrame} (hg : g.method = m) (hsize : g.locals.size = c.maxLocals) (hlen : ∀ sig, parseMethodDescriptor y.desc = some sig → argsL.length = sig.parameters.length) (hstack : g.stack = argsL.reverse ++ .ref a :: rest) (hW : 2 * g.monitorRoom + (rest.map fun v => v.category).sum ≤ W) (hdg : decode c.code g.pc = .ok (.invokevirtual index, 3)) :
    ∃ T', Stand p l e R s m args below meth c T' locs cells slots ∧ T'.heap = h ∧ ∀ target, Steps p.tables e below (T'.setTop { g with pc := g.pc + 3, stack := r.toList ++ rest }) target → Steps p.tables e below (T.setTop g) target := by
  obtain ⟨v, T', L, X', ⟨rfl, rfl, e1⟩, st⟩ := own_callV X hx hZ eT hown w1 wd ws w2 w3 w4 hy hE hM hf W hl hcR hsR hg hsize hlen hstack hW hdg
  rw [List.append_nil] at X'
  exact ⟨T', X', e1, st⟩
/-- an array of ints or bytes, its elements by a function -/
def own_A (Z : State) (h : Heap) (a : Addr) (ty : FieldType) (z : Int32) (f : Int32 → Int32) : Prop :=
  ∃ cl : Cell, Arr Z h a cl ty ∧ cl.slots.size = z.toNatClampNeg ∧ ¬ z < 0 ∧ ∀ j : Int32, ¬ j < 0 → j < z → cl.slots[j.toNatClampNeg]? = some (.int (f j))
section A
variable {h h' : Heap} {a b : Addr} {ty : FieldType} {z : Int32} {f : Int32 → Int32} {ws : List Addr} {sl : Nat} {v : Value}
theorem own_A.lt (F : own_A Z h a ty z f) : a < h.size := by obtain ⟨cl, A, -⟩ := F; exact A.lt
theorem own_A.ext (F : own_A Z h a ty z f) (E : Ext h h') : own_A Z h' a ty z f := by obtain ⟨cl, A, r⟩ := F; exact ⟨cl, A.ext E, r⟩
theorem own_A.other (F : own_A Z h a ty z f) (W : Wr h h' b sl v) (q : a ≠ b) : own_A Z h' a ty z f := by obtain ⟨cl, A, r⟩ := F; exact ⟨cl, A.other W q, r⟩
theorem own_A.keep (F : own_A Z h a ty z f) (K : Keep h h' ws) (q : a ∉ ws) : own_A Z h' a ty z f := by obtain ⟨cl, A, r⟩ := F; exact ⟨cl, ⟨K.2.1 a cl A.1 q, A.2⟩, r⟩
theorem own_A.cong (F : own_A Z h a ty z f) {f' : Int32 → Int32} (q : ∀ j : Int32, ¬ j < 0 → j < z → f j = f' j) : own_A Z h a ty z f' := by
  obtain ⟨cl, A, S, n, H⟩ := F
  exact ⟨cl, A, S, n, fun j h1 h2 => by rw [← q j h1 h2]; exact H j h1 h2⟩
theorem own_A.set (F : own_A Z h a ty z f) {j w : Int32} (h0 : ¬ j < 0) (hj : j < z) (W : Wr h h' a j.toNatClampNeg (.int w)) : own_A Z h' a ty z (fun i => if i = j then w else f i) := by
  obtain ⟨cl, A, S, n, H⟩ := F
  refine ⟨_, A.same W, by rw [sz_set]; exact S, n, fun i h1 h2 => ?_⟩
  by_cases q : i = j
  · rw [get_hit (inb_of S ⟨h0, hj⟩) q]; show _ = some (Value.int (if i = j then w else f i)); rw [if_pos q]
  · rw [get_miss h0 h1 q, H i h1 h2]; show _ = some (Value.int (if i = j then w else f i)); rw [if_neg q]
theorem own_A.new {k : ClassId} (A : Arr Z h a (newA k ty z) ty) (q : ¬ z < 0) (d : defaultValue ty = .int 0) : own_A Z h a ty z (fun _ => 0) :=
  ⟨_, A, sz_new _ _ _, q, fun j h1 h2 => by rw [get_new (by have := inb_of (sz_new k ty z) ⟨h1, h2⟩; rw [sz_new] at this; exact this), d]⟩
theorem own_A.nn (F : own_A Z h a ty z f) : ¬ z < 0 := by obtain ⟨cl, A, S, n, H⟩ := F; exact n
end A
theorem own_newI (X : Stand p l e R s m args below meth c T locs cells slots) (hx : p.tables.exec = Jvm.exec) (hZ : Z.Warmed39 s.vm) {h : Heap} (eT : T.heap = h) (w : (Cond.arrayClass .int).before a0 Z = true) {g : JFrame} (hg : g.method = m) (hd : decode c.code g.pc = .ok (.newarray .int, 2)) {n : Int32} {rest : List Value} (hs : g.stack = .int n :: rest)
    (hn : ¬ n < 0) (cap : Nat) (hcap : n.toNatClampNeg ≤ cap) (hb : cap * 8 ≤ 536870912) (hc : cells + 1 ≤ R.cells) (hl : slots + cap ≤ R.slots) :
    ∃ T' a, Stand p l e R s m args below meth c T' locs (cells + 1) (slots + cap) ∧ Ext h T'.heap ∧ a = h.size ∧ own_A Z T'.heap a .int n (fun _ => 0) ∧ ∀ target, Steps p.tables e below (T'.setTop { g with pc := g.pc + 2, stack := .ref a :: rest }) target → Steps p.tables e below (T.setTop g) target := by
  obtain ⟨T', h', cA, X', e1, E, A, st⟩ := newP (aty := .int) X hx hZ w eT hg hd hs hn hcap hb hc hl
  subst e1
  exact ⟨T', _, X', E, rfl, own_A.new A hn rfl, st⟩
theorem own_newB (X : Stand p l e R s m args below meth c T locs cells slots) (hx : p.tables.exec = Jvm.exec) (hZ : Z.Warmed39 s.vm) {h : Heap} (eT : T.heap = h) (w : (Cond.arrayClass .byte).before a0 Z = true) {g : JFrame} (hg : g.method = m) (hd : decode c.code g.pc = .ok (.newarray .byte, 2)) {n : Int32} {rest : List Value} (hs : g.stack = .int n :: rest)
    (hn : ¬ n < 0) (cap : Nat) (hcap : n.toNatClampNeg ≤ cap) (hb : cap * 8 ≤ 536870912) (hc : cells + 1 ≤ R.cells) (hl : slots + cap ≤ R.slots) :
    ∃ T' a, Stand p l e R s m args below meth c T' locs (cells + 1) (slots + cap) ∧ Ext h T'.heap ∧ a = h.size ∧ own_A Z T'.heap a .byte n (fun _ => 0) ∧ ∀ target, Steps p.tables e below (T'.setTop { g with pc := g.pc + 2, stack := .ref a :: rest }) target → Steps p.tables e below (T.setTop g) target := by
  obtain ⟨T', h', cA, X', e1, E, A, st⟩ := newP (aty := .byte) X hx hZ w eT hg hd hs hn hcap hb hc hl
  subst e1
  exact ⟨T', _, X', E, rfl, own_A.new A hn rfl, st⟩
theorem own_stI (X : Stand p l e R s m args below meth c T locs cells slots) (hx : p.tables.exec = Jvm.exec) (hZ : Z.Warmed39 s.vm) {h : Heap} (eT : T.heap = h) {a : Addr} {z : Int32} {f : Int32 → Int32} (F : own_A Z h a .int z f) {j x : Int32} (h0 : ¬ j < 0) (hj : j < z) {g : JFrame} (hg : g.method = m) {rest : List Value} (hs : g.stack = .int x :: .int j :: .ref a :: rest) (hd : decode c.code g.pc = .ok (.iastore, 1)) :
    ∃ T', Stand p l e R s m args below meth c T' (locs ++ [⟨a, j.toNatClampNeg⟩]) cells slots ∧ Wr h T'.heap a j.toNatClampNeg (.int x) ∧ own_A Z T'.heap a .int z (fun i => if i = j then x else f i) ∧ ∀ target, Steps p.tables e below (T'.setTop { g with pc := g.pc + 1, stack := rest }) target → Steps p.tables e below (T.setTop g) target := by
  obtain ⟨cl, A, S, n, H⟩ := id F
  obtain ⟨T', h', X', e1, W, st⟩ := stI X hx hZ eT A (inb_of S ⟨h0, hj⟩) hg hs hd
  subst e1
  exact ⟨T', X', W, F.set h0 hj W, st⟩
theorem own_stB (X : Stand p l e R s m args below meth c T locs cells slots) (hx : p.tables.exec = Jvm.exec) (hZ : Z.Warmed39 s.vm) {h : Heap} (eT : T.heap = h) {a : Addr} {z : Int32} {f : Int32 → Int32} (F : own_A Z h a .byte z f) {j x : Int32} (h0 : ¬ j < 0) (hj : j < z) {g : JFrame} (hg : g.method = m) {rest : List Value} (hs : g.stack = .int x :: .int j :: .ref a :: rest) (hd : decode c.code g.pc = .ok (.bastore, 1)) :
    ∃ T', Stand p l e R s m args below meth c T' (locs ++ [⟨a, j.toNatClampNeg⟩]) cells slots ∧ Wr h T'.heap a j.toNatClampNeg (.int x.toInt8.toInt32) ∧ own_A Z T'.heap a .byte z (fun i => if i = j then x.toInt8.toInt32 else f i) ∧ ∀ target, Steps p.tables e below (T'.setTop { g with pc := g.pc + 1, stack := rest }) target → Steps p.tables e below (T.setTop g) target := by
  obtain ⟨cl, A, S, n, H⟩ := id F
  obtain ⟨T', h', X', e1, W, st⟩ := stB X hx hZ eT A (inb_of S ⟨h0, hj⟩) hg hs hd
  subst e1
  exact ⟨T', X', W, F.set h0 hj W, st⟩
theorem own_ldI (X : Stand p l e R s m args below meth c T locs cells slots) (hx : p.tables.exec = Jvm.exec) (hZ : Z.Warmed39 s.vm) {h : Heap} (eT : T.heap = h) {a : Addr} {z : Int32} {f : Int32 → Int32} (F : own_A Z h a .int z f) {j : Int32} (h0 : ¬ j < 0) (hj : j < z) {g : JFrame} (hg : g.method = m) {rest : List Value} (hs : g.stack = .int j :: .ref a :: rest) (hd : decode c.code g.pc = .ok (.iaload, 1)) :
    ∀ target, Steps p.tables e below (T.setTop { g with pc := g.pc + 1, stack := .int (f j) :: rest }) target → Steps p.tables e below (T.setTop g) target := by
  obtain ⟨cl, A, S, n, H⟩ := id F
  exact fun target q => X.iaload hx (by rw [eT]; exact A.1) (State.isArrayOf_alike hZ.alike A.2.1) A.2.2 (inb_of S ⟨h0, hj⟩) (H j h0 hj) hg hs hd target q
theorem own_ldB (X : Stand p l e R s m args below meth c T locs cells slots) (hx : p.tables.exec = Jvm.exec) (hZ : Z.Warmed39 s.vm) {h : Heap} (eT : T.heap = h) {a : Addr} {z : Int32} {f : Int32 → Int32} (F : own_A Z h a .byte z f) {j : Int32} (h0 : ¬ j < 0) (hj : j < z) {g : JFrame} (hg : g.method = m) {rest : List Value} (hs : g.stack = .int j :: .ref a :: rest) (hd : decode c.code g.pc = .ok (.baload, 1)) :
    ∀ target, Steps p.tables e below (T.setTop { g with pc := g.pc + 1, stack := .int (f j) :: rest }) target → Steps p.tables e below (T.setTop g) target := by
  obtain ⟨cl, A, S, n, H⟩ := id F
  exact fun target q => X.baloadBytes hx (by rw [eT]; exact A.1) (State.isArrayOf_alike hZ.alike A.2.1) A.2.2 (inb_of S ⟨h0, hj⟩) (H j h0 hj) hg hs hd target q
theorem own_len (X : Stand p l e R s m args below meth c T locs cells slots) (hx : p.tables.exec = Jvm.exec) (hZ : Z.Warmed39 s.vm) {h : Heap} (eT : T.heap = h) {a : Addr} {ty : FieldType} {z : Int32} {f : Int32 → Int32} (F : own_A Z h a ty z f) {g : JFrame} (hg : g.method = m) {rest : List Value} (hs : g.stack = .ref a :: rest) (hd : decode c.code g.pc = .ok (.arraylength, 1)) :
    ∀ target, Steps p.tables e below (T.setTop { g with pc := g.pc + 1, stack := .int z :: rest }) target → Steps p.tables e below (T.setTop g) target := by
  obtain ⟨cl, A, S, n, H⟩ := id F
  exact fun target q => X.arraylength hx (by rw [eT]; exact A.1) (State.isArrayOf_alike hZ.alike A.2.1) hg hs hd target (by rw [len_of S n]; exact q)
/-- fields -/
theorem own_getF (X : Stand p l e R s m args below meth c T locs cells slots) (hx : p.tables.exec = Jvm.exec) (hZ : Z.Warmed39 s.vm) {h : Heap} (eT : T.heap = h) {own O n d : String} {index : Nat} (hown : s.vm.findClass own = some m.cls) (w : (Cond.fieldLink own index O n d).before a0 Z = true)
    {a : Addr} {v : Value} (F : Fld Z h a O n d v) {g : JFrame} (hg : g.method = m) {rest : List Value} (hs : g.stack = .ref a :: rest) (hd : decode c.code g.pc = .ok (.getfield index, 3)) :
    ∃ T', Stand p l e R s m args below meth c T' locs cells slots ∧ T'.heap = h ∧ ∀ target, Steps p.tables e below (T'.setTop { g with pc := g.pc + 3, stack := v :: rest }) target → Steps p.tables e below (T.setTop g) target :=
  getF X hx hZ hown (host := "") (Or.inl w) Via.refl eT F hg hs hd
theorem own_putF (X : Stand p l e R s m args below meth c T locs cells slots) (hx : p.tables.exec = Jvm.exec) (hZ : Z.Warmed39 s.vm) {h : Heap} (eT : T.heap = h) {own O n d C : String} {index kk : Nat} {ty : FieldType} (hown : s.vm.findClass own = some m.cls) (w : (Cond.fieldLink own index O n d).before a0 Z = true)
    {a : Addr} {v old : Value} (F : Fld Z h a O n d old) (E : Exa Z h a C) (L : (Cond.lays C O n d).before a0 Z = true ∨ ((Cond.laysFinal C O n d).before a0 Z = true ∧ own = O ∧ meth.name = "<init>")) (wi : (Cond.instantiable C kk).before a0 Z = true)
    (hty : parseFieldDescriptor d = some ty) (hn : narrow ty v = v) (hf : fits ty v = true) {g : JFrame} (hg : g.method = m) {rest : List Value} (hs : g.stack = v :: .ref a :: rest) (hd : decode c.code g.pc = .ok (.putfield index, 3)) :
    ∃ T', Stand p l e R s m args below meth c T' (locs ++ [⟨a, slotOf Z O n d⟩]) cells slots ∧ Wr h T'.heap a (slotOf Z O n d) v ∧ ∀ target, Steps p.tables e below (T'.setTop { g with pc := g.pc + 3, stack := rest }) target → Steps p.tables e below (T.setTop g) target := by
  obtain ⟨T', h', X', e1, W, st⟩ := putF X hx hZ hown (host := "") (Or.inl w) Via.refl eT F E L wi hty hn hf hg hs hd
  subst e1
  exact ⟨T', X', W, st⟩
/-- comparisons with literals, through Int -/
theorem own_lt {x k : Int32} (K : Int) (hk : k.toInt = K) (h : x.toInt < K) : x < k := by rw [Int32.lt_iff_toInt_lt, hk]; exact h
theorem own_nlt {x k : Int32} (K : Int) (hk : k.toInt = K) (h : K ≤ x.toInt) : ¬ x < k := by rw [Int32.lt_iff_toInt_lt, hk]; omega
theorem own_gt {x k : Int32} (K : Int) (hk : k.toInt = K) (h : K < x.toInt) : k < x := by rw [Int32.lt_iff_toInt_lt, hk]; exact h
theorem own_ngt {x k : Int32} (K : Int) (hk : k.toInt = K) (h : x.toInt ≤ K) : ¬ k < x := by rw [Int32.lt_iff_toInt_lt, hk]; omega
theorem own_ieq {x k : Int32} (K : Int) (hk : k.toInt = K) (h : x.toInt = K) : x = k := Int32.toInt_inj.mp (by rw [hk]; exact h)
theorem own_ineq {x k : Int32} (K : Int) (hk : k.toInt = K) (h : x.toInt < K ∨ K < x.toInt) : ¬ x = k := fun q => by subst q; omega
end OwnKit
end Jvm.RoadKit
namespace Jvm.RoadKit
open Sem ClassFile Op Lib Jvm.Stand Jvm.Free Jvm.LawKit
theorem own_mask31 (b : Int32) : 0 ≤ (b &&& 2147483647).toInt := by
  have h := c_mask b 2147483647 31 (by decide) (by decide)
  rw [h]; exact Int.emod_nonneg _ (by decide)
theorem own_modpos (b k : Int32) (K : Int) (hk : k.toInt = K) (h0 : 0 < K) : 0 ≤ ((b &&& 2147483647) % k).toInt ∧ ((b &&& 2147483647) % k).toInt < K := by
  rw [(c_irem (b &&& 2147483647) k K hk).1 (own_mask31 b)]
  exact ⟨Int.emod_nonneg _ (by omega), Int.emod_lt_of_pos _ h0⟩
theorem own_maskpos (b m : Int32) (k : Nat) (hk : k ≤ 31) (hm : m.toBitVec.toNat = 2 ^ k - 1) (K : Int) (hK : K = ((2 ^ k : Nat) : Int)) (h0 : 0 < K) : 0 ≤ (b &&& m).toInt ∧ (b &&& m).toInt < K := by
  rw [c_mask b m k hk hm, ← hK]
  exact ⟨Int.emod_nonneg _ (by omega), Int.emod_lt_of_pos _ h0⟩
end Jvm.RoadKit
namespace Jvm.RoadKit
open Sem ClassFile Op Lib Jvm.Stand Jvm.Free Jvm.LawKit
theorem own_clamp (n : Int32) (k : Nat) (h : n.toInt ≤ k) : n.toNatClampNeg ≤ k := by
  show n.toInt.toNat ≤ k
  omega
theorem own_bb (x : Int32) : x.toInt8.toInt32.toInt8.toInt32 = x.toInt8.toInt32 := by rw [Int8.toInt8_toInt32]
theorem own_ltT {x y : Int32} (h : x < y) : x.toInt < y.toInt := Int32.lt_iff_toInt_lt.mp h
theorem own_nltT {x y : Int32} (h : ¬ x < y) : y.toInt ≤ x.toInt := by rw [Int32.lt_iff_toInt_lt] at h; omega
theorem own_Tlt {x y : Int32} (h : x.toInt < y.toInt) : x < y := Int32.lt_iff_toInt_lt.mpr h
theorem own_Tnlt {x y : Int32} (h : y.toInt ≤ x.toInt) : ¬ x < y := by rw [Int32.lt_iff_toInt_lt]; omega
theorem own_neT {x y : Int32} (h : ¬ x = y) : ¬ x.toInt = y.toInt := fun q => h (Int32.toInt_inj.mp q)
end Jvm.RoadKit
namespace Jvm.Pilot.@@N@@
open Jvm Jvm.ClassFile Sem Op Lib Jvm.Free Jvm.Stand Jvm.LawKit Jvm.RoadKit Bundle Jvm.Pilot.@@N@@.Jvm.D
theorem own_d1_0 : decode prog_121_method_5_code 0 = .ok (.iload_n 0, 1) := by decide +kernel
theorem own_d1_1 : decode prog_121_method_5_code 1 = .ok (.bipush 65, 2) := by decide +kernel
theorem own_d1_3 : decode prog_121_method_5_code 3 = .ok (.if_icmp .lt 9, 3) := by decide +kernel
theorem own_d1_6 : decode prog_121_method_5_code 6 = .ok (.iload_n 0, 1) := by decide +kernel
theorem own_d1_7 : decode prog_121_method_5_code 7 = .ok (.bipush 90, 2) := by decide +kernel
theorem own_d1_9 : decode prog_121_method_5_code 9 = .ok (.if_icmp .le 182, 3) := by decide +kernel
theorem own_d1_12 : decode prog_121_method_5_code 12 = .ok (.iload_n 0, 1) := by decide +kernel
theorem own_d1_13 : decode prog_121_method_5_code 13 = .ok (.bipush 95, 2) := by decide +kernel
theorem own_d1_15 : decode prog_121_method_5_code 15 = .ok (.if_icmp .eq 176, 3) := by decide +kernel
theorem own_d1_18 : decode prog_121_method_5_code 18 = .ok (.iload_n 0, 1) := by decide +kernel
theorem own_d1_19 : decode prog_121_method_5_code 19 = .ok (.bipush 97, 2) := by decide +kernel
theorem own_d1_21 : decode prog_121_method_5_code 21 = .ok (.if_icmp .lt 9, 3) := by decide +kernel
theorem own_d1_24 : decode prog_121_method_5_code 24 = .ok (.iload_n 0, 1) := by decide +kernel
theorem own_d1_25 : decode prog_121_method_5_code 25 = .ok (.bipush 122, 2) := by decide +kernel
theorem own_d1_27 : decode prog_121_method_5_code 27 = .ok (.if_icmp .le 164, 3) := by decide +kernel
theorem own_d1_30 : decode prog_121_method_5_code 30 = .ok (.iload_n 0, 1) := by decide +kernel
theorem own_d1_31 : decode prog_121_method_5_code 31 = .ok (.sipush 192, 3) := by decide +kernel
theorem own_d1_34 : decode prog_121_method_5_code 34 = .ok (.if_icmp .lt 10, 3) := by decide +kernel
theorem own_d1_37 : decode prog_121_method_5_code 37 = .ok (.iload_n 0, 1) := by decide +kernel
theorem own_d1_38 : decode prog_121_method_5_code 38 = .ok (.sipush 214, 3) := by decide +kernel
theorem own_d1_41 : decode prog_121_method_5_code 41 = .ok (.if_icmp .le 150, 3) := by decide +kernel
theorem own_d1_44 : decode prog_121_method_5_code 44 = .ok (.iload_n 0, 1) := by decide +kernel
theorem own_d1_45 : decode prog_121_method_5_code 45 = .ok (.sipush 216, 3) := by decide +kernel
theorem own_d1_48 : decode prog_121_method_5_code 48 = .ok (.if_icmp .lt 10, 3) := by decide +kernel
theorem own_d1_51 : decode prog_121_method_5_code 51 = .ok (.iload_n 0, 1) := by decide +kernel
theorem own_d1_52 : decode prog_121_method_5_code 52 = .ok (.sipush 246, 3) := by decide +kernel
theorem own_d1_55 : decode prog_121_method_5_code 55 = .ok (.if_icmp .le 136, 3) := by decide +kernel
theorem own_d1_58 : decode prog_121_method_5_code 58 = .ok (.iload_n 0, 1) := by decide +kernel
theorem own_d1_59 : decode prog_121_method_5_code 59 = .ok (.sipush 248, 3) := by decide +kernel
theorem own_d1_62 : decode prog_121_method_5_code 62 = .ok (.if_icmp .lt 10, 3) := by decide +kernel
theorem own_d1_65 : decode prog_121_method_5_code 65 = .ok (.iload_n 0, 1) := by decide +kernel
theorem own_d1_66 : decode prog_121_method_5_code 66 = .ok (.sipush 767, 3) := by decide +kernel
theorem own_d1_69 : decode prog_121_method_5_code 69 = .ok (.if_icmp .le 122, 3) := by decide +kernel
theorem own_d1_72 : decode prog_121_method_5_code 72 = .ok (.iload_n 0, 1) := by decide +kernel
theorem own_d1_73 : decode prog_121_method_5_code 73 = .ok (.sipush 880, 3) := by decide +kernel
theorem own_d1_76 : decode prog_121_method_5_code 76 = .ok (.if_icmp .lt 10, 3) := by decide +kernel
theorem own_d1_79 : decode prog_121_method_5_code 79 = .ok (.iload_n 0, 1) := by decide +kernel
theorem own_d1_80 : decode prog_121_method_5_code 80 = .ok (.sipush 893, 3) := by decide +kernel
theorem own_d1_83 : decode prog_121_method_5_code 83 = .ok (.if_icmp .le 108, 3) := by decide +kernel
theorem own_d1_86 : decode prog_121_method_5_code 86 = .ok (.iload_n 0, 1) := by decide +kernel
theorem own_d1_87 : decode prog_121_method_5_code 87 = .ok (.sipush 895, 3) := by decide +kernel
theorem own_d1_90 : decode prog_121_method_5_code 90 = .ok (.if_icmp .lt 10, 3) := by decide +kernel
theorem own_d1_93 : decode prog_121_method_5_code 93 = .ok (.iload_n 0, 1) := by decide +kernel
theorem own_d1_94 : decode prog_121_method_5_code 94 = .ok (.sipush 8191, 3) := by decide +kernel
theorem own_d1_97 : decode prog_121_method_5_code 97 = .ok (.if_icmp .le 94, 3) := by decide +kernel
theorem own_d1_100 : decode prog_121_method_5_code 100 = .ok (.iload_n 0, 1) := by decide +kernel
theorem own_d1_101 : decode prog_121_method_5_code 101 = .ok (.sipush 8204, 3) := by decide +kernel
theorem own_d1_104 : decode prog_121_method_5_code 104 = .ok (.if_icmp .lt 10, 3) := by decide +kernel
theorem own_d1_107 : decode prog_121_method_5_code 107 = .ok (.iload_n 0, 1) := by decide +kernel
theorem own_d1_108 : decode prog_121_method_5_code 108 = .ok (.sipush 8205, 3) := by decide +kernel
theorem own_d1_111 : decode prog_121_method_5_code 111 = .ok (.if_icmp .le 80, 3) := by decide +kernel
theorem own_d1_114 : decode prog_121_method_5_code 114 = .ok (.iload_n 0, 1) := by decide +kernel
theorem own_d1_115 : decode prog_121_method_5_code 115 = .ok (.sipush 8304, 3) := by decide +kernel
theorem own_d1_118 : decode prog_121_method_5_code 118 = .ok (.if_icmp .lt 10, 3) := by decide +kernel
theorem own_d1_121 : decode prog_121_method_5_code 121 = .ok (.iload_n 0, 1) := by decide +kernel
theorem own_d1_122 : decode prog_121_method_5_code 122 = .ok (.sipush 8591, 3) := by decide +kernel
theorem own_d1_125 : decode prog_121_method_5_code 125 = .ok (.if_icmp .le 66, 3) := by decide +kernel
theorem own_d1_128 : decode prog_121_method_5_code 128 = .ok (.iload_n 0, 1) := by decide +kernel
theorem own_d1_129 : decode prog_121_method_5_code 129 = .ok (.sipush 11264, 3) := by decide +kernel
theorem own_d1_132 : decode prog_121_method_5_code 132 = .ok (.if_icmp .lt 10, 3) := by decide +kernel
theorem own_d1_135 : decode prog_121_method_5_code 135 = .ok (.iload_n 0, 1) := by decide +kernel
theorem own_d1_136 : decode prog_121_method_5_code 136 = .ok (.sipush 12271, 3) := by decide +kernel
theorem own_d1_139 : decode prog_121_method_5_code 139 = .ok (.if_icmp .le 52, 3) := by decide +kernel
theorem own_d1_142 : decode prog_121_method_5_code 142 = .ok (.iload_n 0, 1) := by decide +kernel
theorem own_d1_143 : decode prog_121_method_5_code 143 = .ok (.sipush 12289, 3) := by decide +kernel
theorem own_d1_146 : decode prog_121_method_5_code 146 = .ok (.if_icmp .lt 9, 3) := by decide +kernel
theorem own_d1_149 : decode prog_121_method_5_code 149 = .ok (.iload_n 0, 1) := by decide +kernel
theorem own_d1_150 : decode prog_121_method_5_code 150 = .ok (.ldc 55, 2) := by decide +kernel
theorem own_d1_152 : decode prog_121_method_5_code 152 = .ok (.if_icmp .le 39, 3) := by decide +kernel
theorem own_d1_155 : decode prog_121_method_5_code 155 = .ok (.iload_n 0, 1) := by decide +kernel
theorem own_d1_156 : decode prog_121_method_5_code 156 = .ok (.ldc 56, 2) := by decide +kernel
theorem own_d1_158 : decode prog_121_method_5_code 158 = .ok (.if_icmp .lt 9, 3) := by decide +kernel
theorem own_d1_161 : decode prog_121_method_5_code 161 = .ok (.iload_n 0, 1) := by decide +kernel
theorem own_d1_162 : decode prog_121_method_5_code 162 = .ok (.ldc 57, 2) := by decide +kernel
theorem own_d1_164 : decode prog_121_method_5_code 164 = .ok (.if_icmp .le 27, 3) := by decide +kernel
theorem own_d1_167 : decode prog_121_method_5_code 167 = .ok (.iload_n 0, 1) := by decide +kernel
theorem own_d1_168 : decode prog_121_method_5_code 168 = .ok (.ldc 58, 2) := by decide +kernel
theorem own_d1_170 : decode prog_121_method_5_code 170 = .ok (.if_icmp .lt 9, 3) := by decide +kernel
theorem own_d1_173 : decode prog_121_method_5_code 173 = .ok (.iload_n 0, 1) := by decide +kernel
theorem own_d1_174 : decode prog_121_method_5_code 174 = .ok (.ldc 59, 2) := by decide +kernel
theorem own_d1_176 : decode prog_121_method_5_code 176 = .ok (.if_icmp .le 15, 3) := by decide +kernel
theorem own_d1_179 : decode prog_121_method_5_code 179 = .ok (.iload_n 0, 1) := by decide +kernel
theorem own_d1_180 : decode prog_121_method_5_code 180 = .ok (.ldc 60, 2) := by decide +kernel
theorem own_d1_182 : decode prog_121_method_5_code 182 = .ok (.if_icmp .lt 13, 3) := by decide +kernel
theorem own_d1_185 : decode prog_121_method_5_code 185 = .ok (.iload_n 0, 1) := by decide +kernel
theorem own_d1_186 : decode prog_121_method_5_code 186 = .ok (.ldc 61, 2) := by decide +kernel
theorem own_d1_188 : decode prog_121_method_5_code 188 = .ok (.if_icmp .gt 7, 3) := by decide +kernel
theorem own_d1_191 : decode prog_121_method_5_code 191 = .ok (.iconst 1, 1) := by decide +kernel
theorem own_d1_192 : decode prog_121_method_5_code 192 = .ok (.goto 4, 3) := by decide +kernel
theorem own_d1_195 : decode prog_121_method_5_code 195 = .ok (.iconst 0, 1) := by decide +kernel
theorem own_d1_196 : decode prog_121_method_5_code 196 = .ok (.ireturn, 1) := by decide +kernel
theorem own_ef1 (x0 : Int32) : ∀ m, entryFrame m #[(.int x0)] 1 = mkF m 0 #[.val (.int x0)] [] := fun m => by first | (simp [entryFrame, mkF, argsToLocals, Value.category]; done) | rfl
def own_f1_191 (v0 : Int32) : Int32 := (1 : Int32)
set_option maxRecDepth 65536 in
theorem own_b1_191 {l : Launch} {p : Program} {e : Env} {below : List Frame} {s : State} {m : MethodId} {meth : Method} {c : Code} {Z : State} {a0 args : Array Value} {T : State} {h0 : Heap} (X : Stand p l e ({ frames := 0, cells := 0, slots := 0, locals := 0 } : Room) s m args below meth c T [] 0 0) (C : own_Ctx p s m meth c Z a0 tables_1 (⟨"com/example/dovetail/dovetail/xml/XmlNames", "mayStart", "(I)Z"⟩ : MethodName) prog_121_method_5_code 1 (some .boolean)) (hh : T.heap = h0) (v0 : Int32) :
    own_Fin p e below s (own_QP (some (.int (own_f1_191 v0))) h0) 0 0 (T.setTop (mkF m 191 #[.val (.int v0)] [])) := by
  obtain ⟨hx, hby, hml, hZ, hown, hnm, hret, hlk, hw⟩ := id C
  refine own_go (fun t => XS.iconst X.here hx rfl (hb hby own_d1_191)) ?_
  show own_Fin p e below s (own_QP (some (.int (own_f1_191 v0))) h0) 0 0 (T.setTop (mkF m 192 #[.val (.int v0)] [(.int (1 : Int32))]))
  refine own_go (fun t => XS.goto X.here hx rfl (pc0 := 192) (pc' := 196) rfl (hb hby own_d1_192) (by decide) (by decide)) ?_
  show own_Fin p e below s (own_QP (some (.int (own_f1_191 v0))) h0) 0 0 (T.setTop (mkF m 196 #[.val (.int v0)] [(.int (1 : Int32))]))
  exact own_ret X hlk hx (t := .boolean) hret rfl (Or.inl ⟨rfl, by simp, _, rfl⟩) (hb hby own_d1_196) ⟨rfl, rfl, hh⟩ (by decide) (by decide)
def own_f1_195 (v0 : Int32) : Int32 := (0 : Int32)
set_option maxRecDepth 65536 in
theorem own_b1_195 {l : Launch} {p : Program} {e : Env} {below : List Frame} {s : State} {m : MethodId} {meth : Method} {c : Code} {Z : State} {a0 args : Array Value} {T : State} {h0 : Heap} (X : Stand p l e ({ frames := 0, cells := 0, slots := 0, locals := 0 } : Room) s m args below meth c T [] 0 0) (C : own_Ctx p s m meth c Z a0 tables_1 (⟨"com/example/dovetail/dovetail/xml/XmlNames", "mayStart", "(I)Z"⟩ : MethodName) prog_121_method_5_code 1 (some .boolean)) (hh : T.heap = h0) (v0 : Int32) :
    own_Fin p e below s (own_QP (some (.int (own_f1_195 v0))) h0) 0 0 (T.setTop (mkF m 195 #[.val (.int v0)] [])) := by
  obtain ⟨hx, hby, hml, hZ, hown, hnm, hret, hlk, hw⟩ := id C
  refine own_go (fun t => XS.iconst X.here hx rfl (hb hby own_d1_195)) ?_
  show own_Fin p e below s (own_QP (some (.int (own_f1_195 v0))) h0) 0 0 (T.setTop (mkF m 196 #[.val (.int v0)] [(.int (0 : Int32))]))
  exact own_ret X hlk hx (t := .boolean) hret rfl (Or.inl ⟨rfl, by simp, _, rfl⟩) (hb hby own_d1_196) ⟨rfl, rfl, hh⟩ (by decide) (by decide)
def own_f1_185 (v0 : Int32) : Int32 := if (983039 : Int32) < v0 then (own_f1_195 v0) else (own_f1_191 v0)
set_option maxRecDepth 65536 in
theorem own_b1_185 {l : Launch} {p : Program} {e : Env} {below : List Frame} {s : State} {m : MethodId} {meth : Method} {c : Code} {Z : State} {a0 args : Array Value} {T : State} {h0 : Heap} (X : Stand p l e ({ frames := 0, cells := 0, slots := 0, locals := 0 } : Room) s m args below meth c T [] 0 0) (C : own_Ctx p s m meth c Z a0 tables_1 (⟨"com/example/dovetail/dovetail/xml/XmlNames", "mayStart", "(I)Z"⟩ : MethodName) prog_121_method_5_code 1 (some .boolean)) (hh : T.heap = h0) (v0 : Int32) :
    own_Fin p e below s (own_QP (some (.int (own_f1_185 v0))) h0) 0 0 (T.setTop (mkF m 185 #[.val (.int v0)] [])) := by
  obtain ⟨hx, hby, hml, hZ, hown, hnm, hret, hlk, hw⟩ := id C
  refine own_go (fun t => XS.iloadN X.here hx rfl (hb hby own_d1_185) rfl) ?_
  show own_Fin p e below s (own_QP (some (.int (own_f1_185 v0))) h0) 0 0 (T.setTop (mkF m 186 #[.val (.int v0)] [(.int v0)]))
  refine own_go (fun t => X.ldcInt hx hown (mvT hZ (hw _ (List.mem_of_getElem? (i := 26) rfl))) (g := (mkF m 186 #[.val (.int v0)] [(.int v0)])) rfl (hb hby own_d1_186) t) ?_
  show own_Fin p e below s (own_QP (some (.int (own_f1_185 v0))) h0) 0 0 (T.setTop (mkF m 188 #[.val (.int v0)] [(.int (983039 : Int32)), (.int v0)]))
  by_cases hq : (983039 : Int32) < v0
  · show own_Fin p e below s (own_QP (some (.int (own_f1_185 v0))) h0) 0 0 _
    rw [show (own_f1_185 v0) = (own_f1_195 v0) from if_pos hq]
    refine own_go (fun t => XS.icmpYes X.here hx rfl (pc0 := 188) (pc' := 195) rfl (hb hby own_d1_188) rfl (tlt hq).2.2.1 (by decide) (by decide)) ?_
    show own_Fin p e below s (own_QP (some (.int (own_f1_195 v0))) h0) 0 0 (T.setTop (mkF m 195 #[.val (.int v0)] []))
    exact own_b1_195 X C hh v0
  · show own_Fin p e below s (own_QP (some (.int (own_f1_185 v0))) h0) 0 0 _
    rw [show (own_f1_185 v0) = (own_f1_191 v0) from if_neg hq]
    refine own_go (fun t => XS.icmpNo X.here hx rfl (hb hby own_d1_188) rfl (flt hq).2.2.1) ?_
    show own_Fin p e below s (own_QP (some (.int (own_f1_191 v0))) h0) 0 0 (T.setTop (mkF m 191 #[.val (.int v0)] []))
    exact own_b1_191 X C hh v0
def own_f1_179 (v0 : Int32) : Int32 := if v0 < (65536 : Int32) then (own_f1_195 v0) else (own_f1_185 v0)
set_option maxRecDepth 65536 in
theorem own_b1_179 {l : Launch} {p : Program} {e : Env} {below : List Frame} {s : State} {m : MethodId} {meth : Method} {c : Code} {Z : State} {a0 args : Array Value} {T : State} {h0 : Heap} (X : Stand p l e ({ frames := 0, cells := 0, slots := 0, locals := 0 } : Room) s m args below meth c T [] 0 0) (C : own_Ctx p s m meth c Z a0 tables_1 (⟨"com/example/dovetail/dovetail/xml/XmlNames", "mayStart", "(I)Z"⟩ : MethodName) prog_121_method_5_code 1 (some .boolean)) (hh : T.heap = h0) (v0 : Int32) :
    own_Fin p e below s (own_QP (some (.int (own_f1_179 v0))) h0) 0 0 (T.setTop (mkF m 179 #[.val (.int v0)] [])) := by
  obtain ⟨hx, hby, hml, hZ, hown, hnm, hret, hlk, hw⟩ := id C
  refine own_go (fun t => XS.iloadN X.here hx rfl (hb hby own_d1_179) rfl) ?_
  show own_Fin p e below s (own_QP (some (.int (own_f1_179 v0))) h0) 0 0 (T.setTop (mkF m 180 #[.val (.int v0)] [(.int v0)]))
  refine own_go (fun t => X.ldcInt hx hown (mvT hZ (hw _ (List.mem_of_getElem? (i := 16) rfl))) (g := (mkF m 180 #[.val (.int v0)] [(.int v0)])) rfl (hb hby own_d1_180) t) ?_
  show own_Fin p e below s (own_QP (some (.int (own_f1_179 v0))) h0) 0 0 (T.setTop (mkF m 182 #[.val (.int v0)] [(.int (65536 : Int32)), (.int v0)]))
  by_cases hq : v0 < (65536 : Int32)
  · show own_Fin p e below s (own_QP (some (.int (own_f1_179 v0))) h0) 0 0 _
    rw [show (own_f1_179 v0) = (own_f1_195 v0) from if_pos hq]
    refine own_go (fun t => XS.icmpYes X.here hx rfl (pc0 := 182) (pc' := 195) rfl (hb hby own_d1_182) rfl (tlt hq).1 (by decide) (by decide)) ?_
    show own_Fin p e below s (own_QP (some (.int (own_f1_195 v0))) h0) 0 0 (T.setTop (mkF m 195 #[.val (.int v0)] []))
    exact own_b1_195 X C hh v0
  · show own_Fin p e below s (own_QP (some (.int (own_f1_179 v0))) h0) 0 0 _
    rw [show (own_f1_179 v0) = (own_f1_185 v0) from if_neg hq]
    refine own_go (fun t => XS.icmpNo X.here hx rfl (hb hby own_d1_182) rfl (flt hq).1) ?_
    show own_Fin p e below s (own_QP (some (.int (own_f1_185 v0))) h0) 0 0 (T.setTop (mkF m 185 #[.val (.int v0)] []))
    exact own_b1_185 X C hh v0
def own_f1_173 (v0 : Int32) : Int32 := if (65533 : Int32) < v0 then (own_f1_179 v0) else (own_f1_191 v0)
set_option maxRecDepth 65536 in
theorem own_b1_173 {l : Launch} {p : Program} {e : Env} {below : List Frame} {s : State} {m : MethodId} {meth : Method} {c : Code} {Z : State} {a0 args : Array Value} {T : State} {h0 : Heap} (X : Stand p l e ({ frames := 0, cells := 0, slots := 0, locals := 0 } : Room) s m args below meth c T [] 0 0) (C : own_Ctx p s m meth c Z a0 tables_1 (⟨"com/example/dovetail/dovetail/xml/XmlNames", "mayStart", "(I)Z"⟩ : MethodName) prog_121_method_5_code 1 (some .boolean)) (hh : T.heap = h0) (v0 : Int32) :
    own_Fin p e below s (own_QP (some (.int (own_f1_173 v0))) h0) 0 0 (T.setTop (mkF m 173 #[.val (.int v0)] [])) := by
  obtain ⟨hx, hby, hml, hZ, hown, hnm, hret, hlk, hw⟩ := id C
  refine own_go (fun t => XS.iloadN X.here hx rfl (hb hby own_d1_173) rfl) ?_
  show own_Fin p e below s (own_QP (some (.int (own_f1_173 v0))) h0) 0 0 (T.setTop (mkF m 174 #[.val (.int v0)] [(.int v0)]))
  refine own_go (fun t => X.ldcInt hx hown (mvT hZ (hw _ (List.mem_of_getElem? (i := 25) rfl))) (g := (mkF m 174 #[.val (.int v0)] [(.int v0)])) rfl (hb hby own_d1_174) t) ?_
  show own_Fin p e below s (own_QP (some (.int (own_f1_173 v0))) h0) 0 0 (T.setTop (mkF m 176 #[.val (.int v0)] [(.int (65533 : Int32)), (.int v0)]))
  by_cases hq : (65533 : Int32) < v0
  · show own_Fin p e below s (own_QP (some (.int (own_f1_173 v0))) h0) 0 0 _
    rw [show (own_f1_173 v0) = (own_f1_179 v0) from if_pos hq]
    refine own_go (fun t => XS.icmpNo X.here hx rfl (hb hby own_d1_176) rfl (tlt hq).2.2.2) ?_
    show own_Fin p e below s (own_QP (some (.int (own_f1_179 v0))) h0) 0 0 (T.setTop (mkF m 179 #[.val (.int v0)] []))
    exact own_b1_179 X C hh v0
  · show own_Fin p e below s (own_QP (some (.int (own_f1_173 v0))) h0) 0 0 _
    rw [show (own_f1_173 v0) = (own_f1_191 v0) from if_neg hq]
    refine own_go (fun t => XS.icmpYes X.here hx rfl (pc0 := 176) (pc' := 191) rfl (hb hby own_d1_176) rfl (flt hq).2.2.2 (by decide) (by decide)) ?_
    show own_Fin p e below s (own_QP (some (.int (own_f1_191 v0))) h0) 0 0 (T.setTop (mkF m 191 #[.val (.int v0)] []))
    exact own_b1_191 X C hh v0
def own_f1_167 (v0 : Int32) : Int32 := if v0 < (65008 : Int32) then (own_f1_179 v0) else (own_f1_173 v0)
set_option maxRecDepth 65536 in
theorem own_b1_167 {l : Launch} {p : Program} {e : Env} {below : List Frame} {s : State} {m : MethodId} {meth : Method} {c : Code} {Z : State} {a0 args : Array Value} {T : State} {h0 : Heap} (X : Stand p l e ({ frames := 0, cells := 0, slots := 0, locals := 0 } : Room) s m args below meth c T [] 0 0) (C : own_Ctx p s m meth c Z a0 tables_1 (⟨"com/example/dovetail/dovetail/xml/XmlNames", "mayStart", "(I)Z"⟩ : MethodName) prog_121_method_5_code 1 (some .boolean)) (hh : T.heap = h0) (v0 : Int32) :
    own_Fin p e below s (own_QP (some (.int (own_f1_167 v0))) h0) 0 0 (T.setTop (mkF m 167 #[.val (.int v0)] [])) := by
  obtain ⟨hx, hby, hml, hZ, hown, hnm, hret, hlk, hw⟩ := id C
  refine own_go (fun t => XS.iloadN X.here hx rfl (hb hby own_d1_167) rfl) ?_
  show own_Fin p e below s (own_QP (some (.int (own_f1_167 v0))) h0) 0 0 (T.setTop (mkF m 168 #[.val (.int v0)] [(.int v0)]))
  refine own_go (fun t => X.ldcInt hx hown (mvT hZ (hw _ (List.mem_of_getElem? (i := 15) rfl))) (g := (mkF m 168 #[.val (.int v0)] [(.int v0)])) rfl (hb hby own_d1_168) t) ?_
  show own_Fin p e below s (own_QP (some (.int (own_f1_167 v0))) h0) 0 0 (T.setTop (mkF m 170 #[.val (.int v0)] [(.int (65008 : Int32)), (.int v0)]))
  by_cases hq : v0 < (65008 : Int32)
  · show own_Fin p e below s (own_QP (some (.int (own_f1_167 v0))) h0) 0 0 _
    rw [show (own_f1_167 v0) = (own_f1_179 v0) from if_pos hq]
    refine own_go (fun t => XS.icmpYes X.here hx rfl (pc0 := 170) (pc' := 179) rfl (hb hby own_d1_170) rfl (tlt hq).1 (by decide) (by decide)) ?_
    show own_Fin p e below s (own_QP (some (.int (own_f1_179 v0))) h0) 0 0 (T.setTop (mkF m 179 #[.val (.int v0)] []))
    exact own_b1_179 X C hh v0
  · show own_Fin p e below s (own_QP (some (.int (own_f1_167 v0))) h0) 0 0 _
    rw [show (own_f1_167 v0) = (own_f1_173 v0) from if_neg hq]
    refine own_go (fun t => XS.icmpNo X.here hx rfl (hb hby own_d1_170) rfl (flt hq).1) ?_
    show own_Fin p e below s (own_QP (some (.int (own_f1_173 v0))) h0) 0 0 (T.setTop (mkF m 173 #[.val (.int v0)] []))
    exact own_b1_173 X C hh v0
def own_f1_161 (v0 : Int32) : Int32 := if (64975 : Int32) < v0 then (own_f1_167 v0) else (own_f1_191 v0)
set_option maxRecDepth 65536 in
theorem own_b1_161 {l : Launch} {p : Program} {e : Env} {below : List Frame} {s : State} {m : MethodId} {meth : Method} {c : Code} {Z : State} {a0 args : Array Value} {T : State} {h0 : Heap} (X : Stand p l e ({ frames := 0, cells := 0, slots := 0, locals := 0 } : Room) s m args below meth c T [] 0 0) (C : own_Ctx p s m meth c Z a0 tables_1 (⟨"com/example/dovetail/dovetail/xml/XmlNames", "mayStart", "(I)Z"⟩ : MethodName) prog_121_method_5_code 1 (some .boolean)) (hh : T.heap = h0) (v0 : Int32) :
    own_Fin p e below s (own_QP (some (.int (own_f1_161 v0))) h0) 0 0 (T.setTop (mkF m 161 #[.val (.int v0)] [])) := by
  obtain ⟨hx, hby, hml, hZ, hown, hnm, hret, hlk, hw⟩ := id C
  refine own_go (fun t => XS.iloadN X.here hx rfl (hb hby own_d1_161) rfl) ?_
  show own_Fin p e below s (own_QP (some (.int (own_f1_161 v0))) h0) 0 0 (T.setTop (mkF m 162 #[.val (.int v0)] [(.int v0)]))
  refine own_go (fun t => X.ldcInt hx hown (mvT hZ (hw _ (List.mem_of_getElem? (i := 24) rfl))) (g := (mkF m 162 #[.val (.int v0)] [(.int v0)])) rfl (hb hby own_d1_162) t) ?_
  show own_Fin p e below s (own_QP (some (.int (own_f1_161 v0))) h0) 0 0 (T.setTop (mkF m 164 #[.val (.int v0)] [(.int (64975 : Int32)), (.int v0)]))
  by_cases hq : (64975 : Int32) < v0
  · show own_Fin p e below s (own_QP (some (.int (own_f1_161 v0))) h0) 0 0 _
    rw [show (own_f1_161 v0) = (own_f1_167 v0) from if_pos hq]
    refine own_go (fun t => XS.icmpNo X.here hx rfl (hb hby own_d1_164) rfl (tlt hq).2.2.2) ?_
    show own_Fin p e below s (own_QP (some (.int (own_f1_167 v0))) h0) 0 0 (T.setTop (mkF m 167 #[.val (.int v0)] []))
    exact own_b1_167 X C hh v0
  · show own_Fin p e below s (own_QP (some (.int (own_f1_161 v0))) h0) 0 0 _
    rw [show (own_f1_161 v0) = (own_f1_191 v0) from if_neg hq]
    refine own_go (fun t => XS.icmpYes X.here hx rfl (pc0 := 164) (pc' := 191) rfl (hb hby own_d1_164) rfl (flt hq).2.2.2 (by decide) (by decide)) ?_
    show own_Fin p e below s (own_QP (some (.int (own_f1_191 v0))) h0) 0 0 (T.setTop (mkF m 191 #[.val (.int v0)] []))
    exact own_b1_191 X C hh v0
def own_f1_155 (v0 : Int32) : Int32 := if v0 < (63744 : Int32) then (own_f1_167 v0) else (own_f1_161 v0)
set_option maxRecDepth 65536 in
theorem own_b1_155 {l : Launch} {p : Program} {e : Env} {below : List Frame} {s : State} {m : MethodId} {meth : Method} {c : Code} {Z : State} {a0 args : Array Value} {T : State} {h0 : Heap} (X : Stand p l e ({ frames := 0, cells := 0, slots := 0, locals := 0 } : Room) s m args below meth c T [] 0 0) (C : own_Ctx p s m meth c Z a0 tables_1 (⟨"com/example/dovetail/dovetail/xml/XmlNames", "mayStart", "(I)Z"⟩ : MethodName) prog_121_method_5_code 1 (some .boolean)) (hh : T.heap = h0) (v0 : Int32) :
    own_Fin p e below s (own_QP (some (.int (own_f1_155 v0))) h0) 0 0 (T.setTop (mkF m 155 #[.val (.int v0)] [])) := by
  obtain ⟨hx, hby, hml, hZ, hown, hnm, hret, hlk, hw⟩ := id C
  refine own_go (fun t => XS.iloadN X.here hx rfl (hb hby own_d1_155) rfl) ?_
  show own_Fin p e below s (own_QP (some (.int (own_f1_155 v0))) h0) 0 0 (T.setTop (mkF m 156 #[.val (.int v0)] [(.int v0)]))
  refine own_go (fun t => X.ldcInt hx hown (mvT hZ (hw _ (List.mem_of_getElem? (i := 14) rfl))) (g := (mkF m 156 #[.val (.int v0)] [(.int v0)])) rfl (hb hby own_d1_156) t) ?_
  show own_Fin p e below s (own_QP (some (.int (own_f1_155 v0))) h0) 0 0 (T.setTop (mkF m 158 #[.val (.int v0)] [(.int (63744 : Int32)), (.int v0)]))
  by_cases hq : v0 < (63744 : Int32)
  · show own_Fin p e below s (own_QP (some (.int (own_f1_155 v0))) h0) 0 0 _
    rw [show (own_f1_155 v0) = (own_f1_167 v0) from if_pos hq]
    refine own_go (fun t => XS.icmpYes X.here hx rfl (pc0 := 158) (pc' := 167) rfl (hb hby own_d1_158) rfl (tlt hq).1 (by decide) (by decide)) ?_
    show own_Fin p e below s (own_QP (some (.int (own_f1_167 v0))) h0) 0 0 (T.setTop (mkF m 167 #[.val (.int v0)] []))
    exact own_b1_167 X C hh v0
  · show own_Fin p e below s (own_QP (some (.int (own_f1_155 v0))) h0) 0 0 _
    rw [show (own_f1_155 v0) = (own_f1_161 v0) from if_neg hq]
    refine own_go (fun t => XS.icmpNo X.here hx rfl (hb hby own_d1_158) rfl (flt hq).1) ?_
    show own_Fin p e below s (own_QP (some (.int (own_f1_161 v0))) h0) 0 0 (T.setTop (mkF m 161 #[.val (.int v0)] []))
    exact own_b1_161 X C hh v0
def own_f1_149 (v0 : Int32) : Int32 := if (55295 : Int32) < v0 then (own_f1_155 v0) else (own_f1_191 v0)
set_option maxRecDepth 65536 in
theorem own_b1_149 {l : Launch} {p : Program} {e : Env} {below : List Frame} {s : State} {m : MethodId} {meth : Method} {c : Code} {Z : State} {a0 args : Array Value} {T : State} {h0 : Heap} (X : Stand p l e ({ frames := 0, cells := 0, slots := 0, locals := 0 } : Room) s m args below meth c T [] 0 0) (C : own_Ctx p s m meth c Z a0 tables_1 (⟨"com/example/dovetail/dovetail/xml/XmlNames", "mayStart", "(I)Z"⟩ : MethodName) prog_121_method_5_code 1 (some .boolean)) (hh : T.heap = h0) (v0 : Int32) :
    own_Fin p e below s (own_QP (some (.int (own_f1_149 v0))) h0) 0 0 (T.setTop (mkF m 149 #[.val (.int v0)] [])) := by
  obtain ⟨hx, hby, hml, hZ, hown, hnm, hret, hlk, hw⟩ := id C
  refine own_go (fun t => XS.iloadN X.here hx rfl (hb hby own_d1_149) rfl) ?_
  show own_Fin p e below s (own_QP (some (.int (own_f1_149 v0))) h0) 0 0 (T.setTop (mkF m 150 #[.val (.int v0)] [(.int v0)]))
  refine own_go (fun t => X.ldcInt hx hown (mvT hZ (hw _ (List.mem_of_getElem? (i := 23) rfl))) (g := (mkF m 150 #[.val (.int v0)] [(.int v0)])) rfl (hb hby own_d1_150) t) ?_
  show own_Fin p e below s (own_QP (some (.int (own_f1_149 v0))) h0) 0 0 (T.setTop (mkF m 152 #[.val (.int v0)] [(.int (55295 : Int32)), (.int v0)]))
  by_cases hq : (55295 : Int32) < v0
  · show own_Fin p e below s (own_QP (some (.int (own_f1_149 v0))) h0) 0 0 _
    rw [show (own_f1_149 v0) = (own_f1_155 v0) from if_pos hq]
    refine own_go (fun t => XS.icmpNo X.here hx rfl (hb hby own_d1_152) rfl (tlt hq).2.2.2) ?_
    show own_Fin p e below s (own_QP (some (.int (own_f1_155 v0))) h0) 0 0 (T.setTop (mkF m 155 #[.val (.int v0)] []))
    exact own_b1_155 X C hh v0
  · show own_Fin p e below s (own_QP (some (.int (own_f1_149 v0))) h0) 0 0 _
    rw [show (own_f1_149 v0) = (own_f1_191 v0) from if_neg hq]
    refine own_go (fun t => XS.icmpYes X.here hx rfl (pc0 := 152) (pc' := 191) rfl (hb hby own_d1_152) rfl (flt hq).2.2.2 (by decide) (by decide)) ?_
    show own_Fin p e below s (own_QP (some (.int (own_f1_191 v0))) h0) 0 0 (T.setTop (mkF m 191 #[.val (.int v0)] []))
    exact own_b1_191 X C hh v0
def own_f1_142 (v0 : Int32) : Int32 := if v0 < (12289 : Int32) then (own_f1_155 v0) else (own_f1_149 v0)
set_option maxRecDepth 65536 in
theorem own_b1_142 {l : Launch} {p : Program} {e : Env} {below : List Frame} {s : State} {m : MethodId} {meth : Method} {c : Code} {Z : State} {a0 args : Array Value} {T : State} {h0 : Heap} (X : Stand p l e ({ frames := 0, cells := 0, slots := 0, locals := 0 } : Room) s m args below meth c T [] 0 0) (C : own_Ctx p s m meth c Z a0 tables_1 (⟨"com/example/dovetail/dovetail/xml/XmlNames", "mayStart", "(I)Z"⟩ : MethodName) prog_121_method_5_code 1 (some .boolean)) (hh : T.heap = h0) (v0 : Int32) :
    own_Fin p e below s (own_QP (some (.int (own_f1_142 v0))) h0) 0 0 (T.setTop (mkF m 142 #[.val (.int v0)] [])) := by
  obtain ⟨hx, hby, hml, hZ, hown, hnm, hret, hlk, hw⟩ := id C
  refine own_go (fun t => XS.iloadN X.here hx rfl (hb hby own_d1_142) rfl) ?_
  show own_Fin p e below s (own_QP (some (.int (own_f1_142 v0))) h0) 0 0 (T.setTop (mkF m 143 #[.val (.int v0)] [(.int v0)]))
  refine own_go (fun t => XS.sipush X.here hx rfl (hb hby own_d1_143)) ?_
  show own_Fin p e below s (own_QP (some (.int (own_f1_142 v0))) h0) 0 0 (T.setTop (mkF m 146 #[.val (.int v0)] [(.int (12289 : Int32)), (.int v0)]))
  by_cases hq : v0 < (12289 : Int32)
  · show own_Fin p e below s (own_QP (some (.int (own_f1_142 v0))) h0) 0 0 _
    rw [show (own_f1_142 v0) = (own_f1_155 v0) from if_pos hq]
    refine own_go (fun t => XS.icmpYes X.here hx rfl (pc0 := 146) (pc' := 155) rfl (hb hby own_d1_146) rfl (tlt hq).1 (by decide) (by decide)) ?_
    show own_Fin p e below s (own_QP (some (.int (own_f1_155 v0))) h0) 0 0 (T.setTop (mkF m 155 #[.val (.int v0)] []))
    exact own_b1_155 X C hh v0
  · show own_Fin p e below s (own_QP (some (.int (own_f1_142 v0))) h0) 0 0 _
    rw [show (own_f1_142 v0) = (own_f1_149 v0) from if_neg hq]
    refine own_go (fun t => XS.icmpNo X.here hx rfl (hb hby own_d1_146) rfl (flt hq).1) ?_
    show own_Fin p e below s (own_QP (some (.int (own_f1_149 v0))) h0) 0 0 (T.setTop (mkF m 149 #[.val (.int v0)] []))
    exact own_b1_149 X C hh v0
def own_f1_135 (v0 : Int32) : Int32 := if (12271 : Int32) < v0 then (own_f1_142 v0) else (own_f1_191 v0)
set_option maxRecDepth 65536 in
theorem own_b1_135 {l : Launch} {p : Program} {e : Env} {below : List Frame} {s : State} {m : MethodId} {meth : Method} {c : Code} {Z : State} {a0 args : Array Value} {T : State} {h0 : Heap} (X : Stand p l e ({ frames := 0, cells := 0, slots := 0, locals := 0 } : Room) s m args below meth c T [] 0 0) (C : own_Ctx p s m meth c Z a0 tables_1 (⟨"com/example/dovetail/dovetail/xml/XmlNames", "mayStart", "(I)Z"⟩ : MethodName) prog_121_method_5_code 1 (some .boolean)) (hh : T.heap = h0) (v0 : Int32) :
    own_Fin p e below s (own_QP (some (.int (own_f1_135 v0))) h0) 0 0 (T.setTop (mkF m 135 #[.val (.int v0)] [])) := by
  obtain ⟨hx, hby, hml, hZ, hown, hnm, hret, hlk, hw⟩ := id C
  refine own_go (fun t => XS.iloadN X.here hx rfl (hb hby own_d1_135) rfl) ?_
  show own_Fin p e below s (own_QP (some (.int (own_f1_135 v0))) h0) 0 0 (T.setTop (mkF m 136 #[.val (.int v0)] [(.int v0)]))
  refine own_go (fun t => XS.sipush X.here hx rfl (hb hby own_d1_136)) ?_
  show own_Fin p e below s (own_QP (some (.int (own_f1_135 v0))) h0) 0 0 (T.setTop (mkF m 139 #[.val (.int v0)] [(.int (12271 : Int32)), (.int v0)]))
  by_cases hq : (12271 : Int32) < v0
  · show own_Fin p e below s (own_QP (some (.int (own_f1_135 v0))) h0) 0 0 _
    rw [show (own_f1_135 v0) = (own_f1_142 v0) from if_pos hq]
    refine own_go (fun t => XS.icmpNo X.here hx rfl (hb hby own_d1_139) rfl (tlt hq).2.2.2) ?_
    show own_Fin p e below s (own_QP (some (.int (own_f1_142 v0))) h0) 0 0 (T.setTop (mkF m 142 #[.val (.int v0)] []))
    exact own_b1_142 X C hh v0
  · show own_Fin p e below s (own_QP (some (.int (own_f1_135 v0))) h0) 0 0 _
    rw [show (own_f1_135 v0) = (own_f1_191 v0) from if_neg hq]
    refine own_go (fun t => XS.icmpYes X.here hx rfl (pc0 := 139) (pc' := 191) rfl (hb hby own_d1_139) rfl (flt hq).2.2.2 (by decide) (by decide)) ?_
    show own_Fin p e below s (own_QP (some (.int (own_f1_191 v0))) h0) 0 0 (T.setTop (mkF m 191 #[.val (.int v0)] []))
    exact own_b1_191 X C hh v0
def own_f1_128 (v0 : Int32) : Int32 := if v0 < (11264 : Int32) then (own_f1_142 v0) else (own_f1_135 v0)
set_option maxRecDepth 65536 in
theorem own_b1_128 {l : Launch} {p : Program} {e : Env} {below : List Frame} {s : State} {m : MethodId} {meth : Method} {c : Code} {Z : State} {a0 args : Array Value} {T : State} {h0 : Heap} (X : Stand p l e ({ frames := 0, cells := 0, slots := 0, locals := 0 } : Room) s m args below meth c T [] 0 0) (C : own_Ctx p s m meth c Z a0 tables_1 (⟨"com/example/dovetail/dovetail/xml/XmlNames", "mayStart", "(I)Z"⟩ : MethodName) prog_121_method_5_code 1 (some .boolean)) (hh : T.heap = h0) (v0 : Int32) :
    own_Fin p e below s (own_QP (some (.int (own_f1_128 v0))) h0) 0 0 (T.setTop (mkF m 128 #[.val (.int v0)] [])) := by
  obtain ⟨hx, hby, hml, hZ, hown, hnm, hret, hlk, hw⟩ := id C
  refine own_go (fun t => XS.iloadN X.here hx rfl (hb hby own_d1_128) rfl) ?_
  show own_Fin p e below s (own_QP (some (.int (own_f1_128 v0))) h0) 0 0 (T.setTop (mkF m 129 #[.val (.int v0)] [(.int v0)]))
  refine own_go (fun t => XS.sipush X.here hx rfl (hb hby own_d1_129)) ?_
  show own_Fin p e below s (own_QP (some (.int (own_f1_128 v0))) h0) 0 0 (T.setTop (mkF m 132 #[.val (.int v0)] [(.int (11264 : Int32)), (.int v0)]))
  by_cases hq : v0 < (11264 : Int32)
  · show own_Fin p e below s (own_QP (some (.int (own_f1_128 v0))) h0) 0 0 _
    rw [show (own_f1_128 v0) = (own_f1_142 v0) from if_pos hq]
    refine own_go (fun t => XS.icmpYes X.here hx rfl (pc0 := 132) (pc' := 142) rfl (hb hby own_d1_132) rfl (tlt hq).1 (by decide) (by decide)) ?_
    show own_Fin p e below s (own_QP (some (.int (own_f1_142 v0))) h0) 0 0 (T.setTop (mkF m 142 #[.val (.int v0)] []))
    exact own_b1_142 X C hh v0
  · show own_Fin p e below s (own_QP (some (.int (own_f1_128 v0))) h0) 0 0 _
    rw [show (own_f1_128 v0) = (own_f1_135 v0) from if_neg hq]
    refine own_go (fun t => XS.icmpNo X.here hx rfl (hb hby own_d1_132) rfl (flt hq).1) ?_
    show own_Fin p e below s (own_QP (some (.int (own_f1_135 v0))) h0) 0 0 (T.setTop (mkF m 135 #[.val (.int v0)] []))
    exact own_b1_135 X C hh v0
def own_f1_121 (v0 : Int32) : Int32 := if (8591 : Int32) < v0 then (own_f1_128 v0) else (own_f1_191 v0)
set_option maxRecDepth 65536 in
theorem own_b1_121 {l : Launch} {p : Program} {e : Env} {below : List Frame} {s : State} {m : MethodId} {meth : Method} {c : Code} {Z : State} {a0 args : Array Value} {T : State} {h0 : Heap} (X : Stand p l e ({ frames := 0, cells := 0, slots := 0, locals := 0 } : Room) s m args below meth c T [] 0 0) (C : own_Ctx p s m meth c Z a0 tables_1 (⟨"com/example/dovetail/dovetail/xml/XmlNames", "mayStart", "(I)Z"⟩ : MethodName) prog_121_method_5_code 1 (some .boolean)) (hh : T.heap = h0) (v0 : Int32) :
    own_Fin p e below s (own_QP (some (.int (own_f1_121 v0))) h0) 0 0 (T.setTop (mkF m 121 #[.val (.int v0)] [])) := by
  obtain ⟨hx, hby, hml, hZ, hown, hnm, hret, hlk, hw⟩ := id C
  refine own_go (fun t => XS.iloadN X.here hx rfl (hb hby own_d1_121) rfl) ?_
  show own_Fin p e below s (own_QP (some (.int (own_f1_121 v0))) h0) 0 0 (T.setTop (mkF m 122 #[.val (.int v0)] [(.int v0)]))
  refine own_go (fun t => XS.sipush X.here hx rfl (hb hby own_d1_122)) ?_
  show own_Fin p e below s (own_QP (some (.int (own_f1_121 v0))) h0) 0 0 (T.setTop (mkF m 125 #[.val (.int v0)] [(.int (8591 : Int32)), (.int v0)]))
  by_cases hq : (8591 : Int32) < v0
  · show own_Fin p e below s (own_QP (some (.int (own_f1_121 v0))) h0) 0 0 _
    rw [show (own_f1_121 v0) = (own_f1_128 v0) from if_pos hq]
    refine own_go (fun t => XS.icmpNo X.here hx rfl (hb hby own_d1_125) rfl (tlt hq).2.2.2) ?_
    show own_Fin p e below s (own_QP (some (.int (own_f1_128 v0))) h0) 0 0 (T.setTop (mkF m 128 #[.val (.int v0)] []))
    exact own_b1_128 X C hh v0
  · show own_Fin p e below s (own_QP (some (.int (own_f1_121 v0))) h0) 0 0 _
    rw [show (own_f1_121 v0) = (own_f1_191 v0) from if_neg hq]
    refine own_go (fun t => XS.icmpYes X.here hx rfl (pc0 := 125) (pc' := 191) rfl (hb hby own_d1_125) rfl (flt hq).2.2.2 (by decide) (by decide)) ?_
    show own_Fin p e below s (own_QP (some (.int (own_f1_191 v0))) h0) 0 0 (T.setTop (mkF m 191 #[.val (.int v0)] []))
    exact own_b1_191 X C hh v0
def own_f1_114 (v0 : Int32) : Int32 := if v0 < (8304 : Int32) then (own_f1_128 v0) else (own_f1_121 v0)
set_option maxRecDepth 65536 in
theorem own_b1_114 {l : Launch} {p : Program} {e : Env} {below : List Frame} {s : State} {m : MethodId} {meth : Method} {c : Code} {Z : State} {a0 args : Array Value} {T : State} {h0 : Heap} (X : Stand p l e ({ frames := 0, cells := 0, slots := 0, locals := 0 } : Room) s m args below meth c T [] 0 0) (C : own_Ctx p s m meth c Z a0 tables_1 (⟨"com/example/dovetail/dovetail/xml/XmlNames", "mayStart", "(I)Z"⟩ : MethodName) prog_121_method_5_code 1 (some .boolean)) (hh : T.heap = h0) (v0 : Int32) :
    own_Fin p e below s (own_QP (some (.int (own_f1_114 v0))) h0) 0 0 (T.setTop (mkF m 114 #[.val (.int v0)] [])) := by
  obtain ⟨hx, hby, hml, hZ, hown, hnm, hret, hlk, hw⟩ := id C
  refine own_go (fun t => XS.iloadN X.here hx rfl (hb hby own_d1_114) rfl) ?_
  show own_Fin p e below s (own_QP (some (.int (own_f1_114 v0))) h0) 0 0 (T.setTop (mkF m 115 #[.val (.int v0)] [(.int v0)]))
  refine own_go (fun t => XS.sipush X.here hx rfl (hb hby own_d1_115)) ?_
  show own_Fin p e below s (own_QP (some (.int (own_f1_114 v0))) h0) 0 0 (T.setTop (mkF m 118 #[.val (.int v0)] [(.int (8304 : Int32)), (.int v0)]))
  by_cases hq : v0 < (8304 : Int32)
  · show own_Fin p e below s (own_QP (some (.int (own_f1_114 v0))) h0) 0 0 _
    rw [show (own_f1_114 v0) = (own_f1_128 v0) from if_pos hq]
    refine own_go (fun t => XS.icmpYes X.here hx rfl (pc0 := 118) (pc' := 128) rfl (hb hby own_d1_118) rfl (tlt hq).1 (by decide) (by decide)) ?_
    show own_Fin p e below s (own_QP (some (.int (own_f1_128 v0))) h0) 0 0 (T.setTop (mkF m 128 #[.val (.int v0)] []))
    exact own_b1_128 X C hh v0
  · show own_Fin p e below s (own_QP (some (.int (own_f1_114 v0))) h0) 0 0 _
    rw [show (own_f1_114 v0) = (own_f1_121 v0) from if_neg hq]
    refine own_go (fun t => XS.icmpNo X.here hx rfl (hb hby own_d1_118) rfl (flt hq).1) ?_
    show own_Fin p e below s (own_QP (some (.int (own_f1_121 v0))) h0) 0 0 (T.setTop (mkF m 121 #[.val (.int v0)] []))
    exact own_b1_121 X C hh v0
def own_f1_107 (v0 : Int32) : Int32 := if (8205 : Int32) < v0 then (own_f1_114 v0) else (own_f1_191 v0)
set_option maxRecDepth 65536 in
theorem own_b1_107 {l : Launch} {p : Program} {e : Env} {below : List Frame} {s : State} {m : MethodId} {meth : Method} {c : Code} {Z : State} {a0 args : Array Value} {T : State} {h0 : Heap} (X : Stand p l e ({ frames := 0, cells := 0, slots := 0, locals := 0 } : Room) s m args below meth c T [] 0 0) (C : own_Ctx p s m meth c Z a0 tables_1 (⟨"com/example/dovetail/dovetail/xml/XmlNames", "mayStart", "(I)Z"⟩ : MethodName) prog_121_method_5_code 1 (some .boolean)) (hh : T.heap = h0) (v0 : Int32) :
    own_Fin p e below s (own_QP (some (.int (own_f1_107 v0))) h0) 0 0 (T.setTop (mkF m 107 #[.val (.int v0)] [])) := by
  obtain ⟨hx, hby, hml, hZ, hown, hnm, hret, hlk, hw⟩ := id C
  refine own_go (fun t => XS.iloadN X.here hx rfl (hb hby own_d1_107) rfl) ?_
  show own_Fin p e below s (own_QP (some (.int (own_f1_107 v0))) h0) 0 0 (T.setTop (mkF m 108 #[.val (.int v0)] [(.int v0)]))
  refine own_go (fun t => XS.sipush X.here hx rfl (hb hby own_d1_108)) ?_
  show own_Fin p e below s (own_QP (some (.int (own_f1_107 v0))) h0) 0 0 (T.setTop (mkF m 111 #[.val (.int v0)] [(.int (8205 : Int32)), (.int v0)]))
  by_cases hq : (8205 : Int32) < v0
  · show own_Fin p e below s (own_QP (some (.int (own_f1_107 v0))) h0) 0 0 _
    rw [show (own_f1_107 v0) = (own_f1_114 v0) from if_pos hq]
    refine own_go (fun t => XS.icmpNo X.here hx rfl (hb hby own_d1_111) rfl (tlt hq).2.2.2) ?_
    show own_Fin p e below s (own_QP (some (.int (own_f1_114 v0))) h0) 0 0 (T.setTop (mkF m 114 #[.val (.int v0)] []))
    exact own_b1_114 X C hh v0
  · show own_Fin p e below s (own_QP (some (.int (own_f1_107 v0))) h0) 0 0 _
    rw [show (own_f1_107 v0) = (own_f1_191 v0) from if_neg hq]
    refine own_go (fun t => XS.icmpYes X.here hx rfl (pc0 := 111) (pc' := 191) rfl (hb hby own_d1_111) rfl (flt hq).2.2.2 (by decide) (by decide)) ?_
    show own_Fin p e below s (own_QP (some (.int (own_f1_191 v0))) h0) 0 0 (T.setTop (mkF m 191 #[.val (.int v0)] []))
    exact own_b1_191 X C hh v0
def own_f1_100 (v0 : Int32) : Int32 := if v0 < (8204 : Int32) then (own_f1_114 v0) else (own_f1_107 v0)
set_option maxRecDepth 65536 in
theorem own_b1_100 {l : Launch} {p : Program} {e : Env} {below : List Frame} {s : State} {m : MethodId} {meth : Method} {c : Code} {Z : State} {a0 args : Array Value} {T : State} {h0 : Heap} (X : Stand p l e ({ frames := 0, cells := 0, slots := 0, locals := 0 } : Room) s m args below meth c T [] 0 0) (C : own_Ctx p s m meth c Z a0 tables_1 (⟨"com/example/dovetail/dovetail/xml/XmlNames", "mayStart", "(I)Z"⟩ : MethodName) prog_121_method_5_code 1 (some .boolean)) (hh : T.heap = h0) (v0 : Int32) :
    own_Fin p e below s (own_QP (some (.int (own_f1_100 v0))) h0) 0 0 (T.setTop (mkF m 100 #[.val (.int v0)] [])) := by
  obtain ⟨hx, hby, hml, hZ, hown, hnm, hret, hlk, hw⟩ := id C
  refine own_go (fun t => XS.iloadN X.here hx rfl (hb hby own_d1_100) rfl) ?_
  show own_Fin p e below s (own_QP (some (.int (own_f1_100 v0))) h0) 0 0 (T.setTop (mkF m 101 #[.val (.int v0)] [(.int v0)]))
  refine own_go (fun t => XS.sipush X.here hx rfl (hb hby own_d1_101)) ?_
  show own_Fin p e below s (own_QP (some (.int (own_f1_100 v0))) h0) 0 0 (T.setTop (mkF m 104 #[.val (.int v0)] [(.int (8204 : Int32)), (.int v0)]))
  by_cases hq : v0 < (8204 : Int32)
  · show own_Fin p e below s (own_QP (some (.int (own_f1_100 v0))) h0) 0 0 _
    rw [show (own_f1_100 v0) = (own_f1_114 v0) from if_pos hq]
    refine own_go (fun t => XS.icmpYes X.here hx rfl (pc0 := 104) (pc' := 114) rfl (hb hby own_d1_104) rfl (tlt hq).1 (by decide) (by decide)) ?_
    show own_Fin p e below s (own_QP (some (.int (own_f1_114 v0))) h0) 0 0 (T.setTop (mkF m 114 #[.val (.int v0)] []))
    exact own_b1_114 X C hh v0
  · show own_Fin p e below s (own_QP (some (.int (own_f1_100 v0))) h0) 0 0 _
    rw [show (own_f1_100 v0) = (own_f1_107 v0) from if_neg hq]
    refine own_go (fun t => XS.icmpNo X.here hx rfl (hb hby own_d1_104) rfl (flt hq).1) ?_
    show own_Fin p e below s (own_QP (some (.int (own_f1_107 v0))) h0) 0 0 (T.setTop (mkF m 107 #[.val (.int v0)] []))
    exact own_b1_107 X C hh v0
def own_f1_93 (v0 : Int32) : Int32 := if (8191 : Int32) < v0 then (own_f1_100 v0) else (own_f1_191 v0)
set_option maxRecDepth 65536 in
theorem own_b1_93 {l : Launch} {p : Program} {e : Env} {below : List Frame} {s : State} {m : MethodId} {meth : Method} {c : Code} {Z : State} {a0 args : Array Value} {T : State} {h0 : Heap} (X : Stand p l e ({ frames := 0, cells := 0, slots := 0, locals := 0 } : Room) s m args below meth c T [] 0 0) (C : own_Ctx p s m meth c Z a0 tables_1 (⟨"com/example/dovetail/dovetail/xml/XmlNames", "mayStart", "(I)Z"⟩ : MethodName) prog_121_method_5_code 1 (some .boolean)) (hh : T.heap = h0) (v0 : Int32) :
    own_Fin p e below s (own_QP (some (.int (own_f1_93 v0))) h0) 0 0 (T.setTop (mkF m 93 #[.val (.int v0)] [])) := by
  obtain ⟨hx, hby, hml, hZ, hown, hnm, hret, hlk, hw⟩ := id C
  refine own_go (fun t => XS.iloadN X.here hx rfl (hb hby own_d1_93) rfl) ?_
  show own_Fin p e below s (own_QP (some (.int (own_f1_93 v0))) h0) 0 0 (T.setTop (mkF m 94 #[.val (.int v0)] [(.int v0)]))
  refine own_go (fun t => XS.sipush X.here hx rfl (hb hby own_d1_94)) ?_
  show own_Fin p e below s (own_QP (some (.int (own_f1_93 v0))) h0) 0 0 (T.setTop (mkF m 97 #[.val (.int v0)] [(.int (8191 : Int32)), (.int v0)]))
  by_cases hq : (8191 : Int32) < v0
  · show own_Fin p e below s (own_QP (some (.int (own_f1_93 v0))) h0) 0 0 _
    rw [show (own_f1_93 v0) = (own_f1_100 v0) from if_pos hq]
    refine own_go (fun t => XS.icmpNo X.here hx rfl (hb hby own_d1_97) rfl (tlt hq).2.2.2) ?_
    show own_Fin p e below s (own_QP (some (.int (own_f1_100 v0))) h0) 0 0 (T.setTop (mkF m 100 #[.val (.int v0)] []))
    exact own_b1_100 X C hh v0
  · show own_Fin p e below s (own_QP (some (.int (own_f1_93 v0))) h0) 0 0 _
    rw [show (own_f1_93 v0) = (own_f1_191 v0) from if_neg hq]
    refine own_go (fun t => XS.icmpYes X.here hx rfl (pc0 := 97) (pc' := 191) rfl (hb hby own_d1_97) rfl (flt hq).2.2.2 (by decide) (by decide)) ?_
    show own_Fin p e below s (own_QP (some (.int (own_f1_191 v0))) h0) 0 0 (T.setTop (mkF m 191 #[.val (.int v0)] []))
    exact own_b1_191 X C hh v0
def own_f1_86 (v0 : Int32) : Int32 := if v0 < (895 : Int32) then (own_f1_100 v0) else (own_f1_93 v0)
set_option maxRecDepth 65536 in
theorem own_b1_86 {l : Launch} {p : Program} {e : Env} {below : List Frame} {s : State} {m : MethodId} {meth : Method} {c : Code} {Z : State} {a0 args : Array Value} {T : State} {h0 : Heap} (X : Stand p l e ({ frames := 0, cells := 0, slots := 0, locals := 0 } : Room) s m args below meth c T [] 0 0) (C : own_Ctx p s m meth c Z a0 tables_1 (⟨"com/example/dovetail/dovetail/xml/XmlNames", "mayStart", "(I)Z"⟩ : MethodName) prog_121_method_5_code 1 (some .boolean)) (hh : T.heap = h0) (v0 : Int32) :
    own_Fin p e below s (own_QP (some (.int (own_f1_86 v0))) h0) 0 0 (T.setTop (mkF m 86 #[.val (.int v0)] [])) := by
  obtain ⟨hx, hby, hml, hZ, hown, hnm, hret, hlk, hw⟩ := id C
  refine own_go (fun t => XS.iloadN X.here hx rfl (hb hby own_d1_86) rfl) ?_
  show own_Fin p e below s (own_QP (some (.int (own_f1_86 v0))) h0) 0 0 (T.setTop (mkF m 87 #[.val (.int v0)] [(.int v0)]))
  refine own_go (fun t => XS.sipush X.here hx rfl (hb hby own_d1_87)) ?_
  show own_Fin p e below s (own_QP (some (.int (own_f1_86 v0))) h0) 0 0 (T.setTop (mkF m 90 #[.val (.int v0)] [(.int (895 : Int32)), (.int v0)]))
  by_cases hq : v0 < (895 : Int32)
  · show own_Fin p e below s (own_QP (some (.int (own_f1_86 v0))) h0) 0 0 _
    rw [show (own_f1_86 v0) = (own_f1_100 v0) from if_pos hq]
    refine own_go (fun t => XS.icmpYes X.here hx rfl (pc0 := 90) (pc' := 100) rfl (hb hby own_d1_90) rfl (tlt hq).1 (by decide) (by decide)) ?_
    show own_Fin p e below s (own_QP (some (.int (own_f1_100 v0))) h0) 0 0 (T.setTop (mkF m 100 #[.val (.int v0)] []))
    exact own_b1_100 X C hh v0
  · show own_Fin p e below s (own_QP (some (.int (own_f1_86 v0))) h0) 0 0 _
    rw [show (own_f1_86 v0) = (own_f1_93 v0) from if_neg hq]
    refine own_go (fun t => XS.icmpNo X.here hx rfl (hb hby own_d1_90) rfl (flt hq).1) ?_
    show own_Fin p e below s (own_QP (some (.int (own_f1_93 v0))) h0) 0 0 (T.setTop (mkF m 93 #[.val (.int v0)] []))
    exact own_b1_93 X C hh v0
def own_f1_79 (v0 : Int32) : Int32 := if (893 : Int32) < v0 then (own_f1_86 v0) else (own_f1_191 v0)
set_option maxRecDepth 65536 in
theorem own_b1_79 {l : Launch} {p : Program} {e : Env} {below : List Frame} {s : State} {m : MethodId} {meth : Method} {c : Code} {Z : State} {a0 args : Array Value} {T : State} {h0 : Heap} (X : Stand p l e ({ frames := 0, cells := 0, slots := 0, locals := 0 } : Room) s m args below meth c T [] 0 0) (C : own_Ctx p s m meth c Z a0 tables_1 (⟨"com/example/dovetail/dovetail/xml/XmlNames", "mayStart", "(I)Z"⟩ : MethodName) prog_121_method_5_code 1 (some .boolean)) (hh : T.heap = h0) (v0 : Int32) :
    own_Fin p e below s (own_QP (some (.int (own_f1_79 v0))) h0) 0 0 (T.setTop (mkF m 79 #[.val (.int v0)] [])) := by
  obtain ⟨hx, hby, hml, hZ, hown, hnm, hret, hlk, hw⟩ := id C
  refine own_go (fun t => XS.iloadN X.here hx rfl (hb hby own_d1_79) rfl) ?_
  show own_Fin p e below s (own_QP (some (.int (own_f1_79 v0))) h0) 0 0 (T.setTop (mkF m 80 #[.val (.int v0)] [(.int v0)]))
  refine own_go (fun t => XS.sipush X.here hx rfl (hb hby own_d1_80)) ?_
  show own_Fin p e below s (own_QP (some (.int (own_f1_79 v0))) h0) 0 0 (T.setTop (mkF m 83 #[.val (.int v0)] [(.int (893 : Int32)), (.int v0)]))
  by_cases hq : (893 : Int32) < v0
  · show own_Fin p e below s (own_QP (some (.int (own_f1_79 v0))) h0) 0 0 _
    rw [show (own_f1_79 v0) = (own_f1_86 v0) from if_pos hq]
    refine own_go (fun t => XS.icmpNo X.here hx rfl (hb hby own_d1_83) rfl (tlt hq).2.2.2) ?_
    show own_Fin p e below s (own_QP (some (.int (own_f1_86 v0))) h0) 0 0 (T.setTop (mkF m 86 #[.val (.int v0)] []))
    exact own_b1_86 X C hh v0
  · show own_Fin p e below s (own_QP (some (.int (own_f1_79 v0))) h0) 0 0 _
    rw [show (own_f1_79 v0) = (own_f1_191 v0) from if_neg hq]
    refine own_go (fun t => XS.icmpYes X.here hx rfl (pc0 := 83) (pc' := 191) rfl (hb hby own_d1_83) rfl (flt hq).2.2.2 (by decide) (by decide)) ?_
    show own_Fin p e below s (own_QP (some (.int (own_f1_191 v0))) h0) 0 0 (T.setTop (mkF m 191 #[.val (.int v0)] []))
    exact own_b1_191 X C hh v0
def own_f1_72 (v0 : Int32) : Int32 := if v0 < (880 : Int32) then (own_f1_86 v0) else (own_f1_79 v0)
set_option maxRecDepth 65536 in
theorem own_b1_72 {l : Launch} {p : Program} {e : Env} {below : List Frame} {s : State} {m : MethodId} {meth : Method} {c : Code} {Z : State} {a0 args : Array Value} {T : State} {h0 : Heap} (X : Stand p l e ({ frames := 0, cells := 0, slots := 0, locals := 0 } : Room) s m args below meth c T [] 0 0) (C : own_Ctx p s m meth c Z a0 tables_1 (⟨"com/example/dovetail/dovetail/xml/XmlNames", "mayStart", "(I)Z"⟩ : MethodName) prog_121_method_5_code 1 (some .boolean)) (hh : T.heap = h0) (v0 : Int32) :
    own_Fin p e below s (own_QP (some (.int (own_f1_72 v0))) h0) 0 0 (T.setTop (mkF m 72 #[.val (.int v0)] [])) := by
  obtain ⟨hx, hby, hml, hZ, hown, hnm, hret, hlk, hw⟩ := id C
  refine own_go (fun t => XS.iloadN X.here hx rfl (hb hby own_d1_72) rfl) ?_
  show own_Fin p e below s (own_QP (some (.int (own_f1_72 v0))) h0) 0 0 (T.setTop (mkF m 73 #[.val (.int v0)] [(.int v0)]))
  refine own_go (fun t => XS.sipush X.here hx rfl (hb hby own_d1_73)) ?_
  show own_Fin p e below s (own_QP (some (.int (own_f1_72 v0))) h0) 0 0 (T.setTop (mkF m 76 #[.val (.int v0)] [(.int (880 : Int32)), (.int v0)]))
  by_cases hq : v0 < (880 : Int32)
  · show own_Fin p e below s (own_QP (some (.int (own_f1_72 v0))) h0) 0 0 _
    rw [show (own_f1_72 v0) = (own_f1_86 v0) from if_pos hq]
    refine own_go (fun t => XS.icmpYes X.here hx rfl (pc0 := 76) (pc' := 86) rfl (hb hby own_d1_76) rfl (tlt hq).1 (by decide) (by decide)) ?_
    show own_Fin p e below s (own_QP (some (.int (own_f1_86 v0))) h0) 0 0 (T.setTop (mkF m 86 #[.val (.int v0)] []))
    exact own_b1_86 X C hh v0
  · show own_Fin p e below s (own_QP (some (.int (own_f1_72 v0))) h0) 0 0 _
    rw [show (own_f1_72 v0) = (own_f1_79 v0) from if_neg hq]
    refine own_go (fun t => XS.icmpNo X.here hx rfl (hb hby own_d1_76) rfl (flt hq).1) ?_
    show own_Fin p e below s (own_QP (some (.int (own_f1_79 v0))) h0) 0 0 (T.setTop (mkF m 79 #[.val (.int v0)] []))
    exact own_b1_79 X C hh v0
def own_f1_65 (v0 : Int32) : Int32 := if (767 : Int32) < v0 then (own_f1_72 v0) else (own_f1_191 v0)
set_option maxRecDepth 65536 in
theorem own_b1_65 {l : Launch} {p : Program} {e : Env} {below : List Frame} {s : State} {m : MethodId} {meth : Method} {c : Code} {Z : State} {a0 args : Array Value} {T : State} {h0 : Heap} (X : Stand p l e ({ frames := 0, cells := 0, slots := 0, locals := 0 } : Room) s m args below meth c T [] 0 0) (C : own_Ctx p s m meth c Z a0 tables_1 (⟨"com/example/dovetail/dovetail/xml/XmlNames", "mayStart", "(I)Z"⟩ : MethodName) prog_121_method_5_code 1 (some .boolean)) (hh : T.heap = h0) (v0 : Int32) :
    own_Fin p e below s (own_QP (some (.int (own_f1_65 v0))) h0) 0 0 (T.setTop (mkF m 65 #[.val (.int v0)] [])) := by
  obtain ⟨hx, hby, hml, hZ, hown, hnm, hret, hlk, hw⟩ := id C
  refine own_go (fun t => XS.iloadN X.here hx rfl (hb hby own_d1_65) rfl) ?_
  show own_Fin p e below s (own_QP (some (.int (own_f1_65 v0))) h0) 0 0 (T.setTop (mkF m 66 #[.val (.int v0)] [(.int v0)]))
  refine own_go (fun t => XS.sipush X.here hx rfl (hb hby own_d1_66)) ?_
  show own_Fin p e below s (own_QP (some (.int (own_f1_65 v0))) h0) 0 0 (T.setTop (mkF m 69 #[.val (.int v0)] [(.int (767 : Int32)), (.int v0)]))
  by_cases hq : (767 : Int32) < v0
  · show own_Fin p e below s (own_QP (some (.int (own_f1_65 v0))) h0) 0 0 _
    rw [show (own_f1_65 v0) = (own_f1_72 v0) from if_pos hq]
    refine own_go (fun t => XS.icmpNo X.here hx rfl (hb hby own_d1_69) rfl (tlt hq).2.2.2) ?_
    show own_Fin p e below s (own_QP (some (.int (own_f1_72 v0))) h0) 0 0 (T.setTop (mkF m 72 #[.val (.int v0)] []))
    exact own_b1_72 X C hh v0
  · show own_Fin p e below s (own_QP (some (.int (own_f1_65 v0))) h0) 0 0 _
    rw [show (own_f1_65 v0) = (own_f1_191 v0) from if_neg hq]
    refine own_go (fun t => XS.icmpYes X.here hx rfl (pc0 := 69) (pc' := 191) rfl (hb hby own_d1_69) rfl (flt hq).2.2.2 (by decide) (by decide)) ?_
    show own_Fin p e below s (own_QP (some (.int (own_f1_191 v0))) h0) 0 0 (T.setTop (mkF m 191 #[.val (.int v0)] []))
    exact own_b1_191 X C hh v0
def own_f1_58 (v0 : Int32) : Int32 := if v0 < (248 : Int32) then (own_f1_72 v0) else (own_f1_65 v0)
set_option maxRecDepth 65536 in
theorem own_b1_58 {l : Launch} {p : Program} {e : Env} {below : List Frame} {s : State} {m : MethodId} {meth : Method} {c : Code} {Z : State} {a0 args : Array Value} {T : State} {h0 : Heap} (X : Stand p l e ({ frames := 0, cells := 0, slots := 0, locals := 0 } : Room) s m args below meth c T [] 0 0) (C : own_Ctx p s m meth c Z a0 tables_1 (⟨"com/example/dovetail/dovetail/xml/XmlNames", "mayStart", "(I)Z"⟩ : MethodName) prog_121_method_5_code 1 (some .boolean)) (hh : T.heap = h0) (v0 : Int32) :
    own_Fin p e below s (own_QP (some (.int (own_f1_58 v0))) h0) 0 0 (T.setTop (mkF m 58 #[.val (.int v0)] [])) := by
  obtain ⟨hx, hby, hml, hZ, hown, hnm, hret, hlk, hw⟩ := id C
  refine own_go (fun t => XS.iloadN X.here hx rfl (hb hby own_d1_58) rfl) ?_
  show own_Fin p e below s (own_QP (some (.int (own_f1_58 v0))) h0) 0 0 (T.setTop (mkF m 59 #[.val (.int v0)] [(.int v0)]))
  refine own_go (fun t => XS.sipush X.here hx rfl (hb hby own_d1_59)) ?_
  show own_Fin p e below s (own_QP (some (.int (own_f1_58 v0))) h0) 0 0 (T.setTop (mkF m 62 #[.val (.int v0)] [(.int (248 : Int32)), (.int v0)]))
  by_cases hq : v0 < (248 : Int32)
  · show own_Fin p e below s (own_QP (some (.int (own_f1_58 v0))) h0) 0 0 _
    rw [show (own_f1_58 v0) = (own_f1_72 v0) from if_pos hq]
    refine own_go (fun t => XS.icmpYes X.here hx rfl (pc0 := 62) (pc' := 72) rfl (hb hby own_d1_62) rfl (tlt hq).1 (by decide) (by decide)) ?_
    show own_Fin p e below s (own_QP (some (.int (own_f1_72 v0))) h0) 0 0 (T.setTop (mkF m 72 #[.val (.int v0)] []))
    exact own_b1_72 X C hh v0
  · show own_Fin p e below s (own_QP (some (.int (own_f1_58 v0))) h0) 0 0 _
    rw [show (own_f1_58 v0) = (own_f1_65 v0) from if_neg hq]
    refine own_go (fun t => XS.icmpNo X.here hx rfl (hb hby own_d1_62) rfl (flt hq).1) ?_
    show own_Fin p e below s (own_QP (some (.int (own_f1_65 v0))) h0) 0 0 (T.setTop (mkF m 65 #[.val (.int v0)] []))
    exact own_b1_65 X C hh v0
def own_f1_51 (v0 : Int32) : Int32 := if (246 : Int32) < v0 then (own_f1_58 v0) else (own_f1_191 v0)
set_option maxRecDepth 65536 in
theorem own_b1_51 {l : Launch} {p : Program} {e : Env} {below : List Frame} {s : State} {m : MethodId} {meth : Method} {c : Code} {Z : State} {a0 args : Array Value} {T : State} {h0 : Heap} (X : Stand p l e ({ frames := 0, cells := 0, slots := 0, locals := 0 } : Room) s m args below meth c T [] 0 0) (C : own_Ctx p s m meth c Z a0 tables_1 (⟨"com/example/dovetail/dovetail/xml/XmlNames", "mayStart", "(I)Z"⟩ : MethodName) prog_121_method_5_code 1 (some .boolean)) (hh : T.heap = h0) (v0 : Int32) :
    own_Fin p e below s (own_QP (some (.int (own_f1_51 v0))) h0) 0 0 (T.setTop (mkF m 51 #[.val (.int v0)] [])) := by
  obtain ⟨hx, hby, hml, hZ, hown, hnm, hret, hlk, hw⟩ := id C
  refine own_go (fun t => XS.iloadN X.here hx rfl (hb hby own_d1_51) rfl) ?_
  show own_Fin p e below s (own_QP (some (.int (own_f1_51 v0))) h0) 0 0 (T.setTop (mkF m 52 #[.val (.int v0)] [(.int v0)]))
  refine own_go (fun t => XS.sipush X.here hx rfl (hb hby own_d1_52)) ?_
  show own_Fin p e below s (own_QP (some (.int (own_f1_51 v0))) h0) 0 0 (T.setTop (mkF m 55 #[.val (.int v0)] [(.int (246 : Int32)), (.int v0)]))
  by_cases hq : (246 : Int32) < v0
  · show own_Fin p e below s (own_QP (some (.int (own_f1_51 v0))) h0) 0 0 _
    rw [show (own_f1_51 v0) = (own_f1_58 v0) from if_pos hq]
    refine own_go (fun t => XS.icmpNo X.here hx rfl (hb hby own_d1_55) rfl (tlt hq).2.2.2) ?_
    show own_Fin p e below s (own_QP (some (.int (own_f1_58 v0))) h0) 0 0 (T.setTop (mkF m 58 #[.val (.int v0)] []))
    exact own_b1_58 X C hh v0
  · show own_Fin p e below s (own_QP (some (.int (own_f1_51 v0))) h0) 0 0 _
    rw [show (own_f1_51 v0) = (own_f1_191 v0) from if_neg hq]
    refine own_go (fun t => XS.icmpYes X.here hx rfl (pc0 := 55) (pc' := 191) rfl (hb hby own_d1_55) rfl (flt hq).2.2.2 (by decide) (by decide)) ?_
    show own_Fin p e below s (own_QP (some (.int (own_f1_191 v0))) h0) 0 0 (T.setTop (mkF m 191 #[.val (.int v0)] []))
    exact own_b1_191 X C hh v0
def own_f1_44 (v0 : Int32) : Int32 := if v0 < (216 : Int32) then (own_f1_58 v0) else (own_f1_51 v0)
set_option maxRecDepth 65536 in
theorem own_b1_44 {l : Launch} {p : Program} {e : Env} {below : List Frame} {s : State} {m : MethodId} {meth : Method} {c : Code} {Z : State} {a0 args : Array Value} {T : State} {h0 : Heap} (X : Stand p l e ({ frames := 0, cells := 0, slots := 0, locals := 0 } : Room) s m args below meth c T [] 0 0) (C : own_Ctx p s m meth c Z a0 tables_1 (⟨"com/example/dovetail/dovetail/xml/XmlNames", "mayStart", "(I)Z"⟩ : MethodName) prog_121_method_5_code 1 (some .boolean)) (hh : T.heap = h0) (v0 : Int32) :
    own_Fin p e below s (own_QP (some (.int (own_f1_44 v0))) h0) 0 0 (T.setTop (mkF m 44 #[.val (.int v0)] [])) := by
  obtain ⟨hx, hby, hml, hZ, hown, hnm, hret, hlk, hw⟩ := id C
  refine own_go (fun t => XS.iloadN X.here hx rfl (hb hby own_d1_44) rfl) ?_
  show own_Fin p e below s (own_QP (some (.int (own_f1_44 v0))) h0) 0 0 (T.setTop (mkF m 45 #[.val (.int v0)] [(.int v0)]))
  refine own_go (fun t => XS.sipush X.here hx rfl (hb hby own_d1_45)) ?_
  show own_Fin p e below s (own_QP (some (.int (own_f1_44 v0))) h0) 0 0 (T.setTop (mkF m 48 #[.val (.int v0)] [(.int (216 : Int32)), (.int v0)]))
  by_cases hq : v0 < (216 : Int32)
  · show own_Fin p e below s (own_QP (some (.int (own_f1_44 v0))) h0) 0 0 _
    rw [show (own_f1_44 v0) = (own_f1_58 v0) from if_pos hq]
    refine own_go (fun t => XS.icmpYes X.here hx rfl (pc0 := 48) (pc' := 58) rfl (hb hby own_d1_48) rfl (tlt hq).1 (by decide) (by decide)) ?_
    show own_Fin p e below s (own_QP (some (.int (own_f1_58 v0))) h0) 0 0 (T.setTop (mkF m 58 #[.val (.int v0)] []))
    exact own_b1_58 X C hh v0
  · show own_Fin p e below s (own_QP (some (.int (own_f1_44 v0))) h0) 0 0 _
    rw [show (own_f1_44 v0) = (own_f1_51 v0) from if_neg hq]
    refine own_go (fun t => XS.icmpNo X.here hx rfl (hb hby own_d1_48) rfl (flt hq).1) ?_
    show own_Fin p e below s (own_QP (some (.int (own_f1_51 v0))) h0) 0 0 (T.setTop (mkF m 51 #[.val (.int v0)] []))
    exact own_b1_51 X C hh v0
def own_f1_37 (v0 : Int32) : Int32 := if (214 : Int32) < v0 then (own_f1_44 v0) else (own_f1_191 v0)
set_option maxRecDepth 65536 in
theorem own_b1_37 {l : Launch} {p : Program} {e : Env} {below : List Frame} {s : State} {m : MethodId} {meth : Method} {c : Code} {Z : State} {a0 args : Array Value} {T : State} {h0 : Heap} (X : Stand p l e ({ frames := 0, cells := 0, slots := 0, locals := 0 } : Room) s m args below meth c T [] 0 0) (C : own_Ctx p s m meth c Z a0 tables_1 (⟨"com/example/dovetail/dovetail/xml/XmlNames", "mayStart", "(I)Z"⟩ : MethodName) prog_121_method_5_code 1 (some .boolean)) (hh : T.heap = h0) (v0 : Int32) :
    own_Fin p e below s (own_QP (some (.int (own_f1_37 v0))) h0) 0 0 (T.setTop (mkF m 37 #[.val (.int v0)] [])) := by
  obtain ⟨hx, hby, hml, hZ, hown, hnm, hret, hlk, hw⟩ := id C
  refine own_go (fun t => XS.iloadN X.here hx rfl (hb hby own_d1_37) rfl) ?_
  show own_Fin p e below s (own_QP (some (.int (own_f1_37 v0))) h0) 0 0 (T.setTop (mkF m 38 #[.val (.int v0)] [(.int v0)]))
  refine own_go (fun t => XS.sipush X.here hx rfl (hb hby own_d1_38)) ?_
  show own_Fin p e below s (own_QP (some (.int (own_f1_37 v0))) h0) 0 0 (T.setTop (mkF m 41 #[.val (.int v0)] [(.int (214 : Int32)), (.int v0)]))
  by_cases hq : (214 : Int32) < v0
  · show own_Fin p e below s (own_QP (some (.int (own_f1_37 v0))) h0) 0 0 _
    rw [show (own_f1_37 v0) = (own_f1_44 v0) from if_pos hq]
    refine own_go (fun t => XS.icmpNo X.here hx rfl (hb hby own_d1_41) rfl (tlt hq).2.2.2) ?_
    show own_Fin p e below s (own_QP (some (.int (own_f1_44 v0))) h0) 0 0 (T.setTop (mkF m 44 #[.val (.int v0)] []))
    exact own_b1_44 X C hh v0
  · show own_Fin p e below s (own_QP (some (.int (own_f1_37 v0))) h0) 0 0 _
    rw [show (own_f1_37 v0) = (own_f1_191 v0) from if_neg hq]
    refine own_go (fun t => XS.icmpYes X.here hx rfl (pc0 := 41) (pc' := 191) rfl (hb hby own_d1_41) rfl (flt hq).2.2.2 (by decide) (by decide)) ?_
    show own_Fin p e below s (own_QP (some (.int (own_f1_191 v0))) h0) 0 0 (T.setTop (mkF m 191 #[.val (.int v0)] []))
    exact own_b1_191 X C hh v0
def own_f1_30 (v0 : Int32) : Int32 := if v0 < (192 : Int32) then (own_f1_44 v0) else (own_f1_37 v0)
set_option maxRecDepth 65536 in
theorem own_b1_30 {l : Launch} {p : Program} {e : Env} {below : List Frame} {s : State} {m : MethodId} {meth : Method} {c : Code} {Z : State} {a0 args : Array Value} {T : State} {h0 : Heap} (X : Stand p l e ({ frames := 0, cells := 0, slots := 0, locals := 0 } : Room) s m args below meth c T [] 0 0) (C : own_Ctx p s m meth c Z a0 tables_1 (⟨"com/example/dovetail/dovetail/xml/XmlNames", "mayStart", "(I)Z"⟩ : MethodName) prog_121_method_5_code 1 (some .boolean)) (hh : T.heap = h0) (v0 : Int32) :
    own_Fin p e below s (own_QP (some (.int (own_f1_30 v0))) h0) 0 0 (T.setTop (mkF m 30 #[.val (.int v0)] [])) := by
  obtain ⟨hx, hby, hml, hZ, hown, hnm, hret, hlk, hw⟩ := id C
  refine own_go (fun t => XS.iloadN X.here hx rfl (hb hby own_d1_30) rfl) ?_
  show own_Fin p e below s (own_QP (some (.int (own_f1_30 v0))) h0) 0 0 (T.setTop (mkF m 31 #[.val (.int v0)] [(.int v0)]))
  refine own_go (fun t => XS.sipush X.here hx rfl (hb hby own_d1_31)) ?_
  show own_Fin p e below s (own_QP (some (.int (own_f1_30 v0))) h0) 0 0 (T.setTop (mkF m 34 #[.val (.int v0)] [(.int (192 : Int32)), (.int v0)]))
  by_cases hq : v0 < (192 : Int32)
  · show own_Fin p e below s (own_QP (some (.int (own_f1_30 v0))) h0) 0 0 _
    rw [show (own_f1_30 v0) = (own_f1_44 v0) from if_pos hq]
    refine own_go (fun t => XS.icmpYes X.here hx rfl (pc0 := 34) (pc' := 44) rfl (hb hby own_d1_34) rfl (tlt hq).1 (by decide) (by decide)) ?_
    show own_Fin p e below s (own_QP (some (.int (own_f1_44 v0))) h0) 0 0 (T.setTop (mkF m 44 #[.val (.int v0)] []))
    exact own_b1_44 X C hh v0
  · show own_Fin p e below s (own_QP (some (.int (own_f1_30 v0))) h0) 0 0 _
    rw [show (own_f1_30 v0) = (own_f1_37 v0) from if_neg hq]
    refine own_go (fun t => XS.icmpNo X.here hx rfl (hb hby own_d1_34) rfl (flt hq).1) ?_
    show own_Fin p e below s (own_QP (some (.int (own_f1_37 v0))) h0) 0 0 (T.setTop (mkF m 37 #[.val (.int v0)] []))
    exact own_b1_37 X C hh v0
def own_f1_24 (v0 : Int32) : Int32 := if (122 : Int32) < v0 then (own_f1_30 v0) else (own_f1_191 v0)
set_option maxRecDepth 65536 in
theorem own_b1_24 {l : Launch} {p : Program} {e : Env} {below : List Frame} {s : State} {m : MethodId} {meth : Method} {c : Code} {Z : State} {a0 args : Array Value} {T : State} {h0 : Heap} (X : Stand p l e ({ frames := 0, cells := 0, slots := 0, locals := 0 } : Room) s m args below meth c T [] 0 0) (C : own_Ctx p s m meth c Z a0 tables_1 (⟨"com/example/dovetail/dovetail/xml/XmlNames", "mayStart", "(I)Z"⟩ : MethodName) prog_121_method_5_code 1 (some .boolean)) (hh : T.heap = h0) (v0 : Int32) :
    own_Fin p e below s (own_QP (some (.int (own_f1_24 v0))) h0) 0 0 (T.setTop (mkF m 24 #[.val (.int v0)] [])) := by
  obtain ⟨hx, hby, hml, hZ, hown, hnm, hret, hlk, hw⟩ := id C
  refine own_go (fun t => XS.iloadN X.here hx rfl (hb hby own_d1_24) rfl) ?_
  show own_Fin p e below s (own_QP (some (.int (own_f1_24 v0))) h0) 0 0 (T.setTop (mkF m 25 #[.val (.int v0)] [(.int v0)]))
  refine own_go (fun t => XS.bipush X.here hx rfl (hb hby own_d1_25)) ?_
  show own_Fin p e below s (own_QP (some (.int (own_f1_24 v0))) h0) 0 0 (T.setTop (mkF m 27 #[.val (.int v0)] [(.int (122 : Int32)), (.int v0)]))
  by_cases hq : (122 : Int32) < v0
  · show own_Fin p e below s (own_QP (some (.int (own_f1_24 v0))) h0) 0 0 _
    rw [show (own_f1_24 v0) = (own_f1_30 v0) from if_pos hq]
    refine own_go (fun t => XS.icmpNo X.here hx rfl (hb hby own_d1_27) rfl (tlt hq).2.2.2) ?_
    show own_Fin p e below s (own_QP (some (.int (own_f1_30 v0))) h0) 0 0 (T.setTop (mkF m 30 #[.val (.int v0)] []))
    exact own_b1_30 X C hh v0
  · show own_Fin p e below s (own_QP (some (.int (own_f1_24 v0))) h0) 0 0 _
    rw [show (own_f1_24 v0) = (own_f1_191 v0) from if_neg hq]
    refine own_go (fun t => XS.icmpYes X.here hx rfl (pc0 := 27) (pc' := 191) rfl (hb hby own_d1_27) rfl (flt hq).2.2.2 (by decide) (by decide)) ?_
    show own_Fin p e below s (own_QP (some (.int (own_f1_191 v0))) h0) 0 0 (T.setTop (mkF m 191 #[.val (.int v0)] []))
    exact own_b1_191 X C hh v0
def own_f1_18 (v0 : Int32) : Int32 := if v0 < (97 : Int32) then (own_f1_30 v0) else (own_f1_24 v0)
set_option maxRecDepth 65536 in
theorem own_b1_18 {l : Launch} {p : Program} {e : Env} {below : List Frame} {s : State} {m : MethodId} {meth : Method} {c : Code} {Z : State} {a0 args : Array Value} {T : State} {h0 : Heap} (X : Stand p l e ({ frames := 0, cells := 0, slots := 0, locals := 0 } : Room) s m args below meth c T [] 0 0) (C : own_Ctx p s m meth c Z a0 tables_1 (⟨"com/example/dovetail/dovetail/xml/XmlNames", "mayStart", "(I)Z"⟩ : MethodName) prog_121_method_5_code 1 (some .boolean)) (hh : T.heap = h0) (v0 : Int32) :
    own_Fin p e below s (own_QP (some (.int (own_f1_18 v0))) h0) 0 0 (T.setTop (mkF m 18 #[.val (.int v0)] [])) := by
  obtain ⟨hx, hby, hml, hZ, hown, hnm, hret, hlk, hw⟩ := id C
  refine own_go (fun t => XS.iloadN X.here hx rfl (hb hby own_d1_18) rfl) ?_
  show own_Fin p e below s (own_QP (some (.int (own_f1_18 v0))) h0) 0 0 (T.setTop (mkF m 19 #[.val (.int v0)] [(.int v0)]))
  refine own_go (fun t => XS.bipush X.here hx rfl (hb hby own_d1_19)) ?_
  show own_Fin p e below s (own_QP (some (.int (own_f1_18 v0))) h0) 0 0 (T.setTop (mkF m 21 #[.val (.int v0)] [(.int (97 : Int32)), (.int v0)]))
  by_cases hq : v0 < (97 : Int32)
  · show own_Fin p e below s (own_QP (some (.int (own_f1_18 v0))) h0) 0 0 _
    rw [show (own_f1_18 v0) = (own_f1_30 v0) from if_pos hq]
    refine own_go (fun t => XS.icmpYes X.here hx rfl (pc0 := 21) (pc' := 30) rfl (hb hby own_d1_21) rfl (tlt hq).1 (by decide) (by decide)) ?_
    show own_Fin p e below s (own_QP (some (.int (own_f1_30 v0))) h0) 0 0 (T.setTop (mkF m 30 #[.val (.int v0)] []))
    exact own_b1_30 X C hh v0
  · show own_Fin p e below s (own_QP (some (.int (own_f1_18 v0))) h0) 0 0 _
    rw [show (own_f1_18 v0) = (own_f1_24 v0) from if_neg hq]
    refine own_go (fun t => XS.icmpNo X.here hx rfl (hb hby own_d1_21) rfl (flt hq).1) ?_
    show own_Fin p e below s (own_QP (some (.int (own_f1_24 v0))) h0) 0 0 (T.setTop (mkF m 24 #[.val (.int v0)] []))
    exact own_b1_24 X C hh v0
def own_f1_12 (v0 : Int32) : Int32 := if v0 = (95 : Int32) then (own_f1_191 v0) else (own_f1_18 v0)
set_option maxRecDepth 65536 in
theorem own_b1_12 {l : Launch} {p : Program} {e : Env} {below : List Frame} {s : State} {m : MethodId} {meth : Method} {c : Code} {Z : State} {a0 args : Array Value} {T : State} {h0 : Heap} (X : Stand p l e ({ frames := 0, cells := 0, slots := 0, locals := 0 } : Room) s m args below meth c T [] 0 0) (C : own_Ctx p s m meth c Z a0 tables_1 (⟨"com/example/dovetail/dovetail/xml/XmlNames", "mayStart", "(I)Z"⟩ : MethodName) prog_121_method_5_code 1 (some .boolean)) (hh : T.heap = h0) (v0 : Int32) :
    own_Fin p e below s (own_QP (some (.int (own_f1_12 v0))) h0) 0 0 (T.setTop (mkF m 12 #[.val (.int v0)] [])) := by
  obtain ⟨hx, hby, hml, hZ, hown, hnm, hret, hlk, hw⟩ := id C
  refine own_go (fun t => XS.iloadN X.here hx rfl (hb hby own_d1_12) rfl) ?_
  show own_Fin p e below s (own_QP (some (.int (own_f1_12 v0))) h0) 0 0 (T.setTop (mkF m 13 #[.val (.int v0)] [(.int v0)]))
  refine own_go (fun t => XS.bipush X.here hx rfl (hb hby own_d1_13)) ?_
  show own_Fin p e below s (own_QP (some (.int (own_f1_12 v0))) h0) 0 0 (T.setTop (mkF m 15 #[.val (.int v0)] [(.int (95 : Int32)), (.int v0)]))
  by_cases hq : v0 = (95 : Int32)
  · show own_Fin p e below s (own_QP (some (.int (own_f1_12 v0))) h0) 0 0 _
    rw [show (own_f1_12 v0) = (own_f1_191 v0) from if_pos hq]
    refine own_go (fun t => XS.icmpYes X.here hx rfl (pc0 := 15) (pc' := 191) rfl (hb hby own_d1_15) rfl (teq hq).1 (by decide) (by decide)) ?_
    show own_Fin p e below s (own_QP (some (.int (own_f1_191 v0))) h0) 0 0 (T.setTop (mkF m 191 #[.val (.int v0)] []))
    exact own_b1_191 X C hh v0
  · show own_Fin p e below s (own_QP (some (.int (own_f1_12 v0))) h0) 0 0 _
    rw [show (own_f1_12 v0) = (own_f1_18 v0) from if_neg hq]
    refine own_go (fun t => XS.icmpNo X.here hx rfl (hb hby own_d1_15) rfl (feq hq).1) ?_
    show own_Fin p e below s (own_QP (some (.int (own_f1_18 v0))) h0) 0 0 (T.setTop (mkF m 18 #[.val (.int v0)] []))
    exact own_b1_18 X C hh v0
def own_f1_6 (v0 : Int32) : Int32 := if (90 : Int32) < v0 then (own_f1_12 v0) else (own_f1_191 v0)
set_option maxRecDepth 65536 in
theorem own_b1_6 {l : Launch} {p : Program} {e : Env} {below : List Frame} {s : State} {m : MethodId} {meth : Method} {c : Code} {Z : State} {a0 args : Array Value} {T : State} {h0 : Heap} (X : Stand p l e ({ frames := 0, cells := 0, slots := 0, locals := 0 } : Room) s m args below meth c T [] 0 0) (C : own_Ctx p s m meth c Z a0 tables_1 (⟨"com/example/dovetail/dovetail/xml/XmlNames", "mayStart", "(I)Z"⟩ : MethodName) prog_121_method_5_code 1 (some .boolean)) (hh : T.heap = h0) (v0 : Int32) :
    own_Fin p e below s (own_QP (some (.int (own_f1_6 v0))) h0) 0 0 (T.setTop (mkF m 6 #[.val (.int v0)] [])) := by
  obtain ⟨hx, hby, hml, hZ, hown, hnm, hret, hlk, hw⟩ := id C
  refine own_go (fun t => XS.iloadN X.here hx rfl (hb hby own_d1_6) rfl) ?_
  show own_Fin p e below s (own_QP (some (.int (own_f1_6 v0))) h0) 0 0 (T.setTop (mkF m 7 #[.val (.int v0)] [(.int v0)]))
  refine own_go (fun t => XS.bipush X.here hx rfl (hb hby own_d1_7)) ?_
  show own_Fin p e below s (own_QP (some (.int (own_f1_6 v0))) h0) 0 0 (T.setTop (mkF m 9 #[.val (.int v0)] [(.int (90 : Int32)), (.int v0)]))
  by_cases hq : (90 : Int32) < v0
  · show own_Fin p e below s (own_QP (some (.int (own_f1_6 v0))) h0) 0 0 _
    rw [show (own_f1_6 v0) = (own_f1_12 v0) from if_pos hq]
    refine own_go (fun t => XS.icmpNo X.here hx rfl (hb hby own_d1_9) rfl (tlt hq).2.2.2) ?_
    show own_Fin p e below s (own_QP (some (.int (own_f1_12 v0))) h0) 0 0 (T.setTop (mkF m 12 #[.val (.int v0)] []))
    exact own_b1_12 X C hh v0
  · show own_Fin p e below s (own_QP (some (.int (own_f1_6 v0))) h0) 0 0 _
    rw [show (own_f1_6 v0) = (own_f1_191 v0) from if_neg hq]
    refine own_go (fun t => XS.icmpYes X.here hx rfl (pc0 := 9) (pc' := 191) rfl (hb hby own_d1_9) rfl (flt hq).2.2.2 (by decide) (by decide)) ?_
    show own_Fin p e below s (own_QP (some (.int (own_f1_191 v0))) h0) 0 0 (T.setTop (mkF m 191 #[.val (.int v0)] []))
    exact own_b1_191 X C hh v0
def own_f1_0 (v0 : Int32) : Int32 := if v0 < (65 : Int32) then (own_f1_12 v0) else (own_f1_6 v0)
set_option maxRecDepth 65536 in
theorem own_b1_0 {l : Launch} {p : Program} {e : Env} {below : List Frame} {s : State} {m : MethodId} {meth : Method} {c : Code} {Z : State} {a0 args : Array Value} {T : State} {h0 : Heap} (X : Stand p l e ({ frames := 0, cells := 0, slots := 0, locals := 0 } : Room) s m args below meth c T [] 0 0) (C : own_Ctx p s m meth c Z a0 tables_1 (⟨"com/example/dovetail/dovetail/xml/XmlNames", "mayStart", "(I)Z"⟩ : MethodName) prog_121_method_5_code 1 (some .boolean)) (hh : T.heap = h0) (v0 : Int32) :
    own_Fin p e below s (own_QP (some (.int (own_f1_0 v0))) h0) 0 0 (T.setTop (mkF m 0 #[.val (.int v0)] [])) := by
  obtain ⟨hx, hby, hml, hZ, hown, hnm, hret, hlk, hw⟩ := id C
  refine own_go (fun t => XS.iloadN X.here hx rfl (hb hby own_d1_0) rfl) ?_
  show own_Fin p e below s (own_QP (some (.int (own_f1_0 v0))) h0) 0 0 (T.setTop (mkF m 1 #[.val (.int v0)] [(.int v0)]))
  refine own_go (fun t => XS.bipush X.here hx rfl (hb hby own_d1_1)) ?_
  show own_Fin p e below s (own_QP (some (.int (own_f1_0 v0))) h0) 0 0 (T.setTop (mkF m 3 #[.val (.int v0)] [(.int (65 : Int32)), (.int v0)]))
  by_cases hq : v0 < (65 : Int32)
  · show own_Fin p e below s (own_QP (some (.int (own_f1_0 v0))) h0) 0 0 _
    rw [show (own_f1_0 v0) = (own_f1_12 v0) from if_pos hq]
    refine own_go (fun t => XS.icmpYes X.here hx rfl (pc0 := 3) (pc' := 12) rfl (hb hby own_d1_3) rfl (tlt hq).1 (by decide) (by decide)) ?_
    show own_Fin p e below s (own_QP (some (.int (own_f1_12 v0))) h0) 0 0 (T.setTop (mkF m 12 #[.val (.int v0)] []))
    exact own_b1_12 X C hh v0
  · show own_Fin p e below s (own_QP (some (.int (own_f1_0 v0))) h0) 0 0 _
    rw [show (own_f1_0 v0) = (own_f1_6 v0) from if_neg hq]
    refine own_go (fun t => XS.icmpNo X.here hx rfl (hb hby own_d1_3) rfl (flt hq).1) ?_
    show own_Fin p e below s (own_QP (some (.int (own_f1_6 v0))) h0) 0 0 (T.setTop (mkF m 6 #[.val (.int v0)] []))
    exact own_b1_6 X C hh v0
theorem own_pn0 : plainName "com/example/dovetail/dovetail/xml/XmlNames" = true := by first | (simp [plainName, overriddenIn]; done) | decide +kernel
theorem own_c1 (l : Launch) (Z : State) (a0 : Array Value) (hw : ∀ d ∈ tables_1, d.before a0 Z = true) (x0 : Int32) (h0 : Heap) : own_Met l Z (⟨"com/example/dovetail/dovetail/xml/XmlNames", "mayStart", "(I)Z"⟩ : MethodName) prog_121_method_5_code 1 (some .boolean) [] ({ frames := 0, cells := 0, slots := 0, locals := 0 } : Room) #[(.int x0)] h0 (own_QP (some (.int (own_f1_0 x0))) h0) :=
  own_enter (plainFor_of_name own_pn0) (own_ef1 x0) hw (fun p e s m below meth c T X C hh => own_b1_0 X C hh x0)
theorem own_d2_0 : decode method_3_code 0 = .ok (.iload_n 0, 1) := by decide +kernel
theorem own_d2_1 : decode method_3_code 1 = .ok (.bipush 65, 2) := by decide +kernel
theorem own_d2_3 : decode method_3_code 3 = .ok (.if_icmp .lt 9, 3) := by decide +kernel
theorem own_d2_6 : decode method_3_code 6 = .ok (.iload_n 0, 1) := by decide +kernel
theorem own_d2_7 : decode method_3_code 7 = .ok (.ldc 29, 2) := by decide +kernel
theorem own_d2_9 : decode method_3_code 9 = .ok (.if_icmp .le 5, 3) := by decide +kernel
theorem own_d2_12 : decode method_3_code 12 = .ok (.iconst 0, 1) := by decide +kernel
theorem own_d2_13 : decode method_3_code 13 = .ok (.ireturn, 1) := by decide +kernel
theorem own_d2_14 : decode method_3_code 14 = .ok (.iload_n 0, 1) := by decide +kernel
theorem own_d2_15 : decode method_3_code 15 = .ok (.bipush 90, 2) := by decide +kernel
theorem own_d2_17 : decode method_3_code 17 = .ok (.if_icmp .le 21, 3) := by decide +kernel
theorem own_d2_20 : decode method_3_code 20 = .ok (.iload_n 0, 1) := by decide +kernel
theorem own_d2_21 : decode method_3_code 21 = .ok (.bipush 97, 2) := by decide +kernel
theorem own_d2_23 : decode method_3_code 23 = .ok (.if_icmp .ge 15, 3) := by decide +kernel
theorem own_d2_26 : decode method_3_code 26 = .ok (.iload_n 0, 1) := by decide +kernel
theorem own_d2_27 : decode method_3_code 27 = .ok (.bipush 95, 2) := by decide +kernel
theorem own_d2_29 : decode method_3_code 29 = .ok (.if_icmp .ne 7, 3) := by decide +kernel
theorem own_d2_32 : decode method_3_code 32 = .ok (.iconst 1, 1) := by decide +kernel
theorem own_d2_33 : decode method_3_code 33 = .ok (.goto 4, 3) := by decide +kernel
theorem own_d2_36 : decode method_3_code 36 = .ok (.iconst 0, 1) := by decide +kernel
theorem own_d2_37 : decode method_3_code 37 = .ok (.ireturn, 1) := by decide +kernel
theorem own_d2_38 : decode method_3_code 38 = .ok (.iload_n 0, 1) := by decide +kernel
theorem own_d2_39 : decode method_3_code 39 = .ok (.bipush 122, 2) := by decide +kernel
theorem own_d2_41 : decode method_3_code 41 = .ok (.if_icmp .le 12, 3) := by decide +kernel
theorem own_d2_44 : decode method_3_code 44 = .ok (.iload_n 0, 1) := by decide +kernel
theorem own_d2_45 : decode method_3_code 45 = .ok (.sipush 192, 3) := by decide +kernel
theorem own_d2_48 : decode method_3_code 48 = .ok (.if_icmp .ge 5, 3) := by decide +kernel
theorem own_d2_51 : decode method_3_code 51 = .ok (.iconst 0, 1) := by decide +kernel
theorem own_d2_52 : decode method_3_code 52 = .ok (.ireturn, 1) := by decide +kernel
theorem own_d2_53 : decode method_3_code 53 = .ok (.iload_n 0, 1) := by decide +kernel
theorem own_d2_54 : decode method_3_code 54 = .ok (.sipush 215, 3) := by decide +kernel
theorem own_d2_57 : decode method_3_code 57 = .ok (.if_icmp .eq 10, 3) := by decide +kernel
theorem own_d2_60 : decode method_3_code 60 = .ok (.iload_n 0, 1) := by decide +kernel
theorem own_d2_61 : decode method_3_code 61 = .ok (.sipush 247, 3) := by decide +kernel
theorem own_d2_64 : decode method_3_code 64 = .ok (.if_icmp .ne 5, 3) := by decide +kernel
theorem own_d2_67 : decode method_3_code 67 = .ok (.iconst 0, 1) := by decide +kernel
theorem own_d2_68 : decode method_3_code 68 = .ok (.ireturn, 1) := by decide +kernel
theorem own_d2_69 : decode method_3_code 69 = .ok (.iload_n 0, 1) := by decide +kernel
theorem own_d2_70 : decode method_3_code 70 = .ok (.sipush 768, 3) := by decide +kernel
theorem own_d2_73 : decode method_3_code 73 = .ok (.if_icmp .lt 12, 3) := by decide +kernel
theorem own_d2_76 : decode method_3_code 76 = .ok (.iload_n 0, 1) := by decide +kernel
theorem own_d2_77 : decode method_3_code 77 = .ok (.sipush 879, 3) := by decide +kernel
theorem own_d2_80 : decode method_3_code 80 = .ok (.if_icmp .gt 5, 3) := by decide +kernel
theorem own_d2_83 : decode method_3_code 83 = .ok (.iconst 0, 1) := by decide +kernel
theorem own_d2_84 : decode method_3_code 84 = .ok (.ireturn, 1) := by decide +kernel
theorem own_d2_85 : decode method_3_code 85 = .ok (.iload_n 0, 1) := by decide +kernel
theorem own_d2_86 : decode method_3_code 86 = .ok (.sipush 894, 3) := by decide +kernel
theorem own_d2_89 : decode method_3_code 89 = .ok (.if_icmp .ne 5, 3) := by decide +kernel
theorem own_d2_92 : decode method_3_code 92 = .ok (.iconst 0, 1) := by decide +kernel
theorem own_d2_93 : decode method_3_code 93 = .ok (.ireturn, 1) := by decide +kernel
theorem own_d2_94 : decode method_3_code 94 = .ok (.iload_n 0, 1) := by decide +kernel
theorem own_d2_95 : decode method_3_code 95 = .ok (.sipush 8192, 3) := by decide +kernel
theorem own_d2_98 : decode method_3_code 98 = .ok (.if_icmp .lt 12, 3) := by decide +kernel
theorem own_d2_101 : decode method_3_code 101 = .ok (.iload_n 0, 1) := by decide +kernel
theorem own_d2_102 : decode method_3_code 102 = .ok (.sipush 8203, 3) := by decide +kernel
theorem own_d2_105 : decode method_3_code 105 = .ok (.if_icmp .gt 5, 3) := by decide +kernel
theorem own_d2_108 : decode method_3_code 108 = .ok (.iconst 0, 1) := by decide +kernel
theorem own_d2_109 : decode method_3_code 109 = .ok (.ireturn, 1) := by decide +kernel
theorem own_d2_110 : decode method_3_code 110 = .ok (.iload_n 0, 1) := by decide +kernel
theorem own_d2_111 : decode method_3_code 111 = .ok (.sipush 8206, 3) := by decide +kernel
theorem own_d2_114 : decode method_3_code 114 = .ok (.if_icmp .lt 12, 3) := by decide +kernel
theorem own_d2_117 : decode method_3_code 117 = .ok (.iload_n 0, 1) := by decide +kernel
theorem own_d2_118 : decode method_3_code 118 = .ok (.sipush 8303, 3) := by decide +kernel
theorem own_d2_121 : decode method_3_code 121 = .ok (.if_icmp .gt 5, 3) := by decide +kernel
theorem own_d2_124 : decode method_3_code 124 = .ok (.iconst 0, 1) := by decide +kernel
theorem own_d2_125 : decode method_3_code 125 = .ok (.ireturn, 1) := by decide +kernel
theorem own_d2_126 : decode method_3_code 126 = .ok (.iload_n 0, 1) := by decide +kernel
theorem own_d2_127 : decode method_3_code 127 = .ok (.sipush 8592, 3) := by decide +kernel
theorem own_d2_130 : decode method_3_code 130 = .ok (.if_icmp .lt 12, 3) := by decide +kernel
theorem own_d2_133 : decode method_3_code 133 = .ok (.iload_n 0, 1) := by decide +kernel
theorem own_d2_134 : decode method_3_code 134 = .ok (.sipush 11263, 3) := by decide +kernel
theorem own_d2_137 : decode method_3_code 137 = .ok (.if_icmp .gt 5, 3) := by decide +kernel
theorem own_d2_140 : decode method_3_code 140 = .ok (.iconst 0, 1) := by decide +kernel
theorem own_d2_141 : decode method_3_code 141 = .ok (.ireturn, 1) := by decide +kernel
theorem own_d2_142 : decode method_3_code 142 = .ok (.iload_n 0, 1) := by decide +kernel
theorem own_d2_143 : decode method_3_code 143 = .ok (.sipush 12272, 3) := by decide +kernel
theorem own_d2_146 : decode method_3_code 146 = .ok (.if_icmp .lt 12, 3) := by decide +kernel
theorem own_d2_149 : decode method_3_code 149 = .ok (.iload_n 0, 1) := by decide +kernel
theorem own_d2_150 : decode method_3_code 150 = .ok (.sipush 12288, 3) := by decide +kernel
theorem own_d2_153 : decode method_3_code 153 = .ok (.if_icmp .gt 5, 3) := by decide +kernel
theorem own_d2_156 : decode method_3_code 156 = .ok (.iconst 0, 1) := by decide +kernel
theorem own_d2_157 : decode method_3_code 157 = .ok (.ireturn, 1) := by decide +kernel
theorem own_d2_158 : decode method_3_code 158 = .ok (.iload_n 0, 1) := by decide +kernel
theorem own_d2_159 : decode method_3_code 159 = .ok (.ldc 7, 2) := by decide +kernel
theorem own_d2_161 : decode method_3_code 161 = .ok (.if_icmp .lt 11, 3) := by decide +kernel
theorem own_d2_164 : decode method_3_code 164 = .ok (.iload_n 0, 1) := by decide +kernel
theorem own_d2_165 : decode method_3_code 165 = .ok (.ldc 30, 2) := by decide +kernel
theorem own_d2_167 : decode method_3_code 167 = .ok (.if_icmp .gt 5, 3) := by decide +kernel
theorem own_d2_170 : decode method_3_code 170 = .ok (.iconst 0, 1) := by decide +kernel
theorem own_d2_171 : decode method_3_code 171 = .ok (.ireturn, 1) := by decide +kernel
theorem own_d2_172 : decode method_3_code 172 = .ok (.iload_n 0, 1) := by decide +kernel
theorem own_d2_173 : decode method_3_code 173 = .ok (.ldc 9, 2) := by decide +kernel
theorem own_d2_175 : decode method_3_code 175 = .ok (.if_icmp .lt 11, 3) := by decide +kernel
theorem own_d2_178 : decode method_3_code 178 = .ok (.iload_n 0, 1) := by decide +kernel
theorem own_d2_179 : decode method_3_code 179 = .ok (.ldc 31, 2) := by decide +kernel
theorem own_d2_181 : decode method_3_code 181 = .ok (.if_icmp .gt 5, 3) := by decide +kernel
theorem own_d2_184 : decode method_3_code 184 = .ok (.iconst 0, 1) := by decide +kernel
theorem own_d2_185 : decode method_3_code 185 = .ok (.ireturn, 1) := by decide +kernel
theorem own_d2_186 : decode method_3_code 186 = .ok (.iload_n 0, 1) := by decide +kernel
theorem own_d2_187 : decode method_3_code 187 = .ok (.ldc 11, 2) := by decide +kernel
theorem own_d2_189 : decode method_3_code 189 = .ok (.if_icmp .eq 9, 3) := by decide +kernel
theorem own_d2_192 : decode method_3_code 192 = .ok (.iload_n 0, 1) := by decide +kernel
theorem own_d2_193 : decode method_3_code 193 = .ok (.ldc 32, 2) := by decide +kernel
theorem own_d2_195 : decode method_3_code 195 = .ok (.if_icmp .ne 5, 3) := by decide +kernel
theorem own_d2_198 : decode method_3_code 198 = .ok (.iconst 0, 1) := by decide +kernel
theorem own_d2_199 : decode method_3_code 199 = .ok (.ireturn, 1) := by decide +kernel
theorem own_d2_200 : decode method_3_code 200 = .ok (.iconst 1, 1) := by decide +kernel
theorem own_d2_201 : decode method_3_code 201 = .ok (.ireturn, 1) := by decide +kernel
theorem own_ef2 (x0 : Int32) : ∀ m, entryFrame m #[(.int x0)] 1 = mkF m 0 #[.val (.int x0)] [] := fun m => by first | (simp [entryFrame, mkF, argsToLocals, Value.category]; done) | rfl
def own_f2_12 (v0 : Int32) : Int32 := (0 : Int32)
set_option maxRecDepth 65536 in
theorem own_b2_12 {l : Launch} {p : Program} {e : Env} {below : List Frame} {s : State} {m : MethodId} {meth : Method} {c : Code} {Z : State} {a0 args : Array Value} {T : State} {h0 : Heap} (X : Stand p l e ({ frames := 0, cells := 0, slots := 0, locals := 0 } : Room) s m args below meth c T [] 0 0) (C : own_Ctx p s m meth c Z a0 tables_1 (⟨"com/example/dovetail/dovetail/xml/XmlNamesMayStartPinLaw", "expected", "(I)Z"⟩ : MethodName) method_3_code 1 (some .boolean)) (hh : T.heap = h0) (v0 : Int32) :
    own_Fin p e below s (own_QP (some (.int (own_f2_12 v0))) h0) 0 0 (T.setTop (mkF m 12 #[.val (.int v0)] [])) := by
  obtain ⟨hx, hby, hml, hZ, hown, hnm, hret, hlk, hw⟩ := id C
  refine own_go (fun t => XS.iconst X.here hx rfl (hb hby own_d2_12)) ?_
  show own_Fin p e below s (own_QP (some (.int (own_f2_12 v0))) h0) 0 0 (T.setTop (mkF m 13 #[.val (.int v0)] [(.int (0 : Int32))]))
  exact own_ret X hlk hx (t := .boolean) hret rfl (Or.inl ⟨rfl, by simp, _, rfl⟩) (hb hby own_d2_13) ⟨rfl, rfl, hh⟩ (by decide) (by decide)
def own_f2_67 (v0 : Int32) : Int32 := (0 : Int32)
set_option maxRecDepth 65536 in
theorem own_b2_67 {l : Launch} {p : Program} {e : Env} {below : List Frame} {s : State} {m : MethodId} {meth : Method} {c : Code} {Z : State} {a0 args : Array Value} {T : State} {h0 : Heap} (X : Stand p l e ({ frames := 0, cells := 0, slots := 0, locals := 0 } : Room) s m args below meth c T [] 0 0) (C : own_Ctx p s m meth c Z a0 tables_1 (⟨"com/example/dovetail/dovetail/xml/XmlNamesMayStartPinLaw", "expected", "(I)Z"⟩ : MethodName) method_3_code 1 (some .boolean)) (hh : T.heap = h0) (v0 : Int32) :
    own_Fin p e below s (own_QP (some (.int (own_f2_67 v0))) h0) 0 0 (T.setTop (mkF m 67 #[.val (.int v0)] [])) := by
  obtain ⟨hx, hby, hml, hZ, hown, hnm, hret, hlk, hw⟩ := id C
  refine own_go (fun t => XS.iconst X.here hx rfl (hb hby own_d2_67)) ?_
  show own_Fin p e below s (own_QP (some (.int (own_f2_67 v0))) h0) 0 0 (T.setTop (mkF m 68 #[.val (.int v0)] [(.int (0 : Int32))]))
  exact own_ret X hlk hx (t := .boolean) hret rfl (Or.inl ⟨rfl, by simp, _, rfl⟩) (hb hby own_d2_68) ⟨rfl, rfl, hh⟩ (by decide) (by decide)
def own_f2_198 (v0 : Int32) : Int32 := (0 : Int32)
set_option maxRecDepth 65536 in
theorem own_b2_198 {l : Launch} {p : Program} {e : Env} {below : List Frame} {s : State} {m : MethodId} {meth : Method} {c : Code} {Z : State} {a0 args : Array Value} {T : State} {h0 : Heap} (X : Stand p l e ({ frames := 0, cells := 0, slots := 0, locals := 0 } : Room) s m args below meth c T [] 0 0) (C : own_Ctx p s m meth c Z a0 tables_1 (⟨"com/example/dovetail/dovetail/xml/XmlNamesMayStartPinLaw", "expected", "(I)Z"⟩ : MethodName) method_3_code 1 (some .boolean)) (hh : T.heap = h0) (v0 : Int32) :
    own_Fin p e below s (own_QP (some (.int (own_f2_198 v0))) h0) 0 0 (T.setTop (mkF m 198 #[.val (.int v0)] [])) := by
  obtain ⟨hx, hby, hml, hZ, hown, hnm, hret, hlk, hw⟩ := id C
  refine own_go (fun t => XS.iconst X.here hx rfl (hb hby own_d2_198)) ?_
  show own_Fin p e below s (own_QP (some (.int (own_f2_198 v0))) h0) 0 0 (T.setTop (mkF m 199 #[.val (.int v0)] [(.int (0 : Int32))]))
  exact own_ret X hlk hx (t := .boolean) hret rfl (Or.inl ⟨rfl, by simp, _, rfl⟩) (hb hby own_d2_199) ⟨rfl, rfl, hh⟩ (by decide) (by decide)
def own_f2_200 (v0 : Int32) : Int32 := (1 : Int32)
set_option maxRecDepth 65536 in
theorem own_b2_200 {l : Launch} {p : Program} {e : Env} {below : List Frame} {s : State} {m : MethodId} {meth : Method} {c : Code} {Z : State} {a0 args : Array Value} {T : State} {h0 : Heap} (X : Stand p l e ({ frames := 0, cells := 0, slots := 0, locals := 0 } : Room) s m args below meth c T [] 0 0) (C : own_Ctx p s m meth c Z a0 tables_1 (⟨"com/example/dovetail/dovetail/xml/XmlNamesMayStartPinLaw", "expected", "(I)Z"⟩ : MethodName) method_3_code 1 (some .boolean)) (hh : T.heap = h0) (v0 : Int32) :
    own_Fin p e below s (own_QP (some (.int (own_f2_200 v0))) h0) 0 0 (T.setTop (mkF m 200 #[.val (.int v0)] [])) := by
  obtain ⟨hx, hby, hml, hZ, hown, hnm, hret, hlk, hw⟩ := id C
  refine own_go (fun t => XS.iconst X.here hx rfl (hb hby own_d2_200)) ?_
  show own_Fin p e below s (own_QP (some (.int (own_f2_200 v0))) h0) 0 0 (T.setTop (mkF m 201 #[.val (.int v0)] [(.int (1 : Int32))]))
  exact own_ret X hlk hx (t := .boolean) hret rfl (Or.inl ⟨rfl, by simp, _, rfl⟩) (hb hby own_d2_201) ⟨rfl, rfl, hh⟩ (by decide) (by decide)
def own_f2_192 (v0 : Int32) : Int32 := if v0 = (65535 : Int32) then (own_f2_198 v0) else (own_f2_200 v0)
set_option maxRecDepth 65536 in
theorem own_b2_192 {l : Launch} {p : Program} {e : Env} {below : List Frame} {s : State} {m : MethodId} {meth : Method} {c : Code} {Z : State} {a0 args : Array Value} {T : State} {h0 : Heap} (X : Stand p l e ({ frames := 0, cells := 0, slots := 0, locals := 0 } : Room) s m args below meth c T [] 0 0) (C : own_Ctx p s m meth c Z a0 tables_1 (⟨"com/example/dovetail/dovetail/xml/XmlNamesMayStartPinLaw", "expected", "(I)Z"⟩ : MethodName) method_3_code 1 (some .boolean)) (hh : T.heap = h0) (v0 : Int32) :
    own_Fin p e below s (own_QP (some (.int (own_f2_192 v0))) h0) 0 0 (T.setTop (mkF m 192 #[.val (.int v0)] [])) := by
  obtain ⟨hx, hby, hml, hZ, hown, hnm, hret, hlk, hw⟩ := id C
  refine own_go (fun t => XS.iloadN X.here hx rfl (hb hby own_d2_192) rfl) ?_
  show own_Fin p e below s (own_QP (some (.int (own_f2_192 v0))) h0) 0 0 (T.setTop (mkF m 193 #[.val (.int v0)] [(.int v0)]))
  refine own_go (fun t => X.ldcInt hx hown (mvT hZ (hw _ (List.mem_of_getElem? (i := 22) rfl))) (g := (mkF m 193 #[.val (.int v0)] [(.int v0)])) rfl (hb hby own_d2_193) t) ?_
  show own_Fin p e below s (own_QP (some (.int (own_f2_192 v0))) h0) 0 0 (T.setTop (mkF m 195 #[.val (.int v0)] [(.int (65535 : Int32)), (.int v0)]))
  by_cases hq : v0 = (65535 : Int32)
  · show own_Fin p e below s (own_QP (some (.int (own_f2_192 v0))) h0) 0 0 _
    rw [show (own_f2_192 v0) = (own_f2_198 v0) from if_pos hq]
    refine own_go (fun t => XS.icmpNo X.here hx rfl (hb hby own_d2_195) rfl (teq hq).2) ?_
    show own_Fin p e below s (own_QP (some (.int (own_f2_198 v0))) h0) 0 0 (T.setTop (mkF m 198 #[.val (.int v0)] []))
    exact own_b2_198 X C hh v0
  · show own_Fin p e below s (own_QP (some (.int (own_f2_192 v0))) h0) 0 0 _
    rw [show (own_f2_192 v0) = (own_f2_200 v0) from if_neg hq]
    refine own_go (fun t => XS.icmpYes X.here hx rfl (pc0 := 195) (pc' := 200) rfl (hb hby own_d2_195) rfl (feq hq).2 (by decide) (by decide)) ?_
    show own_Fin p e below s (own_QP (some (.int (own_f2_200 v0))) h0) 0 0 (T.setTop (mkF m 200 #[.val (.int v0)] []))
    exact own_b2_200 X C hh v0
def own_f2_186 (v0 : Int32) : Int32 := if v0 = (65534 : Int32) then (own_f2_198 v0) else (own_f2_192 v0)
set_option maxRecDepth 65536 in
theorem own_b2_186 {l : Launch} {p : Program} {e : Env} {below : List Frame} {s : State} {m : MethodId} {meth : Method} {c : Code} {Z : State} {a0 args : Array Value} {T : State} {h0 : Heap} (X : Stand p l e ({ frames := 0, cells := 0, slots := 0, locals := 0 } : Room) s m args below meth c T [] 0 0) (C : own_Ctx p s m meth c Z a0 tables_1 (⟨"com/example/dovetail/dovetail/xml/XmlNamesMayStartPinLaw", "expected", "(I)Z"⟩ : MethodName) method_3_code 1 (some .boolean)) (hh : T.heap = h0) (v0 : Int32) :
    own_Fin p e below s (own_QP (some (.int (own_f2_186 v0))) h0) 0 0 (T.setTop (mkF m 186 #[.val (.int v0)] [])) := by
  obtain ⟨hx, hby, hml, hZ, hown, hnm, hret, hlk, hw⟩ := id C
  refine own_go (fun t => XS.iloadN X.here hx rfl (hb hby own_d2_186) rfl) ?_
  show own_Fin p e below s (own_QP (some (.int (own_f2_186 v0))) h0) 0 0 (T.setTop (mkF m 187 #[.val (.int v0)] [(.int v0)]))
  refine own_go (fun t => X.ldcInt hx hown (mvT hZ (hw _ (List.mem_of_getElem? (i := 5) rfl))) (g := (mkF m 187 #[.val (.int v0)] [(.int v0)])) rfl (hb hby own_d2_187) t) ?_
  show own_Fin p e below s (own_QP (some (.int (own_f2_186 v0))) h0) 0 0 (T.setTop (mkF m 189 #[.val (.int v0)] [(.int (65534 : Int32)), (.int v0)]))
  by_cases hq : v0 = (65534 : Int32)
  · show own_Fin p e below s (own_QP (some (.int (own_f2_186 v0))) h0) 0 0 _
    rw [show (own_f2_186 v0) = (own_f2_198 v0) from if_pos hq]
    refine own_go (fun t => XS.icmpYes X.here hx rfl (pc0 := 189) (pc' := 198) rfl (hb hby own_d2_189) rfl (teq hq).1 (by decide) (by decide)) ?_
    show own_Fin p e below s (own_QP (some (.int (own_f2_198 v0))) h0) 0 0 (T.setTop (mkF m 198 #[.val (.int v0)] []))
    exact own_b2_198 X C hh v0
  · show own_Fin p e below s (own_QP (some (.int (own_f2_186 v0))) h0) 0 0 _
    rw [show (own_f2_186 v0) = (own_f2_192 v0) from if_neg hq]
    refine own_go (fun t => XS.icmpNo X.here hx rfl (hb hby own_d2_189) rfl (feq hq).1) ?_
    show own_Fin p e below s (own_QP (some (.int (own_f2_192 v0))) h0) 0 0 (T.setTop (mkF m 192 #[.val (.int v0)] []))
    exact own_b2_192 X C hh v0
def own_f2_184 (v0 : Int32) : Int32 := (0 : Int32)
set_option maxRecDepth 65536 in
theorem own_b2_184 {l : Launch} {p : Program} {e : Env} {below : List Frame} {s : State} {m : MethodId} {meth : Method} {c : Code} {Z : State} {a0 args : Array Value} {T : State} {h0 : Heap} (X : Stand p l e ({ frames := 0, cells := 0, slots := 0, locals := 0 } : Room) s m args below meth c T [] 0 0) (C : own_Ctx p s m meth c Z a0 tables_1 (⟨"com/example/dovetail/dovetail/xml/XmlNamesMayStartPinLaw", "expected", "(I)Z"⟩ : MethodName) method_3_code 1 (some .boolean)) (hh : T.heap = h0) (v0 : Int32) :
    own_Fin p e below s (own_QP (some (.int (own_f2_184 v0))) h0) 0 0 (T.setTop (mkF m 184 #[.val (.int v0)] [])) := by
  obtain ⟨hx, hby, hml, hZ, hown, hnm, hret, hlk, hw⟩ := id C
  refine own_go (fun t => XS.iconst X.here hx rfl (hb hby own_d2_184)) ?_
  show own_Fin p e below s (own_QP (some (.int (own_f2_184 v0))) h0) 0 0 (T.setTop (mkF m 185 #[.val (.int v0)] [(.int (0 : Int32))]))
  exact own_ret X hlk hx (t := .boolean) hret rfl (Or.inl ⟨rfl, by simp, _, rfl⟩) (hb hby own_d2_185) ⟨rfl, rfl, hh⟩ (by decide) (by decide)
def own_f2_178 (v0 : Int32) : Int32 := if (65007 : Int32) < v0 then (own_f2_186 v0) else (own_f2_184 v0)
set_option maxRecDepth 65536 in
theorem own_b2_178 {l : Launch} {p : Program} {e : Env} {below : List Frame} {s : State} {m : MethodId} {meth : Method} {c : Code} {Z : State} {a0 args : Array Value} {T : State} {h0 : Heap} (X : Stand p l e ({ frames := 0, cells := 0, slots := 0, locals := 0 } : Room) s m args below meth c T [] 0 0) (C : own_Ctx p s m meth c Z a0 tables_1 (⟨"com/example/dovetail/dovetail/xml/XmlNamesMayStartPinLaw", "expected", "(I)Z"⟩ : MethodName) method_3_code 1 (some .boolean)) (hh : T.heap = h0) (v0 : Int32) :
    own_Fin p e below s (own_QP (some (.int (own_f2_178 v0))) h0) 0 0 (T.setTop (mkF m 178 #[.val (.int v0)] [])) := by
  obtain ⟨hx, hby, hml, hZ, hown, hnm, hret, hlk, hw⟩ := id C
  refine own_go (fun t => XS.iloadN X.here hx rfl (hb hby own_d2_178) rfl) ?_
  show own_Fin p e below s (own_QP (some (.int (own_f2_178 v0))) h0) 0 0 (T.setTop (mkF m 179 #[.val (.int v0)] [(.int v0)]))
  refine own_go (fun t => X.ldcInt hx hown (mvT hZ (hw _ (List.mem_of_getElem? (i := 28) rfl))) (g := (mkF m 179 #[.val (.int v0)] [(.int v0)])) rfl (hb hby own_d2_179) t) ?_
  show own_Fin p e below s (own_QP (some (.int (own_f2_178 v0))) h0) 0 0 (T.setTop (mkF m 181 #[.val (.int v0)] [(.int (65007 : Int32)), (.int v0)]))
  by_cases hq : (65007 : Int32) < v0
  · show own_Fin p e below s (own_QP (some (.int (own_f2_178 v0))) h0) 0 0 _
    rw [show (own_f2_178 v0) = (own_f2_186 v0) from if_pos hq]
    refine own_go (fun t => XS.icmpYes X.here hx rfl (pc0 := 181) (pc' := 186) rfl (hb hby own_d2_181) rfl (tlt hq).2.2.1 (by decide) (by decide)) ?_
    show own_Fin p e below s (own_QP (some (.int (own_f2_186 v0))) h0) 0 0 (T.setTop (mkF m 186 #[.val (.int v0)] []))
    exact own_b2_186 X C hh v0
  · show own_Fin p e below s (own_QP (some (.int (own_f2_178 v0))) h0) 0 0 _
    rw [show (own_f2_178 v0) = (own_f2_184 v0) from if_neg hq]
    refine own_go (fun t => XS.icmpNo X.here hx rfl (hb hby own_d2_181) rfl (flt hq).2.2.1) ?_
    show own_Fin p e below s (own_QP (some (.int (own_f2_184 v0))) h0) 0 0 (T.setTop (mkF m 184 #[.val (.int v0)] []))
    exact own_b2_184 X C hh v0
def own_f2_172 (v0 : Int32) : Int32 := if v0 < (64976 : Int32) then (own_f2_186 v0) else (own_f2_178 v0)
set_option maxRecDepth 65536 in
theorem own_b2_172 {l : Launch} {p : Program} {e : Env} {below : List Frame} {s : State} {m : MethodId} {meth : Method} {c : Code} {Z : State} {a0 args : Array Value} {T : State} {h0 : Heap} (X : Stand p l e ({ frames := 0, cells := 0, slots := 0, locals := 0 } : Room) s m args below meth c T [] 0 0) (C : own_Ctx p s m meth c Z a0 tables_1 (⟨"com/example/dovetail/dovetail/xml/XmlNamesMayStartPinLaw", "expected", "(I)Z"⟩ : MethodName) method_3_code 1 (some .boolean)) (hh : T.heap = h0) (v0 : Int32) :
    own_Fin p e below s (own_QP (some (.int (own_f2_172 v0))) h0) 0 0 (T.setTop (mkF m 172 #[.val (.int v0)] [])) := by
  obtain ⟨hx, hby, hml, hZ, hown, hnm, hret, hlk, hw⟩ := id C
  refine own_go (fun t => XS.iloadN X.here hx rfl (hb hby own_d2_172) rfl) ?_
  show own_Fin p e below s (own_QP (some (.int (own_f2_172 v0))) h0) 0 0 (T.setTop (mkF m 173 #[.val (.int v0)] [(.int v0)]))
  refine own_go (fun t => X.ldcInt hx hown (mvT hZ (hw _ (List.mem_of_getElem? (i := 3) rfl))) (g := (mkF m 173 #[.val (.int v0)] [(.int v0)])) rfl (hb hby own_d2_173) t) ?_
  show own_Fin p e below s (own_QP (some (.int (own_f2_172 v0))) h0) 0 0 (T.setTop (mkF m 175 #[.val (.int v0)] [(.int (64976 : Int32)), (.int v0)]))
  by_cases hq : v0 < (64976 : Int32)
  · show own_Fin p e below s (own_QP (some (.int (own_f2_172 v0))) h0) 0 0 _
    rw [show (own_f2_172 v0) = (own_f2_186 v0) from if_pos hq]
    refine own_go (fun t => XS.icmpYes X.here hx rfl (pc0 := 175) (pc' := 186) rfl (hb hby own_d2_175) rfl (tlt hq).1 (by decide) (by decide)) ?_
    show own_Fin p e below s (own_QP (some (.int (own_f2_186 v0))) h0) 0 0 (T.setTop (mkF m 186 #[.val (.int v0)] []))
    exact own_b2_186 X C hh v0
  · show own_Fin p e below s (own_QP (some (.int (own_f2_172 v0))) h0) 0 0 _
    rw [show (own_f2_172 v0) = (own_f2_178 v0) from if_neg hq]
    refine own_go (fun t => XS.icmpNo X.here hx rfl (hb hby own_d2_175) rfl (flt hq).1) ?_
    show own_Fin p e below s (own_QP (some (.int (own_f2_178 v0))) h0) 0 0 (T.setTop (mkF m 178 #[.val (.int v0)] []))
    exact own_b2_178 X C hh v0
def own_f2_170 (v0 : Int32) : Int32 := (0 : Int32)
set_option maxRecDepth 65536 in
theorem own_b2_170 {l : Launch} {p : Program} {e : Env} {below : List Frame} {s : State} {m : MethodId} {meth : Method} {c : Code} {Z : State} {a0 args : Array Value} {T : State} {h0 : Heap} (X : Stand p l e ({ frames := 0, cells := 0, slots := 0, locals := 0 } : Room) s m args below meth c T [] 0 0) (C : own_Ctx p s m meth c Z a0 tables_1 (⟨"com/example/dovetail/dovetail/xml/XmlNamesMayStartPinLaw", "expected", "(I)Z"⟩ : MethodName) method_3_code 1 (some .boolean)) (hh : T.heap = h0) (v0 : Int32) :
    own_Fin p e below s (own_QP (some (.int (own_f2_170 v0))) h0) 0 0 (T.setTop (mkF m 170 #[.val (.int v0)] [])) := by
  obtain ⟨hx, hby, hml, hZ, hown, hnm, hret, hlk, hw⟩ := id C
  refine own_go (fun t => XS.iconst X.here hx rfl (hb hby own_d2_170)) ?_
  show own_Fin p e below s (own_QP (some (.int (own_f2_170 v0))) h0) 0 0 (T.setTop (mkF m 171 #[.val (.int v0)] [(.int (0 : Int32))]))
  exact own_ret X hlk hx (t := .boolean) hret rfl (Or.inl ⟨rfl, by simp, _, rfl⟩) (hb hby own_d2_171) ⟨rfl, rfl, hh⟩ (by decide) (by decide)
def own_f2_164 (v0 : Int32) : Int32 := if (63743 : Int32) < v0 then (own_f2_172 v0) else (own_f2_170 v0)
set_option maxRecDepth 65536 in
theorem own_b2_164 {l : Launch} {p : Program} {e : Env} {below : List Frame} {s : State} {m : MethodId} {meth : Method} {c : Code} {Z : State} {a0 args : Array Value} {T : State} {h0 : Heap} (X : Stand p l e ({ frames := 0, cells := 0, slots := 0, locals := 0 } : Room) s m args below meth c T [] 0 0) (C : own_Ctx p s m meth c Z a0 tables_1 (⟨"com/example/dovetail/dovetail/xml/XmlNamesMayStartPinLaw", "expected", "(I)Z"⟩ : MethodName) method_3_code 1 (some .boolean)) (hh : T.heap = h0) (v0 : Int32) :
    own_Fin p e below s (own_QP (some (.int (own_f2_164 v0))) h0) 0 0 (T.setTop (mkF m 164 #[.val (.int v0)] [])) := by
  obtain ⟨hx, hby, hml, hZ, hown, hnm, hret, hlk, hw⟩ := id C
  refine own_go (fun t => XS.iloadN X.here hx rfl (hb hby own_d2_164) rfl) ?_
  show own_Fin p e below s (own_QP (some (.int (own_f2_164 v0))) h0) 0 0 (T.setTop (mkF m 165 #[.val (.int v0)] [(.int v0)]))
  refine own_go (fun t => X.ldcInt hx hown (mvT hZ (hw _ (List.mem_of_getElem? (i := 27) rfl))) (g := (mkF m 165 #[.val (.int v0)] [(.int v0)])) rfl (hb hby own_d2_165) t) ?_
  show own_Fin p e below s (own_QP (some (.int (own_f2_164 v0))) h0) 0 0 (T.setTop (mkF m 167 #[.val (.int v0)] [(.int (63743 : Int32)), (.int v0)]))
  by_cases hq : (63743 : Int32) < v0
  · show own_Fin p e below s (own_QP (some (.int (own_f2_164 v0))) h0) 0 0 _
    rw [show (own_f2_164 v0) = (own_f2_172 v0) from if_pos hq]
    refine own_go (fun t => XS.icmpYes X.here hx rfl (pc0 := 167) (pc' := 172) rfl (hb hby own_d2_167) rfl (tlt hq).2.2.1 (by decide) (by decide)) ?_
    show own_Fin p e below s (own_QP (some (.int (own_f2_172 v0))) h0) 0 0 (T.setTop (mkF m 172 #[.val (.int v0)] []))
    exact own_b2_172 X C hh v0
  · show own_Fin p e below s (own_QP (some (.int (own_f2_164 v0))) h0) 0 0 _
    rw [show (own_f2_164 v0) = (own_f2_170 v0) from if_neg hq]
    refine own_go (fun t => XS.icmpNo X.here hx rfl (hb hby own_d2_167) rfl (flt hq).2.2.1) ?_
    show own_Fin p e below s (own_QP (some (.int (own_f2_170 v0))) h0) 0 0 (T.setTop (mkF m 170 #[.val (.int v0)] []))
    exact own_b2_170 X C hh v0
def own_f2_158 (v0 : Int32) : Int32 := if v0 < (55296 : Int32) then (own_f2_172 v0) else (own_f2_164 v0)
set_option maxRecDepth 65536 in
theorem own_b2_158 {l : Launch} {p : Program} {e : Env} {below : List Frame} {s : State} {m : MethodId} {meth : Method} {c : Code} {Z : State} {a0 args : Array Value} {T : State} {h0 : Heap} (X : Stand p l e ({ frames := 0, cells := 0, slots := 0, locals := 0 } : Room) s m args below meth c T [] 0 0) (C : own_Ctx p s m meth c Z a0 tables_1 (⟨"com/example/dovetail/dovetail/xml/XmlNamesMayStartPinLaw", "expected", "(I)Z"⟩ : MethodName) method_3_code 1 (some .boolean)) (hh : T.heap = h0) (v0 : Int32) :
    own_Fin p e below s (own_QP (some (.int (own_f2_158 v0))) h0) 0 0 (T.setTop (mkF m 158 #[.val (.int v0)] [])) := by
  obtain ⟨hx, hby, hml, hZ, hown, hnm, hret, hlk, hw⟩ := id C
  refine own_go (fun t => XS.iloadN X.here hx rfl (hb hby own_d2_158) rfl) ?_
  show own_Fin p e below s (own_QP (some (.int (own_f2_158 v0))) h0) 0 0 (T.setTop (mkF m 159 #[.val (.int v0)] [(.int v0)]))
  refine own_go (fun t => X.ldcInt hx hown (mvT hZ (hw _ (List.mem_of_getElem? (i := 1) rfl))) (g := (mkF m 159 #[.val (.int v0)] [(.int v0)])) rfl (hb hby own_d2_159) t) ?_
  show own_Fin p e below s (own_QP (some (.int (own_f2_158 v0))) h0) 0 0 (T.setTop (mkF m 161 #[.val (.int v0)] [(.int (55296 : Int32)), (.int v0)]))
  by_cases hq : v0 < (55296 : Int32)
  · show own_Fin p e below s (own_QP (some (.int (own_f2_158 v0))) h0) 0 0 _
    rw [show (own_f2_158 v0) = (own_f2_172 v0) from if_pos hq]
    refine own_go (fun t => XS.icmpYes X.here hx rfl (pc0 := 161) (pc' := 172) rfl (hb hby own_d2_161) rfl (tlt hq).1 (by decide) (by decide)) ?_
    show own_Fin p e below s (own_QP (some (.int (own_f2_172 v0))) h0) 0 0 (T.setTop (mkF m 172 #[.val (.int v0)] []))
    exact own_b2_172 X C hh v0
  · show own_Fin p e below s (own_QP (some (.int (own_f2_158 v0))) h0) 0 0 _
    rw [show (own_f2_158 v0) = (own_f2_164 v0) from if_neg hq]
    refine own_go (fun t => XS.icmpNo X.here hx rfl (hb hby own_d2_161) rfl (flt hq).1) ?_
    show own_Fin p e below s (own_QP (some (.int (own_f2_164 v0))) h0) 0 0 (T.setTop (mkF m 164 #[.val (.int v0)] []))
    exact own_b2_164 X C hh v0
def own_f2_156 (v0 : Int32) : Int32 := (0 : Int32)
set_option maxRecDepth 65536 in
theorem own_b2_156 {l : Launch} {p : Program} {e : Env} {below : List Frame} {s : State} {m : MethodId} {meth : Method} {c : Code} {Z : State} {a0 args : Array Value} {T : State} {h0 : Heap} (X : Stand p l e ({ frames := 0, cells := 0, slots := 0, locals := 0 } : Room) s m args below meth c T [] 0 0) (C : own_Ctx p s m meth c Z a0 tables_1 (⟨"com/example/dovetail/dovetail/xml/XmlNamesMayStartPinLaw", "expected", "(I)Z"⟩ : MethodName) method_3_code 1 (some .boolean)) (hh : T.heap = h0) (v0 : Int32) :
    own_Fin p e below s (own_QP (some (.int (own_f2_156 v0))) h0) 0 0 (T.setTop (mkF m 156 #[.val (.int v0)] [])) := by
  obtain ⟨hx, hby, hml, hZ, hown, hnm, hret, hlk, hw⟩ := id C
  refine own_go (fun t => XS.iconst X.here hx rfl (hb hby own_d2_156)) ?_
  show own_Fin p e below s (own_QP (some (.int (own_f2_156 v0))) h0) 0 0 (T.setTop (mkF m 157 #[.val (.int v0)] [(.int (0 : Int32))]))
  exact own_ret X hlk hx (t := .boolean) hret rfl (Or.inl ⟨rfl, by simp, _, rfl⟩) (hb hby own_d2_157) ⟨rfl, rfl, hh⟩ (by decide) (by decide)
def own_f2_149 (v0 : Int32) : Int32 := if (12288 : Int32) < v0 then (own_f2_158 v0) else (own_f2_156 v0)
set_option maxRecDepth 65536 in
theorem own_b2_149 {l : Launch} {p : Program} {e : Env} {below : List Frame} {s : State} {m : MethodId} {meth : Method} {c : Code} {Z : State} {a0 args : Array Value} {T : State} {h0 : Heap} (X : Stand p l e ({ frames := 0, cells := 0, slots := 0, locals := 0 } : Room) s m args below meth c T [] 0 0) (C : own_Ctx p s m meth c Z a0 tables_1 (⟨"com/example/dovetail/dovetail/xml/XmlNamesMayStartPinLaw", "expected", "(I)Z"⟩ : MethodName) method_3_code 1 (some .boolean)) (hh : T.heap = h0) (v0 : Int32) :
    own_Fin p e below s (own_QP (some (.int (own_f2_149 v0))) h0) 0 0 (T.setTop (mkF m 149 #[.val (.int v0)] [])) := by
  obtain ⟨hx, hby, hml, hZ, hown, hnm, hret, hlk, hw⟩ := id C
  refine own_go (fun t => XS.iloadN X.here hx rfl (hb hby own_d2_149) rfl) ?_
  show own_Fin p e below s (own_QP (some (.int (own_f2_149 v0))) h0) 0 0 (T.setTop (mkF m 150 #[.val (.int v0)] [(.int v0)]))
  refine own_go (fun t => XS.sipush X.here hx rfl (hb hby own_d2_150)) ?_
  show own_Fin p e below s (own_QP (some (.int (own_f2_149 v0))) h0) 0 0 (T.setTop (mkF m 153 #[.val (.int v0)] [(.int (12288 : Int32)), (.int v0)]))
  by_cases hq : (12288 : Int32) < v0
  · show own_Fin p e below s (own_QP (some (.int (own_f2_149 v0))) h0) 0 0 _
    rw [show (own_f2_149 v0) = (own_f2_158 v0) from if_pos hq]
    refine own_go (fun t => XS.icmpYes X.here hx rfl (pc0 := 153) (pc' := 158) rfl (hb hby own_d2_153) rfl (tlt hq).2.2.1 (by decide) (by decide)) ?_
    show own_Fin p e below s (own_QP (some (.int (own_f2_158 v0))) h0) 0 0 (T.setTop (mkF m 158 #[.val (.int v0)] []))
    exact own_b2_158 X C hh v0
  · show own_Fin p e below s (own_QP (some (.int (own_f2_149 v0))) h0) 0 0 _
    rw [show (own_f2_149 v0) = (own_f2_156 v0) from if_neg hq]
    refine own_go (fun t => XS.icmpNo X.here hx rfl (hb hby own_d2_153) rfl (flt hq).2.2.1) ?_
    show own_Fin p e below s (own_QP (some (.int (own_f2_156 v0))) h0) 0 0 (T.setTop (mkF m 156 #[.val (.int v0)] []))
    exact own_b2_156 X C hh v0
def own_f2_142 (v0 : Int32) : Int32 := if v0 < (12272 : Int32) then (own_f2_158 v0) else (own_f2_149 v0)
set_option maxRecDepth 65536 in
theorem own_b2_142 {l : Launch} {p : Program} {e : Env} {below : List Frame} {s : State} {m : MethodId} {meth : Method} {c : Code} {Z : State} {a0 args : Array Value} {T : State} {h0 : Heap} (X : Stand p l e ({ frames := 0, cells := 0, slots := 0, locals := 0 } : Room) s m args below meth c T [] 0 0) (C : own_Ctx p s m meth c Z a0 tables_1 (⟨"com/example/dovetail/dovetail/xml/XmlNamesMayStartPinLaw", "expected", "(I)Z"⟩ : MethodName) method_3_code 1 (some .boolean)) (hh : T.heap = h0) (v0 : Int32) :
    own_Fin p e below s (own_QP (some (.int (own_f2_142 v0))) h0) 0 0 (T.setTop (mkF m 142 #[.val (.int v0)] [])) := by
  obtain ⟨hx, hby, hml, hZ, hown, hnm, hret, hlk, hw⟩ := id C
  refine own_go (fun t => XS.iloadN X.here hx rfl (hb hby own_d2_142) rfl) ?_
  show own_Fin p e below s (own_QP (some (.int (own_f2_142 v0))) h0) 0 0 (T.setTop (mkF m 143 #[.val (.int v0)] [(.int v0)]))
  refine own_go (fun t => XS.sipush X.here hx rfl (hb hby own_d2_143)) ?_
  show own_Fin p e below s (own_QP (some (.int (own_f2_142 v0))) h0) 0 0 (T.setTop (mkF m 146 #[.val (.int v0)] [(.int (12272 : Int32)), (.int v0)]))
  by_cases hq : v0 < (12272 : Int32)
  · show own_Fin p e below s (own_QP (some (.int (own_f2_142 v0))) h0) 0 0 _
    rw [show (own_f2_142 v0) = (own_f2_158 v0) from if_pos hq]
    refine own_go (fun t => XS.icmpYes X.here hx rfl (pc0 := 146) (pc' := 158) rfl (hb hby own_d2_146) rfl (tlt hq).1 (by decide) (by decide)) ?_
    show own_Fin p e below s (own_QP (some (.int (own_f2_158 v0))) h0) 0 0 (T.setTop (mkF m 158 #[.val (.int v0)] []))
    exact own_b2_158 X C hh v0
  · show own_Fin p e below s (own_QP (some (.int (own_f2_142 v0))) h0) 0 0 _
    rw [show (own_f2_142 v0) = (own_f2_149 v0) from if_neg hq]
    refine own_go (fun t => XS.icmpNo X.here hx rfl (hb hby own_d2_146) rfl (flt hq).1) ?_
    show own_Fin p e below s (own_QP (some (.int (own_f2_149 v0))) h0) 0 0 (T.setTop (mkF m 149 #[.val (.int v0)] []))
    exact own_b2_149 X C hh v0
def own_f2_140 (v0 : Int32) : Int32 := (0 : Int32)
set_option maxRecDepth 65536 in
theorem own_b2_140 {l : Launch} {p : Program} {e : Env} {below : List Frame} {s : State} {m : MethodId} {meth : Method} {c : Code} {Z : State} {a0 args : Array Value} {T : State} {h0 : Heap} (X : Stand p l e ({ frames := 0, cells := 0, slots := 0, locals := 0 } : Room) s m args below meth c T [] 0 0) (C : own_Ctx p s m meth c Z a0 tables_1 (⟨"com/example/dovetail/dovetail/xml/XmlNamesMayStartPinLaw", "expected", "(I)Z"⟩ : MethodName) method_3_code 1 (some .boolean)) (hh : T.heap = h0) (v0 : Int32) :
    own_Fin p e below s (own_QP (some (.int (own_f2_140 v0))) h0) 0 0 (T.setTop (mkF m 140 #[.val (.int v0)] [])) := by
  obtain ⟨hx, hby, hml, hZ, hown, hnm, hret, hlk, hw⟩ := id C
  refine own_go (fun t => XS.iconst X.here hx rfl (hb hby own_d2_140)) ?_
  show own_Fin p e below s (own_QP (some (.int (own_f2_140 v0))) h0) 0 0 (T.setTop (mkF m 141 #[.val (.int v0)] [(.int (0 : Int32))]))
  exact own_ret X hlk hx (t := .boolean) hret rfl (Or.inl ⟨rfl, by simp, _, rfl⟩) (hb hby own_d2_141) ⟨rfl, rfl, hh⟩ (by decide) (by decide)
def own_f2_133 (v0 : Int32) : Int32 := if (11263 : Int32) < v0 then (own_f2_142 v0) else (own_f2_140 v0)
set_option maxRecDepth 65536 in
theorem own_b2_133 {l : Launch} {p : Program} {e : Env} {below : List Frame} {s : State} {m : MethodId} {meth : Method} {c : Code} {Z : State} {a0 args : Array Value} {T : State} {h0 : Heap} (X : Stand p l e ({ frames := 0, cells := 0, slots := 0, locals := 0 } : Room) s m args below meth c T [] 0 0) (C : own_Ctx p s m meth c Z a0 tables_1 (⟨"com/example/dovetail/dovetail/xml/XmlNamesMayStartPinLaw", "expected", "(I)Z"⟩ : MethodName) method_3_code 1 (some .boolean)) (hh : T.heap = h0) (v0 : Int32) :
    own_Fin p e below s (own_QP (some (.int (own_f2_133 v0))) h0) 0 0 (T.setTop (mkF m 133 #[.val (.int v0)] [])) := by
  obtain ⟨hx, hby, hml, hZ, hown, hnm, hret, hlk, hw⟩ := id C
  refine own_go (fun t => XS.iloadN X.here hx rfl (hb hby own_d2_133) rfl) ?_
  show own_Fin p e below s (own_QP (some (.int (own_f2_133 v0))) h0) 0 0 (T.setTop (mkF m 134 #[.val (.int v0)] [(.int v0)]))
  refine own_go (fun t => XS.sipush X.here hx rfl (hb hby own_d2_134)) ?_
  show own_Fin p e below s (own_QP (some (.int (own_f2_133 v0))) h0) 0 0 (T.setTop (mkF m 137 #[.val (.int v0)] [(.int (11263 : Int32)), (.int v0)]))
  by_cases hq : (11263 : Int32) < v0
  · show own_Fin p e below s (own_QP (some (.int (own_f2_133 v0))) h0) 0 0 _
    rw [show (own_f2_133 v0) = (own_f2_142 v0) from if_pos hq]
    refine own_go (fun t => XS.icmpYes X.here hx rfl (pc0 := 137) (pc' := 142) rfl (hb hby own_d2_137) rfl (tlt hq).2.2.1 (by decide) (by decide)) ?_
    show own_Fin p e below s (own_QP (some (.int (own_f2_142 v0))) h0) 0 0 (T.setTop (mkF m 142 #[.val (.int v0)] []))
    exact own_b2_142 X C hh v0
  · show own_Fin p e below s (own_QP (some (.int (own_f2_133 v0))) h0) 0 0 _
    rw [show (own_f2_133 v0) = (own_f2_140 v0) from if_neg hq]
    refine own_go (fun t => XS.icmpNo X.here hx rfl (hb hby own_d2_137) rfl (flt hq).2.2.1) ?_
    show own_Fin p e below s (own_QP (some (.int (own_f2_140 v0))) h0) 0 0 (T.setTop (mkF m 140 #[.val (.int v0)] []))
    exact own_b2_140 X C hh v0
def own_f2_126 (v0 : Int32) : Int32 := if v0 < (8592 : Int32) then (own_f2_142 v0) else (own_f2_133 v0)
set_option maxRecDepth 65536 in
theorem own_b2_126 {l : Launch} {p : Program} {e : Env} {below : List Frame} {s : State} {m : MethodId} {meth : Method} {c : Code} {Z : State} {a0 args : Array Value} {T : State} {h0 : Heap} (X : Stand p l e ({ frames := 0, cells := 0, slots := 0, locals := 0 } : Room) s m args below meth c T [] 0 0) (C : own_Ctx p s m meth c Z a0 tables_1 (⟨"com/example/dovetail/dovetail/xml/XmlNamesMayStartPinLaw", "expected", "(I)Z"⟩ : MethodName) method_3_code 1 (some .boolean)) (hh : T.heap = h0) (v0 : Int32) :
    own_Fin p e below s (own_QP (some (.int (own_f2_126 v0))) h0) 0 0 (T.setTop (mkF m 126 #[.val (.int v0)] [])) := by
  obtain ⟨hx, hby, hml, hZ, hown, hnm, hret, hlk, hw⟩ := id C
  refine own_go (fun t => XS.iloadN X.here hx rfl (hb hby own_d2_126) rfl) ?_
  show own_Fin p e below s (own_QP (some (.int (own_f2_126 v0))) h0) 0 0 (T.setTop (mkF m 127 #[.val (.int v0)] [(.int v0)]))
  refine own_go (fun t => XS.sipush X.here hx rfl (hb hby own_d2_127)) ?_
  show own_Fin p e below s (own_QP (some (.int (own_f2_126 v0))) h0) 0 0 (T.setTop (mkF m 130 #[.val (.int v0)] [(.int (8592 : Int32)), (.int v0)]))
  by_cases hq : v0 < (8592 : Int32)
  · show own_Fin p e below s (own_QP (some (.int (own_f2_126 v0))) h0) 0 0 _
    rw [show (own_f2_126 v0) = (own_f2_142 v0) from if_pos hq]
    refine own_go (fun t => XS.icmpYes X.here hx rfl (pc0 := 130) (pc' := 142) rfl (hb hby own_d2_130) rfl (tlt hq).1 (by decide) (by decide)) ?_
    show own_Fin p e below s (own_QP (some (.int (own_f2_142 v0))) h0) 0 0 (T.setTop (mkF m 142 #[.val (.int v0)] []))
    exact own_b2_142 X C hh v0
  · show own_Fin p e below s (own_QP (some (.int (own_f2_126 v0))) h0) 0 0 _
    rw [show (own_f2_126 v0) = (own_f2_133 v0) from if_neg hq]
    refine own_go (fun t => XS.icmpNo X.here hx rfl (hb hby own_d2_130) rfl (flt hq).1) ?_
    show own_Fin p e below s (own_QP (some (.int (own_f2_133 v0))) h0) 0 0 (T.setTop (mkF m 133 #[.val (.int v0)] []))
    exact own_b2_133 X C hh v0
def own_f2_124 (v0 : Int32) : Int32 := (0 : Int32)
set_option maxRecDepth 65536 in
theorem own_b2_124 {l : Launch} {p : Program} {e : Env} {below : List Frame} {s : State} {m : MethodId} {meth : Method} {c : Code} {Z : State} {a0 args : Array Value} {T : State} {h0 : Heap} (X : Stand p l e ({ frames := 0, cells := 0, slots := 0, locals := 0 } : Room) s m args below meth c T [] 0 0) (C : own_Ctx p s m meth c Z a0 tables_1 (⟨"com/example/dovetail/dovetail/xml/XmlNamesMayStartPinLaw", "expected", "(I)Z"⟩ : MethodName) method_3_code 1 (some .boolean)) (hh : T.heap = h0) (v0 : Int32) :
    own_Fin p e below s (own_QP (some (.int (own_f2_124 v0))) h0) 0 0 (T.setTop (mkF m 124 #[.val (.int v0)] [])) := by
  obtain ⟨hx, hby, hml, hZ, hown, hnm, hret, hlk, hw⟩ := id C
  refine own_go (fun t => XS.iconst X.here hx rfl (hb hby own_d2_124)) ?_
  show own_Fin p e below s (own_QP (some (.int (own_f2_124 v0))) h0) 0 0 (T.setTop (mkF m 125 #[.val (.int v0)] [(.int (0 : Int32))]))
  exact own_ret X hlk hx (t := .boolean) hret rfl (Or.inl ⟨rfl, by simp, _, rfl⟩) (hb hby own_d2_125) ⟨rfl, rfl, hh⟩ (by decide) (by decide)
def own_f2_117 (v0 : Int32) : Int32 := if (8303 : Int32) < v0 then (own_f2_126 v0) else (own_f2_124 v0)
set_option maxRecDepth 65536 in
theorem own_b2_117 {l : Launch} {p : Program} {e : Env} {below : List Frame} {s : State} {m : MethodId} {meth : Method} {c : Code} {Z : State} {a0 args : Array Value} {T : State} {h0 : Heap} (X : Stand p l e ({ frames := 0, cells := 0, slots := 0, locals := 0 } : Room) s m args below meth c T [] 0 0) (C : own_Ctx p s m meth c Z a0 tables_1 (⟨"com/example/dovetail/dovetail/xml/XmlNamesMayStartPinLaw", "expected", "(I)Z"⟩ : MethodName) method_3_code 1 (some .boolean)) (hh : T.heap = h0) (v0 : Int32) :
    own_Fin p e below s (own_QP (some (.int (own_f2_117 v0))) h0) 0 0 (T.setTop (mkF m 117 #[.val (.int v0)] [])) := by
  obtain ⟨hx, hby, hml, hZ, hown, hnm, hret, hlk, hw⟩ := id C
  refine own_go (fun t => XS.iloadN X.here hx rfl (hb hby own_d2_117) rfl) ?_
  show own_Fin p e below s (own_QP (some (.int (own_f2_117 v0))) h0) 0 0 (T.setTop (mkF m 118 #[.val (.int v0)] [(.int v0)]))
  refine own_go (fun t => XS.sipush X.here hx rfl (hb hby own_d2_118)) ?_
  show own_Fin p e below s (own_QP (some (.int (own_f2_117 v0))) h0) 0 0 (T.setTop (mkF m 121 #[.val (.int v0)] [(.int (8303 : Int32)), (.int v0)]))
  by_cases hq : (8303 : Int32) < v0
  · show own_Fin p e below s (own_QP (some (.int (own_f2_117 v0))) h0) 0 0 _
    rw [show (own_f2_117 v0) = (own_f2_126 v0) from if_pos hq]
    refine own_go (fun t => XS.icmpYes X.here hx rfl (pc0 := 121) (pc' := 126) rfl (hb hby own_d2_121) rfl (tlt hq).2.2.1 (by decide) (by decide)) ?_
    show own_Fin p e below s (own_QP (some (.int (own_f2_126 v0))) h0) 0 0 (T.setTop (mkF m 126 #[.val (.int v0)] []))
    exact own_b2_126 X C hh v0
  · show own_Fin p e below s (own_QP (some (.int (own_f2_117 v0))) h0) 0 0 _
    rw [show (own_f2_117 v0) = (own_f2_124 v0) from if_neg hq]
    refine own_go (fun t => XS.icmpNo X.here hx rfl (hb hby own_d2_121) rfl (flt hq).2.2.1) ?_
    show own_Fin p e below s (own_QP (some (.int (own_f2_124 v0))) h0) 0 0 (T.setTop (mkF m 124 #[.val (.int v0)] []))
    exact own_b2_124 X C hh v0
def own_f2_110 (v0 : Int32) : Int32 := if v0 < (8206 : Int32) then (own_f2_126 v0) else (own_f2_117 v0)
set_option maxRecDepth 65536 in
theorem own_b2_110 {l : Launch} {p : Program} {e : Env} {below : List Frame} {s : State} {m : MethodId} {meth : Method} {c : Code} {Z : State} {a0 args : Array Value} {T : State} {h0 : Heap} (X : Stand p l e ({ frames := 0, cells := 0, slots := 0, locals := 0 } : Room) s m args below meth c T [] 0 0) (C : own_Ctx p s m meth c Z a0 tables_1 (⟨"com/example/dovetail/dovetail/xml/XmlNamesMayStartPinLaw", "expected", "(I)Z"⟩ : MethodName) method_3_code 1 (some .boolean)) (hh : T.heap = h0) (v0 : Int32) :
    own_Fin p e below s (own_QP (some (.int (own_f2_110 v0))) h0) 0 0 (T.setTop (mkF m 110 #[.val (.int v0)] [])) := by
  obtain ⟨hx, hby, hml, hZ, hown, hnm, hret, hlk, hw⟩ := id C
  refine own_go (fun t => XS.iloadN X.here hx rfl (hb hby own_d2_110) rfl) ?_
  show own_Fin p e below s (own_QP (some (.int (own_f2_110 v0))) h0) 0 0 (T.setTop (mkF m 111 #[.val (.int v0)] [(.int v0)]))
  refine own_go (fun t => XS.sipush X.here hx rfl (hb hby own_d2_111)) ?_
  show own_Fin p e below s (own_QP (some (.int (own_f2_110 v0))) h0) 0 0 (T.setTop (mkF m 114 #[.val (.int v0)] [(.int (8206 : Int32)), (.int v0)]))
  by_cases hq : v0 < (8206 : Int32)
  · show own_Fin p e below s (own_QP (some (.int (own_f2_110 v0))) h0) 0 0 _
    rw [show (own_f2_110 v0) = (own_f2_126 v0) from if_pos hq]
    refine own_go (fun t => XS.icmpYes X.here hx rfl (pc0 := 114) (pc' := 126) rfl (hb hby own_d2_114) rfl (tlt hq).1 (by decide) (by decide)) ?_
    show own_Fin p e below s (own_QP (some (.int (own_f2_126 v0))) h0) 0 0 (T.setTop (mkF m 126 #[.val (.int v0)] []))
    exact own_b2_126 X C hh v0
  · show own_Fin p e below s (own_QP (some (.int (own_f2_110 v0))) h0) 0 0 _
    rw [show (own_f2_110 v0) = (own_f2_117 v0) from if_neg hq]
    refine own_go (fun t => XS.icmpNo X.here hx rfl (hb hby own_d2_114) rfl (flt hq).1) ?_
    show own_Fin p e below s (own_QP (some (.int (own_f2_117 v0))) h0) 0 0 (T.setTop (mkF m 117 #[.val (.int v0)] []))
    exact own_b2_117 X C hh v0
def own_f2_108 (v0 : Int32) : Int32 := (0 : Int32)
set_option maxRecDepth 65536 in
theorem own_b2_108 {l : Launch} {p : Program} {e : Env} {below : List Frame} {s : State} {m : MethodId} {meth : Method} {c : Code} {Z : State} {a0 args : Array Value} {T : State} {h0 : Heap} (X : Stand p l e ({ frames := 0, cells := 0, slots := 0, locals := 0 } : Room) s m args below meth c T [] 0 0) (C : own_Ctx p s m meth c Z a0 tables_1 (⟨"com/example/dovetail/dovetail/xml/XmlNamesMayStartPinLaw", "expected", "(I)Z"⟩ : MethodName) method_3_code 1 (some .boolean)) (hh : T.heap = h0) (v0 : Int32) :
    own_Fin p e below s (own_QP (some (.int (own_f2_108 v0))) h0) 0 0 (T.setTop (mkF m 108 #[.val (.int v0)] [])) := by
  obtain ⟨hx, hby, hml, hZ, hown, hnm, hret, hlk, hw⟩ := id C
  refine own_go (fun t => XS.iconst X.here hx rfl (hb hby own_d2_108)) ?_
  show own_Fin p e below s (own_QP (some (.int (own_f2_108 v0))) h0) 0 0 (T.setTop (mkF m 109 #[.val (.int v0)] [(.int (0 : Int32))]))
  exact own_ret X hlk hx (t := .boolean) hret rfl (Or.inl ⟨rfl, by simp, _, rfl⟩) (hb hby own_d2_109) ⟨rfl, rfl, hh⟩ (by decide) (by decide)
def own_f2_101 (v0 : Int32) : Int32 := if (8203 : Int32) < v0 then (own_f2_110 v0) else (own_f2_108 v0)
set_option maxRecDepth 65536 in
theorem own_b2_101 {l : Launch} {p : Program} {e : Env} {below : List Frame} {s : State} {m : MethodId} {meth : Method} {c : Code} {Z : State} {a0 args : Array Value} {T : State} {h0 : Heap} (X : Stand p l e ({ frames := 0, cells := 0, slots := 0, locals := 0 } : Room) s m args below meth c T [] 0 0) (C : own_Ctx p s m meth c Z a0 tables_1 (⟨"com/example/dovetail/dovetail/xml/XmlNamesMayStartPinLaw", "expected", "(I)Z"⟩ : MethodName) method_3_code 1 (some .boolean)) (hh : T.heap = h0) (v0 : Int32) :
    own_Fin p e below s (own_QP (some (.int (own_f2_101 v0))) h0) 0 0 (T.setTop (mkF m 101 #[.val (.int v0)] [])) := by
  obtain ⟨hx, hby, hml, hZ, hown, hnm, hret, hlk, hw⟩ := id C
  refine own_go (fun t => XS.iloadN X.here hx rfl (hb hby own_d2_101) rfl) ?_
  show own_Fin p e below s (own_QP (some (.int (own_f2_101 v0))) h0) 0 0 (T.setTop (mkF m 102 #[.val (.int v0)] [(.int v0)]))
  refine own_go (fun t => XS.sipush X.here hx rfl (hb hby own_d2_102)) ?_
  show own_Fin p e below s (own_QP (some (.int (own_f2_101 v0))) h0) 0 0 (T.setTop (mkF m 105 #[.val (.int v0)] [(.int (8203 : Int32)), (.int v0)]))
  by_cases hq : (8203 : Int32) < v0
  · show own_Fin p e below s (own_QP (some (.int (own_f2_101 v0))) h0) 0 0 _
    rw [show (own_f2_101 v0) = (own_f2_110 v0) from if_pos hq]
    refine own_go (fun t => XS.icmpYes X.here hx rfl (pc0 := 105) (pc' := 110) rfl (hb hby own_d2_105) rfl (tlt hq).2.2.1 (by decide) (by decide)) ?_
    show own_Fin p e below s (own_QP (some (.int (own_f2_110 v0))) h0) 0 0 (T.setTop (mkF m 110 #[.val (.int v0)] []))
    exact own_b2_110 X C hh v0
  · show own_Fin p e below s (own_QP (some (.int (own_f2_101 v0))) h0) 0 0 _
    rw [show (own_f2_101 v0) = (own_f2_108 v0) from if_neg hq]
    refine own_go (fun t => XS.icmpNo X.here hx rfl (hb hby own_d2_105) rfl (flt hq).2.2.1) ?_
    show own_Fin p e below s (own_QP (some (.int (own_f2_108 v0))) h0) 0 0 (T.setTop (mkF m 108 #[.val (.int v0)] []))
    exact own_b2_108 X C hh v0
def own_f2_94 (v0 : Int32) : Int32 := if v0 < (8192 : Int32) then (own_f2_110 v0) else (own_f2_101 v0)
set_option maxRecDepth 65536 in
theorem own_b2_94 {l : Launch} {p : Program} {e : Env} {below : List Frame} {s : State} {m : MethodId} {meth : Method} {c : Code} {Z : State} {a0 args : Array Value} {T : State} {h0 : Heap} (X : Stand p l e ({ frames := 0, cells := 0, slots := 0, locals := 0 } : Room) s m args below meth c T [] 0 0) (C : own_Ctx p s m meth c Z a0 tables_1 (⟨"com/example/dovetail/dovetail/xml/XmlNamesMayStartPinLaw", "expected", "(I)Z"⟩ : MethodName) method_3_code 1 (some .boolean)) (hh : T.heap = h0) (v0 : Int32) :
    own_Fin p e below s (own_QP (some (.int (own_f2_94 v0))) h0) 0 0 (T.setTop (mkF m 94 #[.val (.int v0)] [])) := by
  obtain ⟨hx, hby, hml, hZ, hown, hnm, hret, hlk, hw⟩ := id C
  refine own_go (fun t => XS.iloadN X.here hx rfl (hb hby own_d2_94) rfl) ?_
  show own_Fin p e below s (own_QP (some (.int (own_f2_94 v0))) h0) 0 0 (T.setTop (mkF m 95 #[.val (.int v0)] [(.int v0)]))
  refine own_go (fun t => XS.sipush X.here hx rfl (hb hby own_d2_95)) ?_
  show own_Fin p e below s (own_QP (some (.int (own_f2_94 v0))) h0) 0 0 (T.setTop (mkF m 98 #[.val (.int v0)] [(.int (8192 : Int32)), (.int v0)]))
  by_cases hq : v0 < (8192 : Int32)
  · show own_Fin p e below s (own_QP (some (.int (own_f2_94 v0))) h0) 0 0 _
    rw [show (own_f2_94 v0) = (own_f2_110 v0) from if_pos hq]
    refine own_go (fun t => XS.icmpYes X.here hx rfl (pc0 := 98) (pc' := 110) rfl (hb hby own_d2_98) rfl (tlt hq).1 (by decide) (by decide)) ?_
    show own_Fin p e below s (own_QP (some (.int (own_f2_110 v0))) h0) 0 0 (T.setTop (mkF m 110 #[.val (.int v0)] []))
    exact own_b2_110 X C hh v0
  · show own_Fin p e below s (own_QP (some (.int (own_f2_94 v0))) h0) 0 0 _
    rw [show (own_f2_94 v0) = (own_f2_101 v0) from if_neg hq]
    refine own_go (fun t => XS.icmpNo X.here hx rfl (hb hby own_d2_98) rfl (flt hq).1) ?_
    show own_Fin p e below s (own_QP (some (.int (own_f2_101 v0))) h0) 0 0 (T.setTop (mkF m 101 #[.val (.int v0)] []))
    exact own_b2_101 X C hh v0
def own_f2_92 (v0 : Int32) : Int32 := (0 : Int32)
set_option maxRecDepth 65536 in
theorem own_b2_92 {l : Launch} {p : Program} {e : Env} {below : List Frame} {s : State} {m : MethodId} {meth : Method} {c : Code} {Z : State} {a0 args : Array Value} {T : State} {h0 : Heap} (X : Stand p l e ({ frames := 0, cells := 0, slots := 0, locals := 0 } : Room) s m args below meth c T [] 0 0) (C : own_Ctx p s m meth c Z a0 tables_1 (⟨"com/example/dovetail/dovetail/xml/XmlNamesMayStartPinLaw", "expected", "(I)Z"⟩ : MethodName) method_3_code 1 (some .boolean)) (hh : T.heap = h0) (v0 : Int32) :
    own_Fin p e below s (own_QP (some (.int (own_f2_92 v0))) h0) 0 0 (T.setTop (mkF m 92 #[.val (.int v0)] [])) := by
  obtain ⟨hx, hby, hml, hZ, hown, hnm, hret, hlk, hw⟩ := id C
  refine own_go (fun t => XS.iconst X.here hx rfl (hb hby own_d2_92)) ?_
  show own_Fin p e below s (own_QP (some (.int (own_f2_92 v0))) h0) 0 0 (T.setTop (mkF m 93 #[.val (.int v0)] [(.int (0 : Int32))]))
  exact own_ret X hlk hx (t := .boolean) hret rfl (Or.inl ⟨rfl, by simp, _, rfl⟩) (hb hby own_d2_93) ⟨rfl, rfl, hh⟩ (by decide) (by decide)
def own_f2_85 (v0 : Int32) : Int32 := if v0 = (894 : Int32) then (own_f2_92 v0) else (own_f2_94 v0)
set_option maxRecDepth 65536 in
theorem own_b2_85 {l : Launch} {p : Program} {e : Env} {below : List Frame} {s : State} {m : MethodId} {meth : Method} {c : Code} {Z : State} {a0 args : Array Value} {T : State} {h0 : Heap} (X : Stand p l e ({ frames := 0, cells := 0, slots := 0, locals := 0 } : Room) s m args below meth c T [] 0 0) (C : own_Ctx p s m meth c Z a0 tables_1 (⟨"com/example/dovetail/dovetail/xml/XmlNamesMayStartPinLaw", "expected", "(I)Z"⟩ : MethodName) method_3_code 1 (some .boolean)) (hh : T.heap = h0) (v0 : Int32) :
    own_Fin p e below s (own_QP (some (.int (own_f2_85 v0))) h0) 0 0 (T.setTop (mkF m 85 #[.val (.int v0)] [])) := by
  obtain ⟨hx, hby, hml, hZ, hown, hnm, hret, hlk, hw⟩ := id C
  refine own_go (fun t => XS.iloadN X.here hx rfl (hb hby own_d2_85) rfl) ?_
  show own_Fin p e below s (own_QP (some (.int (own_f2_85 v0))) h0) 0 0 (T.setTop (mkF m 86 #[.val (.int v0)] [(.int v0)]))
  refine own_go (fun t => XS.sipush X.here hx rfl (hb hby own_d2_86)) ?_
  show own_Fin p e below s (own_QP (some (.int (own_f2_85 v0))) h0) 0 0 (T.setTop (mkF m 89 #[.val (.int v0)] [(.int (894 : Int32)), (.int v0)]))
  by_cases hq : v0 = (894 : Int32)
  · show own_Fin p e below s (own_QP (some (.int (own_f2_85 v0))) h0) 0 0 _
    rw [show (own_f2_85 v0) = (own_f2_92 v0) from if_pos hq]
    refine own_go (fun t => XS.icmpNo X.here hx rfl (hb hby own_d2_89) rfl (teq hq).2) ?_
    show own_Fin p e below s (own_QP (some (.int (own_f2_92 v0))) h0) 0 0 (T.setTop (mkF m 92 #[.val (.int v0)] []))
    exact own_b2_92 X C hh v0
  · show own_Fin p e below s (own_QP (some (.int (own_f2_85 v0))) h0) 0 0 _
    rw [show (own_f2_85 v0) = (own_f2_94 v0) from if_neg hq]
    refine own_go (fun t => XS.icmpYes X.here hx rfl (pc0 := 89) (pc' := 94) rfl (hb hby own_d2_89) rfl (feq hq).2 (by decide) (by decide)) ?_
    show own_Fin p e below s (own_QP (some (.int (own_f2_94 v0))) h0) 0 0 (T.setTop (mkF m 94 #[.val (.int v0)] []))
    exact own_b2_94 X C hh v0
def own_f2_83 (v0 : Int32) : Int32 := (0 : Int32)
set_option maxRecDepth 65536 in
theorem own_b2_83 {l : Launch} {p : Program} {e : Env} {below : List Frame} {s : State} {m : MethodId} {meth : Method} {c : Code} {Z : State} {a0 args : Array Value} {T : State} {h0 : Heap} (X : Stand p l e ({ frames := 0, cells := 0, slots := 0, locals := 0 } : Room) s m args below meth c T [] 0 0) (C : own_Ctx p s m meth c Z a0 tables_1 (⟨"com/example/dovetail/dovetail/xml/XmlNamesMayStartPinLaw", "expected", "(I)Z"⟩ : MethodName) method_3_code 1 (some .boolean)) (hh : T.heap = h0) (v0 : Int32) :
    own_Fin p e below s (own_QP (some (.int (own_f2_83 v0))) h0) 0 0 (T.setTop (mkF m 83 #[.val (.int v0)] [])) := by
  obtain ⟨hx, hby, hml, hZ, hown, hnm, hret, hlk, hw⟩ := id C
  refine own_go (fun t => XS.iconst X.here hx rfl (hb hby own_d2_83)) ?_
  show own_Fin p e below s (own_QP (some (.int (own_f2_83 v0))) h0) 0 0 (T.setTop (mkF m 84 #[.val (.int v0)] [(.int (0 : Int32))]))
  exact own_ret X hlk hx (t := .boolean) hret rfl (Or.inl ⟨rfl, by simp, _, rfl⟩) (hb hby own_d2_84) ⟨rfl, rfl, hh⟩ (by decide) (by decide)
def own_f2_76 (v0 : Int32) : Int32 := if (879 : Int32) < v0 then (own_f2_85 v0) else (own_f2_83 v0)
set_option maxRecDepth 65536 in
theorem own_b2_76 {l : Launch} {p : Program} {e : Env} {below : List Frame} {s : State} {m : MethodId} {meth : Method} {c : Code} {Z : State} {a0 args : Array Value} {T : State} {h0 : Heap} (X : Stand p l e ({ frames := 0, cells := 0, slots := 0, locals := 0 } : Room) s m args below meth c T [] 0 0) (C : own_Ctx p s m meth c Z a0 tables_1 (⟨"com/example/dovetail/dovetail/xml/XmlNamesMayStartPinLaw", "expected", "(I)Z"⟩ : MethodName) method_3_code 1 (some .boolean)) (hh : T.heap = h0) (v0 : Int32) :
    own_Fin p e below s (own_QP (some (.int (own_f2_76 v0))) h0) 0 0 (T.setTop (mkF m 76 #[.val (.int v0)] [])) := by
  obtain ⟨hx, hby, hml, hZ, hown, hnm, hret, hlk, hw⟩ := id C
  refine own_go (fun t => XS.iloadN X.here hx rfl (hb hby own_d2_76) rfl) ?_
  show own_Fin p e below s (own_QP (some (.int (own_f2_76 v0))) h0) 0 0 (T.setTop (mkF m 77 #[.val (.int v0)] [(.int v0)]))
  refine own_go (fun t => XS.sipush X.here hx rfl (hb hby own_d2_77)) ?_
  show own_Fin p e below s (own_QP (some (.int (own_f2_76 v0))) h0) 0 0 (T.setTop (mkF m 80 #[.val (.int v0)] [(.int (879 : Int32)), (.int v0)]))
  by_cases hq : (879 : Int32) < v0
  · show own_Fin p e below s (own_QP (some (.int (own_f2_76 v0))) h0) 0 0 _
    rw [show (own_f2_76 v0) = (own_f2_85 v0) from if_pos hq]
    refine own_go (fun t => XS.icmpYes X.here hx rfl (pc0 := 80) (pc' := 85) rfl (hb hby own_d2_80) rfl (tlt hq).2.2.1 (by decide) (by decide)) ?_
    show own_Fin p e below s (own_QP (some (.int (own_f2_85 v0))) h0) 0 0 (T.setTop (mkF m 85 #[.val (.int v0)] []))
    exact own_b2_85 X C hh v0
  · show own_Fin p e below s (own_QP (some (.int (own_f2_76 v0))) h0) 0 0 _
    rw [show (own_f2_76 v0) = (own_f2_83 v0) from if_neg hq]
    refine own_go (fun t => XS.icmpNo X.here hx rfl (hb hby own_d2_80) rfl (flt hq).2.2.1) ?_
    show own_Fin p e below s (own_QP (some (.int (own_f2_83 v0))) h0) 0 0 (T.setTop (mkF m 83 #[.val (.int v0)] []))
    exact own_b2_83 X C hh v0
def own_f2_69 (v0 : Int32) : Int32 := if v0 < (768 : Int32) then (own_f2_85 v0) else (own_f2_76 v0)
set_option maxRecDepth 65536 in
theorem own_b2_69 {l : Launch} {p : Program} {e : Env} {below : List Frame} {s : State} {m : MethodId} {meth : Method} {c : Code} {Z : State} {a0 args : Array Value} {T : State} {h0 : Heap} (X : Stand p l e ({ frames := 0, cells := 0, slots := 0, locals := 0 } : Room) s m args below meth c T [] 0 0) (C : own_Ctx p s m meth c Z a0 tables_1 (⟨"com/example/dovetail/dovetail/xml/XmlNamesMayStartPinLaw", "expected", "(I)Z"⟩ : MethodName) method_3_code 1 (some .boolean)) (hh : T.heap = h0) (v0 : Int32) :
    own_Fin p e below s (own_QP (some (.int (own_f2_69 v0))) h0) 0 0 (T.setTop (mkF m 69 #[.val (.int v0)] [])) := by
  obtain ⟨hx, hby, hml, hZ, hown, hnm, hret, hlk, hw⟩ := id C
  refine own_go (fun t => XS.iloadN X.here hx rfl (hb hby own_d2_69) rfl) ?_
  show own_Fin p e below s (own_QP (some (.int (own_f2_69 v0))) h0) 0 0 (T.setTop (mkF m 70 #[.val (.int v0)] [(.int v0)]))
  refine own_go (fun t => XS.sipush X.here hx rfl (hb hby own_d2_70)) ?_
  show own_Fin p e below s (own_QP (some (.int (own_f2_69 v0))) h0) 0 0 (T.setTop (mkF m 73 #[.val (.int v0)] [(.int (768 : Int32)), (.int v0)]))
  by_cases hq : v0 < (768 : Int32)
  · show own_Fin p e below s (own_QP (some (.int (own_f2_69 v0))) h0) 0 0 _
    rw [show (own_f2_69 v0) = (own_f2_85 v0) from if_pos hq]
    refine own_go (fun t => XS.icmpYes X.here hx rfl (pc0 := 73) (pc' := 85) rfl (hb hby own_d2_73) rfl (tlt hq).1 (by decide) (by decide)) ?_
    show own_Fin p e below s (own_QP (some (.int (own_f2_85 v0))) h0) 0 0 (T.setTop (mkF m 85 #[.val (.int v0)] []))
    exact own_b2_85 X C hh v0
  · show own_Fin p e below s (own_QP (some (.int (own_f2_69 v0))) h0) 0 0 _
    rw [show (own_f2_69 v0) = (own_f2_76 v0) from if_neg hq]
    refine own_go (fun t => XS.icmpNo X.here hx rfl (hb hby own_d2_73) rfl (flt hq).1) ?_
    show own_Fin p e below s (own_QP (some (.int (own_f2_76 v0))) h0) 0 0 (T.setTop (mkF m 76 #[.val (.int v0)] []))
    exact own_b2_76 X C hh v0
def own_f2_60 (v0 : Int32) : Int32 := if v0 = (247 : Int32) then (own_f2_67 v0) else (own_f2_69 v0)
set_option maxRecDepth 65536 in
theorem own_b2_60 {l : Launch} {p : Program} {e : Env} {below : List Frame} {s : State} {m : MethodId} {meth : Method} {c : Code} {Z : State} {a0 args : Array Value} {T : State} {h0 : Heap} (X : Stand p l e ({ frames := 0, cells := 0, slots := 0, locals := 0 } : Room) s m args below meth c T [] 0 0) (C : own_Ctx p s m meth c Z a0 tables_1 (⟨"com/example/dovetail/dovetail/xml/XmlNamesMayStartPinLaw", "expected", "(I)Z"⟩ : MethodName) method_3_code 1 (some .boolean)) (hh : T.heap = h0) (v0 : Int32) :
    own_Fin p e below s (own_QP (some (.int (own_f2_60 v0))) h0) 0 0 (T.setTop (mkF m 60 #[.val (.int v0)] [])) := by
  obtain ⟨hx, hby, hml, hZ, hown, hnm, hret, hlk, hw⟩ := id C
  refine own_go (fun t => XS.iloadN X.here hx rfl (hb hby own_d2_60) rfl) ?_
  show own_Fin p e below s (own_QP (some (.int (own_f2_60 v0))) h0) 0 0 (T.setTop (mkF m 61 #[.val (.int v0)] [(.int v0)]))
  refine own_go (fun t => XS.sipush X.here hx rfl (hb hby own_d2_61)) ?_
  show own_Fin p e below s (own_QP (some (.int (own_f2_60 v0))) h0) 0 0 (T.setTop (mkF m 64 #[.val (.int v0)] [(.int (247 : Int32)), (.int v0)]))
  by_cases hq : v0 = (247 : Int32)
  · show own_Fin p e below s (own_QP (some (.int (own_f2_60 v0))) h0) 0 0 _
    rw [show (own_f2_60 v0) = (own_f2_67 v0) from if_pos hq]
    refine own_go (fun t => XS.icmpNo X.here hx rfl (hb hby own_d2_64) rfl (teq hq).2) ?_
    show own_Fin p e below s (own_QP (some (.int (own_f2_67 v0))) h0) 0 0 (T.setTop (mkF m 67 #[.val (.int v0)] []))
    exact own_b2_67 X C hh v0
  · show own_Fin p e below s (own_QP (some (.int (own_f2_60 v0))) h0) 0 0 _
    rw [show (own_f2_60 v0) = (own_f2_69 v0) from if_neg hq]
    refine own_go (fun t => XS.icmpYes X.here hx rfl (pc0 := 64) (pc' := 69) rfl (hb hby own_d2_64) rfl (feq hq).2 (by decide) (by decide)) ?_
    show own_Fin p e below s (own_QP (some (.int (own_f2_69 v0))) h0) 0 0 (T.setTop (mkF m 69 #[.val (.int v0)] []))
    exact own_b2_69 X C hh v0
def own_f2_53 (v0 : Int32) : Int32 := if v0 = (215 : Int32) then (own_f2_67 v0) else (own_f2_60 v0)
set_option maxRecDepth 65536 in
theorem own_b2_53 {l : Launch} {p : Program} {e : Env} {below : List Frame} {s : State} {m : MethodId} {meth : Method} {c : Code} {Z : State} {a0 args : Array Value} {T : State} {h0 : Heap} (X : Stand p l e ({ frames := 0, cells := 0, slots := 0, locals := 0 } : Room) s m args below meth c T [] 0 0) (C : own_Ctx p s m meth c Z a0 tables_1 (⟨"com/example/dovetail/dovetail/xml/XmlNamesMayStartPinLaw", "expected", "(I)Z"⟩ : MethodName) method_3_code 1 (some .boolean)) (hh : T.heap = h0) (v0 : Int32) :
    own_Fin p e below s (own_QP (some (.int (own_f2_53 v0))) h0) 0 0 (T.setTop (mkF m 53 #[.val (.int v0)] [])) := by
  obtain ⟨hx, hby, hml, hZ, hown, hnm, hret, hlk, hw⟩ := id C
  refine own_go (fun t => XS.iloadN X.here hx rfl (hb hby own_d2_53) rfl) ?_
  show own_Fin p e below s (own_QP (some (.int (own_f2_53 v0))) h0) 0 0 (T.setTop (mkF m 54 #[.val (.int v0)] [(.int v0)]))
  refine own_go (fun t => XS.sipush X.here hx rfl (hb hby own_d2_54)) ?_
  show own_Fin p e below s (own_QP (some (.int (own_f2_53 v0))) h0) 0 0 (T.setTop (mkF m 57 #[.val (.int v0)] [(.int (215 : Int32)), (.int v0)]))
  by_cases hq : v0 = (215 : Int32)
  · show own_Fin p e below s (own_QP (some (.int (own_f2_53 v0))) h0) 0 0 _
    rw [show (own_f2_53 v0) = (own_f2_67 v0) from if_pos hq]
    refine own_go (fun t => XS.icmpYes X.here hx rfl (pc0 := 57) (pc' := 67) rfl (hb hby own_d2_57) rfl (teq hq).1 (by decide) (by decide)) ?_
    show own_Fin p e below s (own_QP (some (.int (own_f2_67 v0))) h0) 0 0 (T.setTop (mkF m 67 #[.val (.int v0)] []))
    exact own_b2_67 X C hh v0
  · show own_Fin p e below s (own_QP (some (.int (own_f2_53 v0))) h0) 0 0 _
    rw [show (own_f2_53 v0) = (own_f2_60 v0) from if_neg hq]
    refine own_go (fun t => XS.icmpNo X.here hx rfl (hb hby own_d2_57) rfl (feq hq).1) ?_
    show own_Fin p e below s (own_QP (some (.int (own_f2_60 v0))) h0) 0 0 (T.setTop (mkF m 60 #[.val (.int v0)] []))
    exact own_b2_60 X C hh v0
def own_f2_51 (v0 : Int32) : Int32 := (0 : Int32)
set_option maxRecDepth 65536 in
theorem own_b2_51 {l : Launch} {p : Program} {e : Env} {below : List Frame} {s : State} {m : MethodId} {meth : Method} {c : Code} {Z : State} {a0 args : Array Value} {T : State} {h0 : Heap} (X : Stand p l e ({ frames := 0, cells := 0, slots := 0, locals := 0 } : Room) s m args below meth c T [] 0 0) (C : own_Ctx p s m meth c Z a0 tables_1 (⟨"com/example/dovetail/dovetail/xml/XmlNamesMayStartPinLaw", "expected", "(I)Z"⟩ : MethodName) method_3_code 1 (some .boolean)) (hh : T.heap = h0) (v0 : Int32) :
    own_Fin p e below s (own_QP (some (.int (own_f2_51 v0))) h0) 0 0 (T.setTop (mkF m 51 #[.val (.int v0)] [])) := by
  obtain ⟨hx, hby, hml, hZ, hown, hnm, hret, hlk, hw⟩ := id C
  refine own_go (fun t => XS.iconst X.here hx rfl (hb hby own_d2_51)) ?_
  show own_Fin p e below s (own_QP (some (.int (own_f2_51 v0))) h0) 0 0 (T.setTop (mkF m 52 #[.val (.int v0)] [(.int (0 : Int32))]))
  exact own_ret X hlk hx (t := .boolean) hret rfl (Or.inl ⟨rfl, by simp, _, rfl⟩) (hb hby own_d2_52) ⟨rfl, rfl, hh⟩ (by decide) (by decide)
def own_f2_44 (v0 : Int32) : Int32 := if v0 < (192 : Int32) then (own_f2_51 v0) else (own_f2_53 v0)
set_option maxRecDepth 65536 in
theorem own_b2_44 {l : Launch} {p : Program} {e : Env} {below : List Frame} {s : State} {m : MethodId} {meth : Method} {c : Code} {Z : State} {a0 args : Array Value} {T : State} {h0 : Heap} (X : Stand p l e ({ frames := 0, cells := 0, slots := 0, locals := 0 } : Room) s m args below meth c T [] 0 0) (C : own_Ctx p s m meth c Z a0 tables_1 (⟨"com/example/dovetail/dovetail/xml/XmlNamesMayStartPinLaw", "expected", "(I)Z"⟩ : MethodName) method_3_code 1 (some .boolean)) (hh : T.heap = h0) (v0 : Int32) :
    own_Fin p e below s (own_QP (some (.int (own_f2_44 v0))) h0) 0 0 (T.setTop (mkF m 44 #[.val (.int v0)] [])) := by
  obtain ⟨hx, hby, hml, hZ, hown, hnm, hret, hlk, hw⟩ := id C
  refine own_go (fun t => XS.iloadN X.here hx rfl (hb hby own_d2_44) rfl) ?_
  show own_Fin p e below s (own_QP (some (.int (own_f2_44 v0))) h0) 0 0 (T.setTop (mkF m 45 #[.val (.int v0)] [(.int v0)]))
  refine own_go (fun t => XS.sipush X.here hx rfl (hb hby own_d2_45)) ?_
  show own_Fin p e below s (own_QP (some (.int (own_f2_44 v0))) h0) 0 0 (T.setTop (mkF m 48 #[.val (.int v0)] [(.int (192 : Int32)), (.int v0)]))
  by_cases hq : v0 < (192 : Int32)
  · show own_Fin p e below s (own_QP (some (.int (own_f2_44 v0))) h0) 0 0 _
    rw [show (own_f2_44 v0) = (own_f2_51 v0) from if_pos hq]
    refine own_go (fun t => XS.icmpNo X.here hx rfl (hb hby own_d2_48) rfl (tlt hq).2.1) ?_
    show own_Fin p e below s (own_QP (some (.int (own_f2_51 v0))) h0) 0 0 (T.setTop (mkF m 51 #[.val (.int v0)] []))
    exact own_b2_51 X C hh v0
  · show own_Fin p e below s (own_QP (some (.int (own_f2_44 v0))) h0) 0 0 _
    rw [show (own_f2_44 v0) = (own_f2_53 v0) from if_neg hq]
    refine own_go (fun t => XS.icmpYes X.here hx rfl (pc0 := 48) (pc' := 53) rfl (hb hby own_d2_48) rfl (flt hq).2.1 (by decide) (by decide)) ?_
    show own_Fin p e below s (own_QP (some (.int (own_f2_53 v0))) h0) 0 0 (T.setTop (mkF m 53 #[.val (.int v0)] []))
    exact own_b2_53 X C hh v0
def own_f2_38 (v0 : Int32) : Int32 := if (122 : Int32) < v0 then (own_f2_44 v0) else (own_f2_53 v0)
set_option maxRecDepth 65536 in
theorem own_b2_38 {l : Launch} {p : Program} {e : Env} {below : List Frame} {s : State} {m : MethodId} {meth : Method} {c : Code} {Z : State} {a0 args : Array Value} {T : State} {h0 : Heap} (X : Stand p l e ({ frames := 0, cells := 0, slots := 0, locals := 0 } : Room) s m args below meth c T [] 0 0) (C : own_Ctx p s m meth c Z a0 tables_1 (⟨"com/example/dovetail/dovetail/xml/XmlNamesMayStartPinLaw", "expected", "(I)Z"⟩ : MethodName) method_3_code 1 (some .boolean)) (hh : T.heap = h0) (v0 : Int32) :
    own_Fin p e below s (own_QP (some (.int (own_f2_38 v0))) h0) 0 0 (T.setTop (mkF m 38 #[.val (.int v0)] [])) := by
  obtain ⟨hx, hby, hml, hZ, hown, hnm, hret, hlk, hw⟩ := id C
  refine own_go (fun t => XS.iloadN X.here hx rfl (hb hby own_d2_38) rfl) ?_
  show own_Fin p e below s (own_QP (some (.int (own_f2_38 v0))) h0) 0 0 (T.setTop (mkF m 39 #[.val (.int v0)] [(.int v0)]))
  refine own_go (fun t => XS.bipush X.here hx rfl (hb hby own_d2_39)) ?_
  show own_Fin p e below s (own_QP (some (.int (own_f2_38 v0))) h0) 0 0 (T.setTop (mkF m 41 #[.val (.int v0)] [(.int (122 : Int32)), (.int v0)]))
  by_cases hq : (122 : Int32) < v0
  · show own_Fin p e below s (own_QP (some (.int (own_f2_38 v0))) h0) 0 0 _
    rw [show (own_f2_38 v0) = (own_f2_44 v0) from if_pos hq]
    refine own_go (fun t => XS.icmpNo X.here hx rfl (hb hby own_d2_41) rfl (tlt hq).2.2.2) ?_
    show own_Fin p e below s (own_QP (some (.int (own_f2_44 v0))) h0) 0 0 (T.setTop (mkF m 44 #[.val (.int v0)] []))
    exact own_b2_44 X C hh v0
  · show own_Fin p e below s (own_QP (some (.int (own_f2_38 v0))) h0) 0 0 _
    rw [show (own_f2_38 v0) = (own_f2_53 v0) from if_neg hq]
    refine own_go (fun t => XS.icmpYes X.here hx rfl (pc0 := 41) (pc' := 53) rfl (hb hby own_d2_41) rfl (flt hq).2.2.2 (by decide) (by decide)) ?_
    show own_Fin p e below s (own_QP (some (.int (own_f2_53 v0))) h0) 0 0 (T.setTop (mkF m 53 #[.val (.int v0)] []))
    exact own_b2_53 X C hh v0
def own_f2_36 (v0 : Int32) : Int32 := (0 : Int32)
set_option maxRecDepth 65536 in
theorem own_b2_36 {l : Launch} {p : Program} {e : Env} {below : List Frame} {s : State} {m : MethodId} {meth : Method} {c : Code} {Z : State} {a0 args : Array Value} {T : State} {h0 : Heap} (X : Stand p l e ({ frames := 0, cells := 0, slots := 0, locals := 0 } : Room) s m args below meth c T [] 0 0) (C : own_Ctx p s m meth c Z a0 tables_1 (⟨"com/example/dovetail/dovetail/xml/XmlNamesMayStartPinLaw", "expected", "(I)Z"⟩ : MethodName) method_3_code 1 (some .boolean)) (hh : T.heap = h0) (v0 : Int32) :
    own_Fin p e below s (own_QP (some (.int (own_f2_36 v0))) h0) 0 0 (T.setTop (mkF m 36 #[.val (.int v0)] [])) := by
  obtain ⟨hx, hby, hml, hZ, hown, hnm, hret, hlk, hw⟩ := id C
  refine own_go (fun t => XS.iconst X.here hx rfl (hb hby own_d2_36)) ?_
  show own_Fin p e below s (own_QP (some (.int (own_f2_36 v0))) h0) 0 0 (T.setTop (mkF m 37 #[.val (.int v0)] [(.int (0 : Int32))]))
  exact own_ret X hlk hx (t := .boolean) hret rfl (Or.inl ⟨rfl, by simp, _, rfl⟩) (hb hby own_d2_37) ⟨rfl, rfl, hh⟩ (by decide) (by decide)
def own_f2_32 (v0 : Int32) : Int32 := (1 : Int32)
set_option maxRecDepth 65536 in
theorem own_b2_32 {l : Launch} {p : Program} {e : Env} {below : List Frame} {s : State} {m : MethodId} {meth : Method} {c : Code} {Z : State} {a0 args : Array Value} {T : State} {h0 : Heap} (X : Stand p l e ({ frames := 0, cells := 0, slots := 0, locals := 0 } : Room) s m args below meth c T [] 0 0) (C : own_Ctx p s m meth c Z a0 tables_1 (⟨"com/example/dovetail/dovetail/xml/XmlNamesMayStartPinLaw", "expected", "(I)Z"⟩ : MethodName) method_3_code 1 (some .boolean)) (hh : T.heap = h0) (v0 : Int32) :
    own_Fin p e below s (own_QP (some (.int (own_f2_32 v0))) h0) 0 0 (T.setTop (mkF m 32 #[.val (.int v0)] [])) := by
  obtain ⟨hx, hby, hml, hZ, hown, hnm, hret, hlk, hw⟩ := id C
  refine own_go (fun t => XS.iconst X.here hx rfl (hb hby own_d2_32)) ?_
  show own_Fin p e below s (own_QP (some (.int (own_f2_32 v0))) h0) 0 0 (T.setTop (mkF m 33 #[.val (.int v0)] [(.int (1 : Int32))]))
  refine own_go (fun t => XS.goto X.here hx rfl (pc0 := 33) (pc' := 37) rfl (hb hby own_d2_33) (by decide) (by decide)) ?_
  show own_Fin p e below s (own_QP (some (.int (own_f2_32 v0))) h0) 0 0 (T.setTop (mkF m 37 #[.val (.int v0)] [(.int (1 : Int32))]))
  exact own_ret X hlk hx (t := .boolean) hret rfl (Or.inl ⟨rfl, by simp, _, rfl⟩) (hb hby own_d2_37) ⟨rfl, rfl, hh⟩ (by decide) (by decide)
def own_f2_26 (v0 : Int32) : Int32 := if v0 = (95 : Int32) then (own_f2_32 v0) else (own_f2_36 v0)
set_option maxRecDepth 65536 in
theorem own_b2_26 {l : Launch} {p : Program} {e : Env} {below : List Frame} {s : State} {m : MethodId} {meth : Method} {c : Code} {Z : State} {a0 args : Array Value} {T : State} {h0 : Heap} (X : Stand p l e ({ frames := 0, cells := 0, slots := 0, locals := 0 } : Room) s m args below meth c T [] 0 0) (C : own_Ctx p s m meth c Z a0 tables_1 (⟨"com/example/dovetail/dovetail/xml/XmlNamesMayStartPinLaw", "expected", "(I)Z"⟩ : MethodName) method_3_code 1 (some .boolean)) (hh : T.heap = h0) (v0 : Int32) :
    own_Fin p e below s (own_QP (some (.int (own_f2_26 v0))) h0) 0 0 (T.setTop (mkF m 26 #[.val (.int v0)] [])) := by
  obtain ⟨hx, hby, hml, hZ, hown, hnm, hret, hlk, hw⟩ := id C
  refine own_go (fun t => XS.iloadN X.here hx rfl (hb hby own_d2_26) rfl) ?_
  show own_Fin p e below s (own_QP (some (.int (own_f2_26 v0))) h0) 0 0 (T.setTop (mkF m 27 #[.val (.int v0)] [(.int v0)]))
  refine own_go (fun t => XS.bipush X.here hx rfl (hb hby own_d2_27)) ?_
  show own_Fin p e below s (own_QP (some (.int (own_f2_26 v0))) h0) 0 0 (T.setTop (mkF m 29 #[.val (.int v0)] [(.int (95 : Int32)), (.int v0)]))
  by_cases hq : v0 = (95 : Int32)
  · show own_Fin p e below s (own_QP (some (.int (own_f2_26 v0))) h0) 0 0 _
    rw [show (own_f2_26 v0) = (own_f2_32 v0) from if_pos hq]
    refine own_go (fun t => XS.icmpNo X.here hx rfl (hb hby own_d2_29) rfl (teq hq).2) ?_
    show own_Fin p e below s (own_QP (some (.int (own_f2_32 v0))) h0) 0 0 (T.setTop (mkF m 32 #[.val (.int v0)] []))
    exact own_b2_32 X C hh v0
  · show own_Fin p e below s (own_QP (some (.int (own_f2_26 v0))) h0) 0 0 _
    rw [show (own_f2_26 v0) = (own_f2_36 v0) from if_neg hq]
    refine own_go (fun t => XS.icmpYes X.here hx rfl (pc0 := 29) (pc' := 36) rfl (hb hby own_d2_29) rfl (feq hq).2 (by decide) (by decide)) ?_
    show own_Fin p e below s (own_QP (some (.int (own_f2_36 v0))) h0) 0 0 (T.setTop (mkF m 36 #[.val (.int v0)] []))
    exact own_b2_36 X C hh v0
def own_f2_20 (v0 : Int32) : Int32 := if v0 < (97 : Int32) then (own_f2_26 v0) else (own_f2_38 v0)
set_option maxRecDepth 65536 in
theorem own_b2_20 {l : Launch} {p : Program} {e : Env} {below : List Frame} {s : State} {m : MethodId} {meth : Method} {c : Code} {Z : State} {a0 args : Array Value} {T : State} {h0 : Heap} (X : Stand p l e ({ frames := 0, cells := 0, slots := 0, locals := 0 } : Room) s m args below meth c T [] 0 0) (C : own_Ctx p s m meth c Z a0 tables_1 (⟨"com/example/dovetail/dovetail/xml/XmlNamesMayStartPinLaw", "expected", "(I)Z"⟩ : MethodName) method_3_code 1 (some .boolean)) (hh : T.heap = h0) (v0 : Int32) :
    own_Fin p e below s (own_QP (some (.int (own_f2_20 v0))) h0) 0 0 (T.setTop (mkF m 20 #[.val (.int v0)] [])) := by
  obtain ⟨hx, hby, hml, hZ, hown, hnm, hret, hlk, hw⟩ := id C
  refine own_go (fun t => XS.iloadN X.here hx rfl (hb hby own_d2_20) rfl) ?_
  show own_Fin p e below s (own_QP (some (.int (own_f2_20 v0))) h0) 0 0 (T.setTop (mkF m 21 #[.val (.int v0)] [(.int v0)]))
  refine own_go (fun t => XS.bipush X.here hx rfl (hb hby own_d2_21)) ?_
  show own_Fin p e below s (own_QP (some (.int (own_f2_20 v0))) h0) 0 0 (T.setTop (mkF m 23 #[.val (.int v0)] [(.int (97 : Int32)), (.int v0)]))
  by_cases hq : v0 < (97 : Int32)
  · show own_Fin p e below s (own_QP (some (.int (own_f2_20 v0))) h0) 0 0 _
    rw [show (own_f2_20 v0) = (own_f2_26 v0) from if_pos hq]
    refine own_go (fun t => XS.icmpNo X.here hx rfl (hb hby own_d2_23) rfl (tlt hq).2.1) ?_
    show own_Fin p e below s (own_QP (some (.int (own_f2_26 v0))) h0) 0 0 (T.setTop (mkF m 26 #[.val (.int v0)] []))
    exact own_b2_26 X C hh v0
  · show own_Fin p e below s (own_QP (some (.int (own_f2_20 v0))) h0) 0 0 _
    rw [show (own_f2_20 v0) = (own_f2_38 v0) from if_neg hq]
    refine own_go (fun t => XS.icmpYes X.here hx rfl (pc0 := 23) (pc' := 38) rfl (hb hby own_d2_23) rfl (flt hq).2.1 (by decide) (by decide)) ?_
    show own_Fin p e below s (own_QP (some (.int (own_f2_38 v0))) h0) 0 0 (T.setTop (mkF m 38 #[.val (.int v0)] []))
    exact own_b2_38 X C hh v0
def own_f2_14 (v0 : Int32) : Int32 := if (90 : Int32) < v0 then (own_f2_20 v0) else (own_f2_38 v0)
set_option maxRecDepth 65536 in
theorem own_b2_14 {l : Launch} {p : Program} {e : Env} {below : List Frame} {s : State} {m : MethodId} {meth : Method} {c : Code} {Z : State} {a0 args : Array Value} {T : State} {h0 : Heap} (X : Stand p l e ({ frames := 0, cells := 0, slots := 0, locals := 0 } : Room) s m args below meth c T [] 0 0) (C : own_Ctx p s m meth c Z a0 tables_1 (⟨"com/example/dovetail/dovetail/xml/XmlNamesMayStartPinLaw", "expected", "(I)Z"⟩ : MethodName) method_3_code 1 (some .boolean)) (hh : T.heap = h0) (v0 : Int32) :
    own_Fin p e below s (own_QP (some (.int (own_f2_14 v0))) h0) 0 0 (T.setTop (mkF m 14 #[.val (.int v0)] [])) := by
  obtain ⟨hx, hby, hml, hZ, hown, hnm, hret, hlk, hw⟩ := id C
  refine own_go (fun t => XS.iloadN X.here hx rfl (hb hby own_d2_14) rfl) ?_
  show own_Fin p e below s (own_QP (some (.int (own_f2_14 v0))) h0) 0 0 (T.setTop (mkF m 15 #[.val (.int v0)] [(.int v0)]))
  refine own_go (fun t => XS.bipush X.here hx rfl (hb hby own_d2_15)) ?_
  show own_Fin p e below s (own_QP (some (.int (own_f2_14 v0))) h0) 0 0 (T.setTop (mkF m 17 #[.val (.int v0)] [(.int (90 : Int32)), (.int v0)]))
  by_cases hq : (90 : Int32) < v0
  · show own_Fin p e below s (own_QP (some (.int (own_f2_14 v0))) h0) 0 0 _
    rw [show (own_f2_14 v0) = (own_f2_20 v0) from if_pos hq]
    refine own_go (fun t => XS.icmpNo X.here hx rfl (hb hby own_d2_17) rfl (tlt hq).2.2.2) ?_
    show own_Fin p e below s (own_QP (some (.int (own_f2_20 v0))) h0) 0 0 (T.setTop (mkF m 20 #[.val (.int v0)] []))
    exact own_b2_20 X C hh v0
  · show own_Fin p e below s (own_QP (some (.int (own_f2_14 v0))) h0) 0 0 _
    rw [show (own_f2_14 v0) = (own_f2_38 v0) from if_neg hq]
    refine own_go (fun t => XS.icmpYes X.here hx rfl (pc0 := 17) (pc' := 38) rfl (hb hby own_d2_17) rfl (flt hq).2.2.2 (by decide) (by decide)) ?_
    show own_Fin p e below s (own_QP (some (.int (own_f2_38 v0))) h0) 0 0 (T.setTop (mkF m 38 #[.val (.int v0)] []))
    exact own_b2_38 X C hh v0
def own_f2_6 (v0 : Int32) : Int32 := if (983039 : Int32) < v0 then (own_f2_12 v0) else (own_f2_14 v0)
set_option maxRecDepth 65536 in
theorem own_b2_6 {l : Launch} {p : Program} {e : Env} {below : List Frame} {s : State} {m : MethodId} {meth : Method} {c : Code} {Z : State} {a0 args : Array Value} {T : State} {h0 : Heap} (X : Stand p l e ({ frames := 0, cells := 0, slots := 0, locals := 0 } : Room) s m args below meth c T [] 0 0) (C : own_Ctx p s m meth c Z a0 tables_1 (⟨"com/example/dovetail/dovetail/xml/XmlNamesMayStartPinLaw", "expected", "(I)Z"⟩ : MethodName) method_3_code 1 (some .boolean)) (hh : T.heap = h0) (v0 : Int32) :
    own_Fin p e below s (own_QP (some (.int (own_f2_6 v0))) h0) 0 0 (T.setTop (mkF m 6 #[.val (.int v0)] [])) := by
  obtain ⟨hx, hby, hml, hZ, hown, hnm, hret, hlk, hw⟩ := id C
  refine own_go (fun t => XS.iloadN X.here hx rfl (hb hby own_d2_6) rfl) ?_
  show own_Fin p e below s (own_QP (some (.int (own_f2_6 v0))) h0) 0 0 (T.setTop (mkF m 7 #[.val (.int v0)] [(.int v0)]))
  refine own_go (fun t => X.ldcInt hx hown (mvT hZ (hw _ (List.mem_of_getElem? (i := 21) rfl))) (g := (mkF m 7 #[.val (.int v0)] [(.int v0)])) rfl (hb hby own_d2_7) t) ?_
  show own_Fin p e below s (own_QP (some (.int (own_f2_6 v0))) h0) 0 0 (T.setTop (mkF m 9 #[.val (.int v0)] [(.int (983039 : Int32)), (.int v0)]))
  by_cases hq : (983039 : Int32) < v0
  · show own_Fin p e below s (own_QP (some (.int (own_f2_6 v0))) h0) 0 0 _
    rw [show (own_f2_6 v0) = (own_f2_12 v0) from if_pos hq]
    refine own_go (fun t => XS.icmpNo X.here hx rfl (hb hby own_d2_9) rfl (tlt hq).2.2.2) ?_
    show own_Fin p e below s (own_QP (some (.int (own_f2_12 v0))) h0) 0 0 (T.setTop (mkF m 12 #[.val (.int v0)] []))
    exact own_b2_12 X C hh v0
  · show own_Fin p e below s (own_QP (some (.int (own_f2_6 v0))) h0) 0 0 _
    rw [show (own_f2_6 v0) = (own_f2_14 v0) from if_neg hq]
    refine own_go (fun t => XS.icmpYes X.here hx rfl (pc0 := 9) (pc' := 14) rfl (hb hby own_d2_9) rfl (flt hq).2.2.2 (by decide) (by decide)) ?_
    show own_Fin p e below s (own_QP (some (.int (own_f2_14 v0))) h0) 0 0 (T.setTop (mkF m 14 #[.val (.int v0)] []))
    exact own_b2_14 X C hh v0
def own_f2_0 (v0 : Int32) : Int32 := if v0 < (65 : Int32) then (own_f2_12 v0) else (own_f2_6 v0)
set_option maxRecDepth 65536 in
theorem own_b2_0 {l : Launch} {p : Program} {e : Env} {below : List Frame} {s : State} {m : MethodId} {meth : Method} {c : Code} {Z : State} {a0 args : Array Value} {T : State} {h0 : Heap} (X : Stand p l e ({ frames := 0, cells := 0, slots := 0, locals := 0 } : Room) s m args below meth c T [] 0 0) (C : own_Ctx p s m meth c Z a0 tables_1 (⟨"com/example/dovetail/dovetail/xml/XmlNamesMayStartPinLaw", "expected", "(I)Z"⟩ : MethodName) method_3_code 1 (some .boolean)) (hh : T.heap = h0) (v0 : Int32) :
    own_Fin p e below s (own_QP (some (.int (own_f2_0 v0))) h0) 0 0 (T.setTop (mkF m 0 #[.val (.int v0)] [])) := by
  obtain ⟨hx, hby, hml, hZ, hown, hnm, hret, hlk, hw⟩ := id C
  refine own_go (fun t => XS.iloadN X.here hx rfl (hb hby own_d2_0) rfl) ?_
  show own_Fin p e below s (own_QP (some (.int (own_f2_0 v0))) h0) 0 0 (T.setTop (mkF m 1 #[.val (.int v0)] [(.int v0)]))
  refine own_go (fun t => XS.bipush X.here hx rfl (hb hby own_d2_1)) ?_
  show own_Fin p e below s (own_QP (some (.int (own_f2_0 v0))) h0) 0 0 (T.setTop (mkF m 3 #[.val (.int v0)] [(.int (65 : Int32)), (.int v0)]))
  by_cases hq : v0 < (65 : Int32)
  · show own_Fin p e below s (own_QP (some (.int (own_f2_0 v0))) h0) 0 0 _
    rw [show (own_f2_0 v0) = (own_f2_12 v0) from if_pos hq]
    refine own_go (fun t => XS.icmpYes X.here hx rfl (pc0 := 3) (pc' := 12) rfl (hb hby own_d2_3) rfl (tlt hq).1 (by decide) (by decide)) ?_
    show own_Fin p e below s (own_QP (some (.int (own_f2_12 v0))) h0) 0 0 (T.setTop (mkF m 12 #[.val (.int v0)] []))
    exact own_b2_12 X C hh v0
  · show own_Fin p e below s (own_QP (some (.int (own_f2_0 v0))) h0) 0 0 _
    rw [show (own_f2_0 v0) = (own_f2_6 v0) from if_neg hq]
    refine own_go (fun t => XS.icmpNo X.here hx rfl (hb hby own_d2_3) rfl (flt hq).1) ?_
    show own_Fin p e below s (own_QP (some (.int (own_f2_6 v0))) h0) 0 0 (T.setTop (mkF m 6 #[.val (.int v0)] []))
    exact own_b2_6 X C hh v0
theorem own_pn1 : plainName "com/example/dovetail/dovetail/xml/XmlNamesMayStartPinLaw" = true := by first | (simp [plainName, overriddenIn]; done) | decide +kernel
theorem own_c2 (l : Launch) (Z : State) (a0 : Array Value) (hw : ∀ d ∈ tables_1, d.before a0 Z = true) (x0 : Int32) (h0 : Heap) : own_Met l Z (⟨"com/example/dovetail/dovetail/xml/XmlNamesMayStartPinLaw", "expected", "(I)Z"⟩ : MethodName) method_3_code 1 (some .boolean) [] ({ frames := 0, cells := 0, slots := 0, locals := 0 } : Room) #[(.int x0)] h0 (own_QP (some (.int (own_f2_0 x0))) h0) :=
  own_enter (plainFor_of_name own_pn1) (own_ef2 x0) hw (fun p e s m below meth c T X C hh => own_b2_0 X C hh x0)
theorem own_same_0 {x : Int32} (h1 : -2147483648 ≤ x.toInt) (h2 : x.toInt ≤ 64) : (own_f1_0 x) = (own_f2_0 x) :=
  Eq.trans (((if_pos (own_lt (65) (by decide) (by omega)) : (own_f1_0 x) = (own_f1_12 x))).trans (((if_neg (own_ineq (95) (by decide) (by omega)) : (own_f1_12 x) = (own_f1_18 x))).trans (((if_pos (own_lt (97) (by decide) (by omega)) : (own_f1_18 x) = (own_f1_30 x))).trans (((if_pos (own_lt (192) (by decide) (by omega)) : (own_f1_30 x) = (own_f1_44 x))).trans (((if_pos (own_lt (216) (by decide) (by omega)) : (own_f1_44 x) = (own_f1_58 x))).trans (((if_pos (own_lt (248) (by decide) (by omega)) : (own_f1_58 x) = (own_f1_72 x))).trans (((if_pos (own_lt (880) (by decide) (by omega)) : (own_f1_72 x) = (own_f1_86 x))).trans (((if_pos (own_lt (895) (by decide) (by omega)) : (own_f1_86 x) = (own_f1_100 x))).trans (((if_pos (own_lt (8204) (by decide) (by omega)) : (own_f1_100 x) = (own_f1_114 x))).trans (((if_pos (own_lt (8304) (by decide) (by omega)) : (own_f1_114 x) = (own_f1_128 x))).trans (((if_pos (own_lt (11264) (by decide) (by omega)) : (own_f1_128 x) = (own_f1_142 x))).trans (((if_pos (own_lt (12289) (by decide) (by omega)) : (own_f1_142 x) = (own_f1_155 x))).trans (((if_pos (own_lt (63744) (by decide) (by omega)) : (own_f1_155 x) = (own_f1_167 x))).trans (((if_pos (own_lt (65008) (by decide) (by omega)) : (own_f1_167 x) = (own_f1_179 x))).trans ((if_pos (own_lt (65536) (by decide) (by omega)) : (own_f1_179 x) = (own_f1_195 x))))))))))))))))) (Eq.symm ((if_pos (own_lt (65) (by decide) (by omega)) : (own_f2_0 x) = (own_f2_12 x))))
theorem own_same_1 {x : Int32} (h1 : 65 ≤ x.toInt) (h2 : x.toInt ≤ 90) : (own_f1_0 x) = (own_f2_0 x) :=
  Eq.trans (((if_neg (own_nlt (65) (by decide) (by omega)) : (own_f1_0 x) = (own_f1_6 x))).trans ((if_neg (own_ngt (90) (by decide) (by omega)) : (own_f1_6 x) = (own_f1_191 x)))) (Eq.symm (((if_neg (own_nlt (65) (by decide) (by omega)) : (own_f2_0 x) = (own_f2_6 x))).trans (((if_neg (own_ngt (983039) (by decide) (by omega)) : (own_f2_6 x) = (own_f2_14 x))).trans (((if_neg (own_ngt (90) (by decide) (by omega)) : (own_f2_14 x) = (own_f2_38 x))).trans (((if_neg (own_ngt (122) (by decide) (by omega)) : (own_f2_38 x) = (own_f2_53 x))).trans (((if_neg (own_ineq (215) (by decide) (by omega)) : (own_f2_53 x) = (own_f2_60 x))).trans (((if_neg (own_ineq (247) (by decide) (by omega)) : (own_f2_60 x) = (own_f2_69 x))).trans (((if_pos (own_lt (768) (by decide) (by omega)) : (own_f2_69 x) = (own_f2_85 x))).trans (((if_neg (own_ineq (894) (by decide) (by omega)) : (own_f2_85 x) = (own_f2_94 x))).trans (((if_pos (own_lt (8192) (by decide) (by omega)) : (own_f2_94 x) = (own_f2_110 x))).trans (((if_pos (own_lt (8206) (by decide) (by omega)) : (own_f2_110 x) = (own_f2_126 x))).trans (((if_pos (own_lt (8592) (by decide) (by omega)) : (own_f2_126 x) = (own_f2_142 x))).trans (((if_pos (own_lt (12272) (by decide) (by omega)) : (own_f2_142 x) = (own_f2_158 x))).trans (((if_pos (own_lt (55296) (by decide) (by omega)) : (own_f2_158 x) = (own_f2_172 x))).trans (((if_pos (own_lt (64976) (by decide) (by omega)) : (own_f2_172 x) = (own_f2_186 x))).trans (((if_neg (own_ineq (65534) (by decide) (by omega)) : (own_f2_186 x) = (own_f2_192 x))).trans ((if_neg (own_ineq (65535) (by decide) (by omega)) : (own_f2_192 x) = (own_f2_200 x)))))))))))))))))))
theorem own_same_2 {x : Int32} (h1 : 91 ≤ x.toInt) (h2 : x.toInt ≤ 94) : (own_f1_0 x) = (own_f2_0 x) :=
  Eq.trans (((if_neg (own_nlt (65) (by decide) (by omega)) : (own_f1_0 x) = (own_f1_6 x))).trans (((if_pos (own_gt (90) (by decide) (by omega)) : (own_f1_6 x) = (own_f1_12 x))).trans (((if_neg (own_ineq (95) (by decide) (by omega)) : (own_f1_12 x) = (own_f1_18 x))).trans (((if_pos (own_lt (97) (by decide) (by omega)) : (own_f1_18 x) = (own_f1_30 x))).trans (((if_pos (own_lt (192) (by decide) (by omega)) : (own_f1_30 x) = (own_f1_44 x))).trans (((if_pos (own_lt (216) (by decide) (by omega)) : (own_f1_44 x) = (own_f1_58 x))).trans (((if_pos (own_lt (248) (by decide) (by omega)) : (own_f1_58 x) = (own_f1_72 x))).trans (((if_pos (own_lt (880) (by decide) (by omega)) : (own_f1_72 x) = (own_f1_86 x))).trans (((if_pos (own_lt (895) (by decide) (by omega)) : (own_f1_86 x) = (own_f1_100 x))).trans (((if_pos (own_lt (8204) (by decide) (by omega)) : (own_f1_100 x) = (own_f1_114 x))).trans (((if_pos (own_lt (8304) (by decide) (by omega)) : (own_f1_114 x) = (own_f1_128 x))).trans (((if_pos (own_lt (11264) (by decide) (by omega)) : (own_f1_128 x) = (own_f1_142 x))).trans (((if_pos (own_lt (12289) (by decide) (by omega)) : (own_f1_142 x) = (own_f1_155 x))).trans (((if_pos (own_lt (63744) (by decide) (by omega)) : (own_f1_155 x) = (own_f1_167 x))).trans (((if_pos (own_lt (65008) (by decide) (by omega)) : (own_f1_167 x) = (own_f1_179 x))).trans ((if_pos (own_lt (65536) (by decide) (by omega)) : (own_f1_179 x) = (own_f1_195 x)))))))))))))))))) (Eq.symm (((if_neg (own_nlt (65) (by decide) (by omega)) : (own_f2_0 x) = (own_f2_6 x))).trans (((if_neg (own_ngt (983039) (by decide) (by omega)) : (own_f2_6 x) = (own_f2_14 x))).trans (((if_pos (own_gt (90) (by decide) (by omega)) : (own_f2_14 x) = (own_f2_20 x))).trans (((if_pos (own_lt (97) (by decide) (by omega)) : (own_f2_20 x) = (own_f2_26 x))).trans ((if_neg (own_ineq (95) (by decide) (by omega)) : (own_f2_26 x) = (own_f2_36 x))))))))
theorem own_same_3 {x : Int32} (h1 : 95 ≤ x.toInt) (h2 : x.toInt ≤ 95) : (own_f1_0 x) = (own_f2_0 x) :=
  Eq.trans (((if_neg (own_nlt (65) (by decide) (by omega)) : (own_f1_0 x) = (own_f1_6 x))).trans (((if_pos (own_gt (90) (by decide) (by omega)) : (own_f1_6 x) = (own_f1_12 x))).trans ((if_pos (own_ieq (95) (by decide) (by omega)) : (own_f1_12 x) = (own_f1_191 x))))) (Eq.symm (((if_neg (own_nlt (65) (by decide) (by omega)) : (own_f2_0 x) = (own_f2_6 x))).trans (((if_neg (own_ngt (983039) (by decide) (by omega)) : (own_f2_6 x) = (own_f2_14 x))).trans (((if_pos (own_gt (90) (by decide) (by omega)) : (own_f2_14 x) = (own_f2_20 x))).trans (((if_pos (own_lt (97) (by decide) (by omega)) : (own_f2_20 x) = (own_f2_26 x))).trans ((if_pos (own_ieq (95) (by decide) (by omega)) : (own_f2_26 x) = (own_f2_32 x))))))))
theorem own_same_4 {x : Int32} (h1 : 96 ≤ x.toInt) (h2 : x.toInt ≤ 96) : (own_f1_0 x) = (own_f2_0 x) :=
  Eq.trans (((if_neg (own_nlt (65) (by decide) (by omega)) : (own_f1_0 x) = (own_f1_6 x))).trans (((if_pos (own_gt (90) (by decide) (by omega)) : (own_f1_6 x) = (own_f1_12 x))).trans (((if_neg (own_ineq (95) (by decide) (by omega)) : (own_f1_12 x) = (own_f1_18 x))).trans (((if_pos (own_lt (97) (by decide) (by omega)) : (own_f1_18 x) = (own_f1_30 x))).trans (((if_pos (own_lt (192) (by decide) (by omega)) : (own_f1_30 x) = (own_f1_44 x))).trans (((if_pos (own_lt (216) (by decide) (by omega)) : (own_f1_44 x) = (own_f1_58 x))).trans (((if_pos (own_lt (248) (by decide) (by omega)) : (own_f1_58 x) = (own_f1_72 x))).trans (((if_pos (own_lt (880) (by decide) (by omega)) : (own_f1_72 x) = (own_f1_86 x))).trans (((if_pos (own_lt (895) (by decide) (by omega)) : (own_f1_86 x) = (own_f1_100 x))).trans (((if_pos (own_lt (8204) (by decide) (by omega)) : (own_f1_100 x) = (own_f1_114 x))).trans (((if_pos (own_lt (8304) (by decide) (by omega)) : (own_f1_114 x) = (own_f1_128 x))).trans (((if_pos (own_lt (11264) (by decide) (by omega)) : (own_f1_128 x) = (own_f1_142 x))).trans (((if_pos (own_lt (12289) (by decide) (by omega)) : (own_f1_142 x) = (own_f1_155 x))).trans (((if_pos (own_lt (63744) (by decide) (by omega)) : (own_f1_155 x) = (own_f1_167 x))).trans (((if_pos (own_lt (65008) (by decide) (by omega)) : (own_f1_167 x) = (own_f1_179 x))).trans ((if_pos (own_lt (65536) (by decide) (by omega)) : (own_f1_179 x) = (own_f1_195 x)))))))))))))))))) (Eq.symm (((if_neg (own_nlt (65) (by decide) (by omega)) : (own_f2_0 x) = (own_f2_6 x))).trans (((if_neg (own_ngt (983039) (by decide) (by omega)) : (own_f2_6 x) = (own_f2_14 x))).trans (((if_pos (own_gt (90) (by decide) (by omega)) : (own_f2_14 x) = (own_f2_20 x))).trans (((if_pos (own_lt (97) (by decide) (by omega)) : (own_f2_20 x) = (own_f2_26 x))).trans ((if_neg (own_ineq (95) (by decide) (by omega)) : (own_f2_26 x) = (own_f2_36 x))))))))
theorem own_same_5 {x : Int32} (h1 : 97 ≤ x.toInt) (h2 : x.toInt ≤ 122) : (own_f1_0 x) = (own_f2_0 x) :=
  Eq.trans (((if_neg (own_nlt (65) (by decide) (by omega)) : (own_f1_0 x) = (own_f1_6 x))).trans (((if_pos (own_gt (90) (by decide) (by omega)) : (own_f1_6 x) = (own_f1_12 x))).trans (((if_neg (own_ineq (95) (by decide) (by omega)) : (own_f1_12 x) = (own_f1_18 x))).trans (((if_neg (own_nlt (97) (by decide) (by omega)) : (own_f1_18 x) = (own_f1_24 x))).trans ((if_neg (own_ngt (122) (by decide) (by omega)) : (own_f1_24 x) = (own_f1_191 x))))))) (Eq.symm (((if_neg (own_nlt (65) (by decide) (by omega)) : (own_f2_0 x) = (own_f2_6 x))).trans (((if_neg (own_ngt (983039) (by decide) (by omega)) : (own_f2_6 x) = (own_f2_14 x))).trans (((if_pos (own_gt (90) (by decide) (by omega)) : (own_f2_14 x) = (own_f2_20 x))).trans (((if_neg (own_nlt (97) (by decide) (by omega)) : (own_f2_20 x) = (own_f2_38 x))).trans (((if_neg (own_ngt (122) (by decide) (by omega)) : (own_f2_38 x) = (own_f2_53 x))).trans (((if_neg (own_ineq (215) (by decide) (by omega)) : (own_f2_53 x) = (own_f2_60 x))).trans (((if_neg (own_ineq (247) (by decide) (by omega)) : (own_f2_60 x) = (own_f2_69 x))).trans (((if_pos (own_lt (768) (by decide) (by omega)) : (own_f2_69 x) = (own_f2_85 x))).trans (((if_neg (own_ineq (894) (by decide) (by omega)) : (own_f2_85 x) = (own_f2_94 x))).trans (((if_pos (own_lt (8192) (by decide) (by omega)) : (own_f2_94 x) = (own_f2_110 x))).trans (((if_pos (own_lt (8206) (by decide) (by omega)) : (own_f2_110 x) = (own_f2_126 x))).trans (((if_pos (own_lt (8592) (by decide) (by omega)) : (own_f2_126 x) = (own_f2_142 x))).trans (((if_pos (own_lt (12272) (by decide) (by omega)) : (own_f2_142 x) = (own_f2_158 x))).trans (((if_pos (own_lt (55296) (by decide) (by omega)) : (own_f2_158 x) = (own_f2_172 x))).trans (((if_pos (own_lt (64976) (by decide) (by omega)) : (own_f2_172 x) = (own_f2_186 x))).trans (((if_neg (own_ineq (65534) (by decide) (by omega)) : (own_f2_186 x) = (own_f2_192 x))).trans ((if_neg (own_ineq (65535) (by decide) (by omega)) : (own_f2_192 x) = (own_f2_200 x))))))))))))))))))))
theorem own_same_6 {x : Int32} (h1 : 123 ≤ x.toInt) (h2 : x.toInt ≤ 191) : (own_f1_0 x) = (own_f2_0 x) :=
  Eq.trans (((if_neg (own_nlt (65) (by decide) (by omega)) : (own_f1_0 x) = (own_f1_6 x))).trans (((if_pos (own_gt (90) (by decide) (by omega)) : (own_f1_6 x) = (own_f1_12 x))).trans (((if_neg (own_ineq (95) (by decide) (by omega)) : (own_f1_12 x) = (own_f1_18 x))).trans (((if_neg (own_nlt (97) (by decide) (by omega)) : (own_f1_18 x) = (own_f1_24 x))).trans (((if_pos (own_gt (122) (by decide) (by omega)) : (own_f1_24 x) = (own_f1_30 x))).trans (((if_pos (own_lt (192) (by decide) (by omega)) : (own_f1_30 x) = (own_f1_44 x))).trans (((if_pos (own_lt (216) (by decide) (by omega)) : (own_f1_44 x) = (own_f1_58 x))).trans (((if_pos (own_lt (248) (by decide) (by omega)) : (own_f1_58 x) = (own_f1_72 x))).trans (((if_pos (own_lt (880) (by decide) (by omega)) : (own_f1_72 x) = (own_f1_86 x))).trans (((if_pos (own_lt (895) (by decide) (by omega)) : (own_f1_86 x) = (own_f1_100 x))).trans (((if_pos (own_lt (8204) (by decide) (by omega)) : (own_f1_100 x) = (own_f1_114 x))).trans (((if_pos (own_lt (8304) (by decide) (by omega)) : (own_f1_114 x) = (own_f1_128 x))).trans (((if_pos (own_lt (11264) (by decide) (by omega)) : (own_f1_128 x) = (own_f1_142 x))).trans (((if_pos (own_lt (12289) (by decide) (by omega)) : (own_f1_142 x) = (own_f1_155 x))).trans (((if_pos (own_lt (63744) (by decide) (by omega)) : (own_f1_155 x) = (own_f1_167 x))).trans (((if_pos (own_lt (65008) (by decide) (by omega)) : (own_f1_167 x) = (own_f1_179 x))).trans ((if_pos (own_lt (65536) (by decide) (by omega)) : (own_f1_179 x) = (own_f1_195 x))))))))))))))))))) (Eq.symm (((if_neg (own_nlt (65) (by decide) (by omega)) : (own_f2_0 x) = (own_f2_6 x))).trans (((if_neg (own_ngt (983039) (by decide) (by omega)) : (own_f2_6 x) = (own_f2_14 x))).trans (((if_pos (own_gt (90) (by decide) (by omega)) : (own_f2_14 x) = (own_f2_20 x))).trans (((if_neg (own_nlt (97) (by decide) (by omega)) : (own_f2_20 x) = (own_f2_38 x))).trans (((if_pos (own_gt (122) (by decide) (by omega)) : (own_f2_38 x) = (own_f2_44 x))).trans ((if_pos (own_lt (192) (by decide) (by omega)) : (own_f2_44 x) = (own_f2_51 x)))))))))
theorem own_same_7 {x : Int32} (h1 : 192 ≤ x.toInt) (h2 : x.toInt ≤ 214) : (own_f1_0 x) = (own_f2_0 x) :=
  Eq.trans (((if_neg (own_nlt (65) (by decide) (by omega)) : (own_f1_0 x) = (own_f1_6 x))).trans (((if_pos (own_gt (90) (by decide) (by omega)) : (own_f1_6 x) = (own_f1_12 x))).trans (((if_neg (own_ineq (95) (by decide) (by omega)) : (own_f1_12 x) = (own_f1_18 x))).trans (((if_neg (own_nlt (97) (by decide) (by omega)) : (own_f1_18 x) = (own_f1_24 x))).trans (((if_pos (own_gt (122) (by decide) (by omega)) : (own_f1_24 x) = (own_f1_30 x))).trans (((if_neg (own_nlt (192) (by decide) (by omega)) : (own_f1_30 x) = (own_f1_37 x))).trans ((if_neg (own_ngt (214) (by decide) (by omega)) : (own_f1_37 x) = (own_f1_191 x))))))))) (Eq.symm (((if_neg (own_nlt (65) (by decide) (by omega)) : (own_f2_0 x) = (own_f2_6 x))).trans (((if_neg (own_ngt (983039) (by decide) (by omega)) : (own_f2_6 x) = (own_f2_14 x))).trans (((if_pos (own_gt (90) (by decide) (by omega)) : (own_f2_14 x) = (own_f2_20 x))).trans (((if_neg (own_nlt (97) (by decide) (by omega)) : (own_f2_20 x) = (own_f2_38 x))).trans (((if_pos (own_gt (122) (by decide) (by omega)) : (own_f2_38 x) = (own_f2_44 x))).trans (((if_neg (own_nlt (192) (by decide) (by omega)) : (own_f2_44 x) = (own_f2_53 x))).trans (((if_neg (own_ineq (215) (by decide) (by omega)) : (own_f2_53 x) = (own_f2_60 x))).trans (((if_neg (own_ineq (247) (by decide) (by omega)) : (own_f2_60 x) = (own_f2_69 x))).trans (((if_pos (own_lt (768) (by decide) (by omega)) : (own_f2_69 x) = (own_f2_85 x))).trans (((if_neg (own_ineq (894) (by decide) (by omega)) : (own_f2_85 x) = (own_f2_94 x))).trans (((if_pos (own_lt (8192) (by decide) (by omega)) : (own_f2_94 x) = (own_f2_110 x))).trans (((if_pos (own_lt (8206) (by decide) (by omega)) : (own_f2_110 x) = (own_f2_126 x))).trans (((if_pos (own_lt (8592) (by decide) (by omega)) : (own_f2_126 x) = (own_f2_142 x))).trans (((if_pos (own_lt (12272) (by decide) (by omega)) : (own_f2_142 x) = (own_f2_158 x))).trans (((if_pos (own_lt (55296) (by decide) (by omega)) : (own_f2_158 x) = (own_f2_172 x))).trans (((if_pos (own_lt (64976) (by decide) (by omega)) : (own_f2_172 x) = (own_f2_186 x))).trans (((if_neg (own_ineq (65534) (by decide) (by omega)) : (own_f2_186 x) = (own_f2_192 x))).trans ((if_neg (own_ineq (65535) (by decide) (by omega)) : (own_f2_192 x) = (own_f2_200 x)))))))))))))))))))))
theorem own_same_8 {x : Int32} (h1 : 215 ≤ x.toInt) (h2 : x.toInt ≤ 215) : (own_f1_0 x) = (own_f2_0 x) :=
  Eq.trans (((if_neg (own_nlt (65) (by decide) (by omega)) : (own_f1_0 x) = (own_f1_6 x))).trans (((if_pos (own_gt (90) (by decide) (by omega)) : (own_f1_6 x) = (own_f1_12 x))).trans (((if_neg (own_ineq (95) (by decide) (by omega)) : (own_f1_12 x) = (own_f1_18 x))).trans (((if_neg (own_nlt (97) (by decide) (by omega)) : (own_f1_18 x) = (own_f1_24 x))).trans (((if_pos (own_gt (122) (by decide) (by omega)) : (own_f1_24 x) = (own_f1_30 x))).trans (((if_neg (own_nlt (192) (by decide) (by omega)) : (own_f1_30 x) = (own_f1_37 x))).trans (((if_pos (own_gt (214) (by decide) (by omega)) : (own_f1_37 x) = (own_f1_44 x))).trans (((if_pos (own_lt (216) (by decide) (by omega)) : (own_f1_44 x) = (own_f1_58 x))).trans (((if_pos (own_lt (248) (by decide) (by omega)) : (own_f1_58 x) = (own_f1_72 x))).trans (((if_pos (own_lt (880) (by decide) (by omega)) : (own_f1_72 x) = (own_f1_86 x))).trans (((if_pos (own_lt (895) (by decide) (by omega)) : (own_f1_86 x) = (own_f1_100 x))).trans (((if_pos (own_lt (8204) (by decide) (by omega)) : (own_f1_100 x) = (own_f1_114 x))).trans (((if_pos (own_lt (8304) (by decide) (by omega)) : (own_f1_114 x) = (own_f1_128 x))).trans (((if_pos (own_lt (11264) (by decide) (by omega)) : (own_f1_128 x) = (own_f1_142 x))).trans (((if_pos (own_lt (12289) (by decide) (by omega)) : (own_f1_142 x) = (own_f1_155 x))).trans (((if_pos (own_lt (63744) (by decide) (by omega)) : (own_f1_155 x) = (own_f1_167 x))).trans (((if_pos (own_lt (65008) (by decide) (by omega)) : (own_f1_167 x) = (own_f1_179 x))).trans ((if_pos (own_lt (65536) (by decide) (by omega)) : (own_f1_179 x) = (own_f1_195 x)))))))))))))))))))) (Eq.symm (((if_neg (own_nlt (65) (by decide) (by omega)) : (own_f2_0 x) = (own_f2_6 x))).trans (((if_neg (own_ngt (983039) (by decide) (by omega)) : (own_f2_6 x) = (own_f2_14 x))).trans (((if_pos (own_gt (90) (by decide) (by omega)) : (own_f2_14 x) = (own_f2_20 x))).trans (((if_neg (own_nlt (97) (by decide) (by omega)) : (own_f2_20 x) = (own_f2_38 x))).trans (((if_pos (own_gt (122) (by decide) (by omega)) : (own_f2_38 x) = (own_f2_44 x))).trans (((if_neg (own_nlt (192) (by decide) (by omega)) : (own_f2_44 x) = (own_f2_53 x))).trans ((if_pos (own_ieq (215) (by decide) (by omega)) : (own_f2_53 x) = (own_f2_67 x))))))))))
theorem own_same_9 {x : Int32} (h1 : 216 ≤ x.toInt) (h2 : x.toInt ≤ 246) : (own_f1_0 x) = (own_f2_0 x) :=
  Eq.trans (((if_neg (own_nlt (65) (by decide) (by omega)) : (own_f1_0 x) = (own_f1_6 x))).trans (((if_pos (own_gt (90) (by decide) (by omega)) : (own_f1_6 x) = (own_f1_12 x))).trans (((if_neg (own_ineq (95) (by decide) (by omega)) : (own_f1_12 x) = (own_f1_18 x))).trans (((if_neg (own_nlt (97) (by decide) (by omega)) : (own_f1_18 x) = (own_f1_24 x))).trans (((if_pos (own_gt (122) (by decide) (by omega)) : (own_f1_24 x) = (own_f1_30 x))).trans (((if_neg (own_nlt (192) (by decide) (by omega)) : (own_f1_30 x) = (own_f1_37 x))).trans (((if_pos (own_gt (214) (by decide) (by omega)) : (own_f1_37 x) = (own_f1_44 x))).trans (((if_neg (own_nlt (216) (by decide) (by omega)) : (own_f1_44 x) = (own_f1_51 x))).trans ((if_neg (own_ngt (246) (by decide) (by omega)) : (own_f1_51 x) = (own_f1_191 x))))))))))) (Eq.symm (((if_neg (own_nlt (65) (by decide) (by omega)) : (own_f2_0 x) = (own_f2_6 x))).trans (((if_neg (own_ngt (983039) (by decide) (by omega)) : (own_f2_6 x) = (own_f2_14 x))).trans (((if_pos (own_gt (90) (by decide) (by omega)) : (own_f2_14 x) = (own_f2_20 x))).trans (((if_neg (own_nlt (97) (by decide) (by omega)) : (own_f2_20 x) = (own_f2_38 x))).trans (((if_pos (own_gt (122) (by decide) (by omega)) : (own_f2_38 x) = (own_f2_44 x))).trans (((if_neg (own_nlt (192) (by decide) (by omega)) : (own_f2_44 x) = (own_f2_53 x))).trans (((if_neg (own_ineq (215) (by decide) (by omega)) : (own_f2_53 x) = (own_f2_60 x))).trans (((if_neg (own_ineq (247) (by decide) (by omega)) : (own_f2_60 x) = (own_f2_69 x))).trans (((if_pos (own_lt (768) (by decide) (by omega)) : (own_f2_69 x) = (own_f2_85 x))).trans (((if_neg (own_ineq (894) (by decide) (by omega)) : (own_f2_85 x) = (own_f2_94 x))).trans (((if_pos (own_lt (8192) (by decide) (by omega)) : (own_f2_94 x) = (own_f2_110 x))).trans (((if_pos (own_lt (8206) (by decide) (by omega)) : (own_f2_110 x) = (own_f2_126 x))).trans (((if_pos (own_lt (8592) (by decide) (by omega)) : (own_f2_126 x) = (own_f2_142 x))).trans (((if_pos (own_lt (12272) (by decide) (by omega)) : (own_f2_142 x) = (own_f2_158 x))).trans (((if_pos (own_lt (55296) (by decide) (by omega)) : (own_f2_158 x) = (own_f2_172 x))).trans (((if_pos (own_lt (64976) (by decide) (by omega)) : (own_f2_172 x) = (own_f2_186 x))).trans (((if_neg (own_ineq (65534) (by decide) (by omega)) : (own_f2_186 x) = (own_f2_192 x))).trans ((if_neg (own_ineq (65535) (by decide) (by omega)) : (own_f2_192 x) = (own_f2_200 x)))))))))))))))))))))
theorem own_same_10 {x : Int32} (h1 : 247 ≤ x.toInt) (h2 : x.toInt ≤ 247) : (own_f1_0 x) = (own_f2_0 x) :=
  Eq.trans (((if_neg (own_nlt (65) (by decide) (by omega)) : (own_f1_0 x) = (own_f1_6 x))).trans (((if_pos (own_gt (90) (by decide) (by omega)) : (own_f1_6 x) = (own_f1_12 x))).trans (((if_neg (own_ineq (95) (by decide) (by omega)) : (own_f1_12 x) = (own_f1_18 x))).trans (((if_neg (own_nlt (97) (by decide) (by omega)) : (own_f1_18 x) = (own_f1_24 x))).trans (((if_pos (own_gt (122) (by decide) (by omega)) : (own_f1_24 x) = (own_f1_30 x))).trans (((if_neg (own_nlt (192) (by decide) (by omega)) : (own_f1_30 x) = (own_f1_37 x))).trans (((if_pos (own_gt (214) (by decide) (by omega)) : (own_f1_37 x) = (own_f1_44 x))).trans (((if_neg (own_nlt (216) (by decide) (by omega)) : (own_f1_44 x) = (own_f1_51 x))).trans (((if_pos (own_gt (246) (by decide) (by omega)) : (own_f1_51 x) = (own_f1_58 x))).trans (((if_pos (own_lt (248) (by decide) (by omega)) : (own_f1_58 x) = (own_f1_72 x))).trans (((if_pos (own_lt (880) (by decide) (by omega)) : (own_f1_72 x) = (own_f1_86 x))).trans (((if_pos (own_lt (895) (by decide) (by omega)) : (own_f1_86 x) = (own_f1_100 x))).trans (((if_pos (own_lt (8204) (by decide) (by omega)) : (own_f1_100 x) = (own_f1_114 x))).trans (((if_pos (own_lt (8304) (by decide) (by omega)) : (own_f1_114 x) = (own_f1_128 x))).trans (((if_pos (own_lt (11264) (by decide) (by omega)) : (own_f1_128 x) = (own_f1_142 x))).trans (((if_pos (own_lt (12289) (by decide) (by omega)) : (own_f1_142 x) = (own_f1_155 x))).trans (((if_pos (own_lt (63744) (by decide) (by omega)) : (own_f1_155 x) = (own_f1_167 x))).trans (((if_pos (own_lt (65008) (by decide) (by omega)) : (own_f1_167 x) = (own_f1_179 x))).trans ((if_pos (own_lt (65536) (by decide) (by omega)) : (own_f1_179 x) = (own_f1_195 x))))))))))))))))))))) (Eq.symm (((if_neg (own_nlt (65) (by decide) (by omega)) : (own_f2_0 x) = (own_f2_6 x))).trans (((if_neg (own_ngt (983039) (by decide) (by omega)) : (own_f2_6 x) = (own_f2_14 x))).trans (((if_pos (own_gt (90) (by decide) (by omega)) : (own_f2_14 x) = (own_f2_20 x))).trans (((if_neg (own_nlt (97) (by decide) (by omega)) : (own_f2_20 x) = (own_f2_38 x))).trans (((if_pos (own_gt (122) (by decide) (by omega)) : (own_f2_38 x) = (own_f2_44 x))).trans (((if_neg (own_nlt (192) (by decide) (by omega)) : (own_f2_44 x) = (own_f2_53 x))).trans (((if_neg (own_ineq (215) (by decide) (by omega)) : (own_f2_53 x) = (own_f2_60 x))).trans ((if_pos (own_ieq (247) (by decide) (by omega)) : (own_f2_60 x) = (own_f2_67 x)))))))))))
theorem own_same_11 {x : Int32} (h1 : 248 ≤ x.toInt) (h2 : x.toInt ≤ 767) : (own_f1_0 x) = (own_f2_0 x) :=
  Eq.trans (((if_neg (own_nlt (65) (by decide) (by omega)) : (own_f1_0 x) = (own_f1_6 x))).trans (((if_pos (own_gt (90) (by decide) (by omega)) : (own_f1_6 x) = (own_f1_12 x))).trans (((if_neg (own_ineq (95) (by decide) (by omega)) : (own_f1_12 x) = (own_f1_18 x))).trans (((if_neg (own_nlt (97) (by decide) (by omega)) : (own_f1_18 x) = (own_f1_24 x))).trans (((if_pos (own_gt (122) (by decide) (by omega)) : (own_f1_24 x) = (own_f1_30 x))).trans (((if_neg (own_nlt (192) (by decide) (by omega)) : (own_f1_30 x) = (own_f1_37 x))).trans (((if_pos (own_gt (214) (by decide) (by omega)) : (own_f1_37 x) = (own_f1_44 x))).trans (((if_neg (own_nlt (216) (by decide) (by omega)) : (own_f1_44 x) = (own_f1_51 x))).trans (((if_pos (own_gt (246) (by decide) (by omega)) : (own_f1_51 x) = (own_f1_58 x))).trans (((if_neg (own_nlt (248) (by decide) (by omega)) : (own_f1_58 x) = (own_f1_65 x))).trans ((if_neg (own_ngt (767) (by decide) (by omega)) : (own_f1_65 x) = (own_f1_191 x))))))))))))) (Eq.symm (((if_neg (own_nlt (65) (by decide) (by omega)) : (own_f2_0 x) = (own_f2_6 x))).trans (((if_neg (own_ngt (983039) (by decide) (by omega)) : (own_f2_6 x) = (own_f2_14 x))).trans (((if_pos (own_gt (90) (by decide) (by omega)) : (own_f2_14 x) = (own_f2_20 x))).trans (((if_neg (own_nlt (97) (by decide) (by omega)) : (own_f2_20 x) = (own_f2_38 x))).trans (((if_pos (own_gt (122) (by decide) (by omega)) : (own_f2_38 x) = (own_f2_44 x))).trans (((if_neg (own_nlt (192) (by decide) (by omega)) : (own_f2_44 x) = (own_f2_53 x))).trans (((if_neg (own_ineq (215) (by decide) (by omega)) : (own_f2_53 x) = (own_f2_60 x))).trans (((if_neg (own_ineq (247) (by decide) (by omega)) : (own_f2_60 x) = (own_f2_69 x))).trans (((if_pos (own_lt (768) (by decide) (by omega)) : (own_f2_69 x) = (own_f2_85 x))).trans (((if_neg (own_ineq (894) (by decide) (by omega)) : (own_f2_85 x) = (own_f2_94 x))).trans (((if_pos (own_lt (8192) (by decide) (by omega)) : (own_f2_94 x) = (own_f2_110 x))).trans (((if_pos (own_lt (8206) (by decide) (by omega)) : (own_f2_110 x) = (own_f2_126 x))).trans (((if_pos (own_lt (8592) (by decide) (by omega)) : (own_f2_126 x) = (own_f2_142 x))).trans (((if_pos (own_lt (12272) (by decide) (by omega)) : (own_f2_142 x) = (own_f2_158 x))).trans (((if_pos (own_lt (55296) (by decide) (by omega)) : (own_f2_158 x) = (own_f2_172 x))).trans (((if_pos (own_lt (64976) (by decide) (by omega)) : (own_f2_172 x) = (own_f2_186 x))).trans (((if_neg (own_ineq (65534) (by decide) (by omega)) : (own_f2_186 x) = (own_f2_192 x))).trans ((if_neg (own_ineq (65535) (by decide) (by omega)) : (own_f2_192 x) = (own_f2_200 x)))))))))))))))))))))
theorem own_same_12 {x : Int32} (h1 : 768 ≤ x.toInt) (h2 : x.toInt ≤ 879) : (own_f1_0 x) = (own_f2_0 x) :=
  Eq.trans (((if_neg (own_nlt (65) (by decide) (by omega)) : (own_f1_0 x) = (own_f1_6 x))).trans (((if_pos (own_gt (90) (by decide) (by omega)) : (own_f1_6 x) = (own_f1_12 x))).trans (((if_neg (own_ineq (95) (by decide) (by omega)) : (own_f1_12 x) = (own_f1_18 x))).trans (((if_neg (own_nlt (97) (by decide) (by omega)) : (own_f1_18 x) = (own_f1_24 x))).trans (((if_pos (own_gt (122) (by decide) (by omega)) : (own_f1_24 x) = (own_f1_30 x))).trans (((if_neg (own_nlt (192) (by decide) (by omega)) : (own_f1_30 x) = (own_f1_37 x))).trans (((if_pos (own_gt (214) (by decide) (by omega)) : (own_f1_37 x) = (own_f1_44 x))).trans (((if_neg (own_nlt (216) (by decide) (by omega)) : (own_f1_44 x) = (own_f1_51 x))).trans (((if_pos (own_gt (246) (by decide) (by omega)) : (own_f1_51 x) = (own_f1_58 x))).trans (((if_neg (own_nlt (248) (by decide) (by omega)) : (own_f1_58 x) = (own_f1_65 x))).trans (((if_pos (own_gt (767) (by decide) (by omega)) : (own_f1_65 x) = (own_f1_72 x))).trans (((if_pos (own_lt (880) (by decide) (by omega)) : (own_f1_72 x) = (own_f1_86 x))).trans (((if_pos (own_lt (895) (by decide) (by omega)) : (own_f1_86 x) = (own_f1_100 x))).trans (((if_pos (own_lt (8204) (by decide) (by omega)) : (own_f1_100 x) = (own_f1_114 x))).trans (((if_pos (own_lt (8304) (by decide) (by omega)) : (own_f1_114 x) = (own_f1_128 x))).trans (((if_pos (own_lt (11264) (by decide) (by omega)) : (own_f1_128 x) = (own_f1_142 x))).trans (((if_pos (own_lt (12289) (by decide) (by omega)) : (own_f1_142 x) = (own_f1_155 x))).trans (((if_pos (own_lt (63744) (by decide) (by omega)) : (own_f1_155 x) = (own_f1_167 x))).trans (((if_pos (own_lt (65008) (by decide) (by omega)) : (own_f1_167 x) = (own_f1_179 x))).trans ((if_pos (own_lt (65536) (by decide) (by omega)) : (own_f1_179 x) = (own_f1_195 x)))))))))))))))))))))) (Eq.symm (((if_neg (own_nlt (65) (by decide) (by omega)) : (own_f2_0 x) = (own_f2_6 x))).trans (((if_neg (own_ngt (983039) (by decide) (by omega)) : (own_f2_6 x) = (own_f2_14 x))).trans (((if_pos (own_gt (90) (by decide) (by omega)) : (own_f2_14 x) = (own_f2_20 x))).trans (((if_neg (own_nlt (97) (by decide) (by omega)) : (own_f2_20 x) = (own_f2_38 x))).trans (((if_pos (own_gt (122) (by decide) (by omega)) : (own_f2_38 x) = (own_f2_44 x))).trans (((if_neg (own_nlt (192) (by decide) (by omega)) : (own_f2_44 x) = (own_f2_53 x))).trans (((if_neg (own_ineq (215) (by decide) (by omega)) : (own_f2_53 x) = (own_f2_60 x))).trans (((if_neg (own_ineq (247) (by decide) (by omega)) : (own_f2_60 x) = (own_f2_69 x))).trans (((if_neg (own_nlt (768) (by decide) (by omega)) : (own_f2_69 x) = (own_f2_76 x))).trans ((if_neg (own_ngt (879) (by decide) (by omega)) : (own_f2_76 x) = (own_f2_83 x)))))))))))))
theorem own_same_13 {x : Int32} (h1 : 880 ≤ x.toInt) (h2 : x.toInt ≤ 893) : (own_f1_0 x) = (own_f2_0 x) :=
  Eq.trans (((if_neg (own_nlt (65) (by decide) (by omega)) : (own_f1_0 x) = (own_f1_6 x))).trans (((if_pos (own_gt (90) (by decide) (by omega)) : (own_f1_6 x) = (own_f1_12 x))).trans (((if_neg (own_ineq (95) (by decide) (by omega)) : (own_f1_12 x) = (own_f1_18 x))).trans (((if_neg (own_nlt (97) (by decide) (by omega)) : (own_f1_18 x) = (own_f1_24 x))).trans (((if_pos (own_gt (122) (by decide) (by omega)) : (own_f1_24 x) = (own_f1_30 x))).trans (((if_neg (own_nlt (192) (by decide) (by omega)) : (own_f1_30 x) = (own_f1_37 x))).trans (((if_pos (own_gt (214) (by decide) (by omega)) : (own_f1_37 x) = (own_f1_44 x))).trans (((if_neg (own_nlt (216) (by decide) (by omega)) : (own_f1_44 x) = (own_f1_51 x))).trans (((if_pos (own_gt (246) (by decide) (by omega)) : (own_f1_51 x) = (own_f1_58 x))).trans (((if_neg (own_nlt (248) (by decide) (by omega)) : (own_f1_58 x) = (own_f1_65 x))).trans (((if_pos (own_gt (767) (by decide) (by omega)) : (own_f1_65 x) = (own_f1_72 x))).trans (((if_neg (own_nlt (880) (by decide) (by omega)) : (own_f1_72 x) = (own_f1_79 x))).trans ((if_neg (own_ngt (893) (by decide) (by omega)) : (own_f1_79 x) = (own_f1_191 x))))))))))))))) (Eq.symm (((if_neg (own_nlt (65) (by decide) (by omega)) : (own_f2_0 x) = (own_f2_6 x))).trans (((if_neg (own_ngt (983039) (by decide) (by omega)) : (own_f2_6 x) = (own_f2_14 x))).trans (((if_pos (own_gt (90) (by decide) (by omega)) : (own_f2_14 x) = (own_f2_20 x))).trans (((if_neg (own_nlt (97) (by decide) (by omega)) : (own_f2_20 x) = (own_f2_38 x))).trans (((if_pos (own_gt (122) (by decide) (by omega)) : (own_f2_38 x) = (own_f2_44 x))).trans (((if_neg (own_nlt (192) (by decide) (by omega)) : (own_f2_44 x) = (own_f2_53 x))).trans (((if_neg (own_ineq (215) (by decide) (by omega)) : (own_f2_53 x) = (own_f2_60 x))).trans (((if_neg (own_ineq (247) (by decide) (by omega)) : (own_f2_60 x) = (own_f2_69 x))).trans (((if_neg (own_nlt (768) (by decide) (by omega)) : (own_f2_69 x) = (own_f2_76 x))).trans (((if_pos (own_gt (879) (by decide) (by omega)) : (own_f2_76 x) = (own_f2_85 x))).trans (((if_neg (own_ineq (894) (by decide) (by omega)) : (own_f2_85 x) = (own_f2_94 x))).trans (((if_pos (own_lt (8192) (by decide) (by omega)) : (own_f2_94 x) = (own_f2_110 x))).trans (((if_pos (own_lt (8206) (by decide) (by omega)) : (own_f2_110 x) = (own_f2_126 x))).trans (((if_pos (own_lt (8592) (by decide) (by omega)) : (own_f2_126 x) = (own_f2_142 x))).trans (((if_pos (own_lt (12272) (by decide) (by omega)) : (own_f2_142 x) = (own_f2_158 x))).trans (((if_pos (own_lt (55296) (by decide) (by omega)) : (own_f2_158 x) = (own_f2_172 x))).trans (((if_pos (own_lt (64976) (by decide) (by omega)) : (own_f2_172 x) = (own_f2_186 x))).trans (((if_neg (own_ineq (65534) (by decide) (by omega)) : (own_f2_186 x) = (own_f2_192 x))).trans ((if_neg (own_ineq (65535) (by decide) (by omega)) : (own_f2_192 x) = (own_f2_200 x))))))))))))))))))))))
theorem own_same_14 {x : Int32} (h1 : 894 ≤ x.toInt) (h2 : x.toInt ≤ 894) : (own_f1_0 x) = (own_f2_0 x) :=
  Eq.trans (((if_neg (own_nlt (65) (by decide) (by omega)) : (own_f1_0 x) = (own_f1_6 x))).trans (((if_pos (own_gt (90) (by decide) (by omega)) : (own_f1_6 x) = (own_f1_12 x))).trans (((if_neg (own_ineq (95) (by decide) (by omega)) : (own_f1_12 x) = (own_f1_18 x))).trans (((if_neg (own_nlt (97) (by decide) (by omega)) : (own_f1_18 x) = (own_f1_24 x))).trans (((if_pos (own_gt (122) (by decide) (by omega)) : (own_f1_24 x) = (own_f1_30 x))).trans (((if_neg (own_nlt (192) (by decide) (by omega)) : (own_f1_30 x) = (own_f1_37 x))).trans (((if_pos (own_gt (214) (by decide) (by omega)) : (own_f1_37 x) = (own_f1_44 x))).trans (((if_neg (own_nlt (216) (by decide) (by omega)) : (own_f1_44 x) = (own_f1_51 x))).trans (((if_pos (own_gt (246) (by decide) (by omega)) : (own_f1_51 x) = (own_f1_58 x))).trans (((if_neg (own_nlt (248) (by decide) (by omega)) : (own_f1_58 x) = (own_f1_65 x))).trans (((if_pos (own_gt (767) (by decide) (by omega)) : (own_f1_65 x) = (own_f1_72 x))).trans (((if_neg (own_nlt (880) (by decide) (by omega)) : (own_f1_72 x) = (own_f1_79 x))).trans (((if_pos (own_gt (893) (by decide) (by omega)) : (own_f1_79 x) = (own_f1_86 x))).trans (((if_pos (own_lt (895) (by decide) (by omega)) : (own_f1_86 x) = (own_f1_100 x))).trans (((if_pos (own_lt (8204) (by decide) (by omega)) : (own_f1_100 x) = (own_f1_114 x))).trans (((if_pos (own_lt (8304) (by decide) (by omega)) : (own_f1_114 x) = (own_f1_128 x))).trans (((if_pos (own_lt (11264) (by decide) (by omega)) : (own_f1_128 x) = (own_f1_142 x))).trans (((if_pos (own_lt (12289) (by decide) (by omega)) : (own_f1_142 x) = (own_f1_155 x))).trans (((if_pos (own_lt (63744) (by decide) (by omega)) : (own_f1_155 x) = (own_f1_167 x))).trans (((if_pos (own_lt (65008) (by decide) (by omega)) : (own_f1_167 x) = (own_f1_179 x))).trans ((if_pos (own_lt (65536) (by decide) (by omega)) : (own_f1_179 x) = (own_f1_195 x))))))))))))))))))))))) (Eq.symm (((if_neg (own_nlt (65) (by decide) (by omega)) : (own_f2_0 x) = (own_f2_6 x))).trans (((if_neg (own_ngt (983039) (by decide) (by omega)) : (own_f2_6 x) = (own_f2_14 x))).trans (((if_pos (own_gt (90) (by decide) (by omega)) : (own_f2_14 x) = (own_f2_20 x))).trans (((if_neg (own_nlt (97) (by decide) (by omega)) : (own_f2_20 x) = (own_f2_38 x))).trans (((if_pos (own_gt (122) (by decide) (by omega)) : (own_f2_38 x) = (own_f2_44 x))).trans (((if_neg (own_nlt (192) (by decide) (by omega)) : (own_f2_44 x) = (own_f2_53 x))).trans (((if_neg (own_ineq (215) (by decide) (by omega)) : (own_f2_53 x) = (own_f2_60 x))).trans (((if_neg (own_ineq (247) (by decide) (by omega)) : (own_f2_60 x) = (own_f2_69 x))).trans (((if_neg (own_nlt (768) (by decide) (by omega)) : (own_f2_69 x) = (own_f2_76 x))).trans (((if_pos (own_gt (879) (by decide) (by omega)) : (own_f2_76 x) = (own_f2_85 x))).trans ((if_pos (own_ieq (894) (by decide) (by omega)) : (own_f2_85 x) = (own_f2_92 x))))))))))))))
theorem own_same_15 {x : Int32} (h1 : 895 ≤ x.toInt) (h2 : x.toInt ≤ 8191) : (own_f1_0 x) = (own_f2_0 x) :=
  Eq.trans (((if_neg (own_nlt (65) (by decide) (by omega)) : (own_f1_0 x) = (own_f1_6 x))).trans (((if_pos (own_gt (90) (by decide) (by omega)) : (own_f1_6 x) = (own_f1_12 x))).trans (((if_neg (own_ineq (95) (by decide) (by omega)) : (own_f1_12 x) = (own_f1_18 x))).trans (((if_neg (own_nlt (97) (by decide) (by omega)) : (own_f1_18 x) = (own_f1_24 x))).trans (((if_pos (own_gt (122) (by decide) (by omega)) : (own_f1_24 x) = (own_f1_30 x))).trans (((if_neg (own_nlt (192) (by decide) (by omega)) : (own_f1_30 x) = (own_f1_37 x))).trans (((if_pos (own_gt (214) (by decide) (by omega)) : (own_f1_37 x) = (own_f1_44 x))).trans (((if_neg (own_nlt (216) (by decide) (by omega)) : (own_f1_44 x) = (own_f1_51 x))).trans (((if_pos (own_gt (246) (by decide) (by omega)) : (own_f1_51 x) = (own_f1_58 x))).trans (((if_neg (own_nlt (248) (by decide) (by omega)) : (own_f1_58 x) = (own_f1_65 x))).trans (((if_pos (own_gt (767) (by decide) (by omega)) : (own_f1_65 x) = (own_f1_72 x))).trans (((if_neg (own_nlt (880) (by decide) (by omega)) : (own_f1_72 x) = (own_f1_79 x))).trans (((if_pos (own_gt (893) (by decide) (by omega)) : (own_f1_79 x) = (own_f1_86 x))).trans (((if_neg (own_nlt (895) (by decide) (by omega)) : (own_f1_86 x) = (own_f1_93 x))).trans ((if_neg (own_ngt (8191) (by decide) (by omega)) : (own_f1_93 x) = (own_f1_191 x))))))))))))))))) (Eq.symm (((if_neg (own_nlt (65) (by decide) (by omega)) : (own_f2_0 x) = (own_f2_6 x))).trans (((if_neg (own_ngt (983039) (by decide) (by omega)) : (own_f2_6 x) = (own_f2_14 x))).trans (((if_pos (own_gt (90) (by decide) (by omega)) : (own_f2_14 x) = (own_f2_20 x))).trans (((if_neg (own_nlt (97) (by decide) (by omega)) : (own_f2_20 x) = (own_f2_38 x))).trans (((if_pos (own_gt (122) (by decide) (by omega)) : (own_f2_38 x) = (own_f2_44 x))).trans (((if_neg (own_nlt (192) (by decide) (by omega)) : (own_f2_44 x) = (own_f2_53 x))).trans (((if_neg (own_ineq (215) (by decide) (by omega)) : (own_f2_53 x) = (own_f2_60 x))).trans (((if_neg (own_ineq (247) (by decide) (by omega)) : (own_f2_60 x) = (own_f2_69 x))).trans (((if_neg (own_nlt (768) (by decide) (by omega)) : (own_f2_69 x) = (own_f2_76 x))).trans (((if_pos (own_gt (879) (by decide) (by omega)) : (own_f2_76 x) = (own_f2_85 x))).trans (((if_neg (own_ineq (894) (by decide) (by omega)) : (own_f2_85 x) = (own_f2_94 x))).trans (((if_pos (own_lt (8192) (by decide) (by omega)) : (own_f2_94 x) = (own_f2_110 x))).trans (((if_pos (own_lt (8206) (by decide) (by omega)) : (own_f2_110 x) = (own_f2_126 x))).trans (((if_pos (own_lt (8592) (by decide) (by omega)) : (own_f2_126 x) = (own_f2_142 x))).trans (((if_pos (own_lt (12272) (by decide) (by omega)) : (own_f2_142 x) = (own_f2_158 x))).trans (((if_pos (own_lt (55296) (by decide) (by omega)) : (own_f2_158 x) = (own_f2_172 x))).trans (((if_pos (own_lt (64976) (by decide) (by omega)) : (own_f2_172 x) = (own_f2_186 x))).trans (((if_neg (own_ineq (65534) (by decide) (by omega)) : (own_f2_186 x) = (own_f2_192 x))).trans ((if_neg (own_ineq (65535) (by decide) (by omega)) : (own_f2_192 x) = (own_f2_200 x))))))))))))))))))))))
theorem own_same_16 {x : Int32} (h1 : 8192 ≤ x.toInt) (h2 : x.toInt ≤ 8203) : (own_f1_0 x) = (own_f2_0 x) :=
  Eq.trans (((if_neg (own_nlt (65) (by decide) (by omega)) : (own_f1_0 x) = (own_f1_6 x))).trans (((if_pos (own_gt (90) (by decide) (by omega)) : (own_f1_6 x) = (own_f1_12 x))).trans (((if_neg (own_ineq (95) (by decide) (by omega)) : (own_f1_12 x) = (own_f1_18 x))).trans (((if_neg (own_nlt (97) (by decide) (by omega)) : (own_f1_18 x) = (own_f1_24 x))).trans (((if_pos (own_gt (122) (by decide) (by omega)) : (own_f1_24 x) = (own_f1_30 x))).trans (((if_neg (own_nlt (192) (by decide) (by omega)) : (own_f1_30 x) = (own_f1_37 x))).trans (((if_pos (own_gt (214) (by decide) (by omega)) : (own_f1_37 x) = (own_f1_44 x))).trans (((if_neg (own_nlt (216) (by decide) (by omega)) : (own_f1_44 x) = (own_f1_51 x))).trans (((if_pos (own_gt (246) (by decide) (by omega)) : (own_f1_51 x) = (own_f1_58 x))).trans (((if_neg (own_nlt (248) (by decide) (by omega)) : (own_f1_58 x) = (own_f1_65 x))).trans (((if_pos (own_gt (767) (by decide) (by omega)) : (own_f1_65 x) = (own_f1_72 x))).trans (((if_neg (own_nlt (880) (by decide) (by omega)) : (own_f1_72 x) = (own_f1_79 x))).trans (((if_pos (own_gt (893) (by decide) (by omega)) : (own_f1_79 x) = (own_f1_86 x))).trans (((if_neg (own_nlt (895) (by decide) (by omega)) : (own_f1_86 x) = (own_f1_93 x))).trans (((if_pos (own_gt (8191) (by decide) (by omega)) : (own_f1_93 x) = (own_f1_100 x))).trans (((if_pos (own_lt (8204) (by decide) (by omega)) : (own_f1_100 x) = (own_f1_114 x))).trans (((if_pos (own_lt (8304) (by decide) (by omega)) : (own_f1_114 x) = (own_f1_128 x))).trans (((if_pos (own_lt (11264) (by decide) (by omega)) : (own_f1_128 x) = (own_f1_142 x))).trans (((if_pos (own_lt (12289) (by decide) (by omega)) : (own_f1_142 x) = (own_f1_155 x))).trans (((if_pos (own_lt (63744) (by decide) (by omega)) : (own_f1_155 x) = (own_f1_167 x))).trans (((if_pos (own_lt (65008) (by decide) (by omega)) : (own_f1_167 x) = (own_f1_179 x))).trans ((if_pos (own_lt (65536) (by decide) (by omega)) : (own_f1_179 x) = (own_f1_195 x)))))))))))))))))))))))) (Eq.symm (((if_neg (own_nlt (65) (by decide) (by omega)) : (own_f2_0 x) = (own_f2_6 x))).trans (((if_neg (own_ngt (983039) (by decide) (by omega)) : (own_f2_6 x) = (own_f2_14 x))).trans (((if_pos (own_gt (90) (by decide) (by omega)) : (own_f2_14 x) = (own_f2_20 x))).trans (((if_neg (own_nlt (97) (by decide) (by omega)) : (own_f2_20 x) = (own_f2_38 x))).trans (((if_pos (own_gt (122) (by decide) (by omega)) : (own_f2_38 x) = (own_f2_44 x))).trans (((if_neg (own_nlt (192) (by decide) (by omega)) : (own_f2_44 x) = (own_f2_53 x))).trans (((if_neg (own_ineq (215) (by decide) (by omega)) : (own_f2_53 x) = (own_f2_60 x))).trans (((if_neg (own_ineq (247) (by decide) (by omega)) : (own_f2_60 x) = (own_f2_69 x))).trans (((if_neg (own_nlt (768) (by decide) (by omega)) : (own_f2_69 x) = (own_f2_76 x))).trans (((if_pos (own_gt (879) (by decide) (by omega)) : (own_f2_76 x) = (own_f2_85 x))).trans (((if_neg (own_ineq (894) (by decide) (by omega)) : (own_f2_85 x) = (own_f2_94 x))).trans (((if_neg (own_nlt (8192) (by decide) (by omega)) : (own_f2_94 x) = (own_f2_101 x))).trans ((if_neg (own_ngt (8203) (by decide) (by omega)) : (own_f2_101 x) = (own_f2_108 x))))))))))))))))
theorem own_same_17 {x : Int32} (h1 : 8204 ≤ x.toInt) (h2 : x.toInt ≤ 8205) : (own_f1_0 x) = (own_f2_0 x) :=
  Eq.trans (((if_neg (own_nlt (65) (by decide) (by omega)) : (own_f1_0 x) = (own_f1_6 x))).trans (((if_pos (own_gt (90) (by decide) (by omega)) : (own_f1_6 x) = (own_f1_12 x))).trans (((if_neg (own_ineq (95) (by decide) (by omega)) : (own_f1_12 x) = (own_f1_18 x))).trans (((if_neg (own_nlt (97) (by decide) (by omega)) : (own_f1_18 x) = (own_f1_24 x))).trans (((if_pos (own_gt (122) (by decide) (by omega)) : (own_f1_24 x) = (own_f1_30 x))).trans (((if_neg (own_nlt (192) (by decide) (by omega)) : (own_f1_30 x) = (own_f1_37 x))).trans (((if_pos (own_gt (214) (by decide) (by omega)) : (own_f1_37 x) = (own_f1_44 x))).trans (((if_neg (own_nlt (216) (by decide) (by omega)) : (own_f1_44 x) = (own_f1_51 x))).trans (((if_pos (own_gt (246) (by decide) (by omega)) : (own_f1_51 x) = (own_f1_58 x))).trans (((if_neg (own_nlt (248) (by decide) (by omega)) : (own_f1_58 x) = (own_f1_65 x))).trans (((if_pos (own_gt (767) (by decide) (by omega)) : (own_f1_65 x) = (own_f1_72 x))).trans (((if_neg (own_nlt (880) (by decide) (by omega)) : (own_f1_72 x) = (own_f1_79 x))).trans (((if_pos (own_gt (893) (by decide) (by omega)) : (own_f1_79 x) = (own_f1_86 x))).trans (((if_neg (own_nlt (895) (by decide) (by omega)) : (own_f1_86 x) = (own_f1_93 x))).trans (((if_pos (own_gt (8191) (by decide) (by omega)) : (own_f1_93 x) = (own_f1_100 x))).trans (((if_neg (own_nlt (8204) (by decide) (by omega)) : (own_f1_100 x) = (own_f1_107 x))).trans ((if_neg (own_ngt (8205) (by decide) (by omega)) : (own_f1_107 x) = (own_f1_191 x))))))))))))))))))) (Eq.symm (((if_neg (own_nlt (65) (by decide) (by omega)) : (own_f2_0 x) = (own_f2_6 x))).trans (((if_neg (own_ngt (983039) (by decide) (by omega)) : (own_f2_6 x) = (own_f2_14 x))).trans (((if_pos (own_gt (90) (by decide) (by omega)) : (own_f2_14 x) = (own_f2_20 x))).trans (((if_neg (own_nlt (97) (by decide) (by omega)) : (own_f2_20 x) = (own_f2_38 x))).trans (((if_pos (own_gt (122) (by decide) (by omega)) : (own_f2_38 x) = (own_f2_44 x))).trans (((if_neg (own_nlt (192) (by decide) (by omega)) : (own_f2_44 x) = (own_f2_53 x))).trans (((if_neg (own_ineq (215) (by decide) (by omega)) : (own_f2_53 x) = (own_f2_60 x))).trans (((if_neg (own_ineq (247) (by decide) (by omega)) : (own_f2_60 x) = (own_f2_69 x))).trans (((if_neg (own_nlt (768) (by decide) (by omega)) : (own_f2_69 x) = (own_f2_76 x))).trans (((if_pos (own_gt (879) (by decide) (by omega)) : (own_f2_76 x) = (own_f2_85 x))).trans (((if_neg (own_ineq (894) (by decide) (by omega)) : (own_f2_85 x) = (own_f2_94 x))).trans (((if_neg (own_nlt (8192) (by decide) (by omega)) : (own_f2_94 x) = (own_f2_101 x))).trans (((if_pos (own_gt (8203) (by decide) (by omega)) : (own_f2_101 x) = (own_f2_110 x))).trans (((if_pos (own_lt (8206) (by decide) (by omega)) : (own_f2_110 x) = (own_f2_126 x))).trans (((if_pos (own_lt (8592) (by decide) (by omega)) : (own_f2_126 x) = (own_f2_142 x))).trans (((if_pos (own_lt (12272) (by decide) (by omega)) : (own_f2_142 x) = (own_f2_158 x))).trans (((if_pos (own_lt (55296) (by decide) (by omega)) : (own_f2_158 x) = (own_f2_172 x))).trans (((if_pos (own_lt (64976) (by decide) (by omega)) : (own_f2_172 x) = (own_f2_186 x))).trans (((if_neg (own_ineq (65534) (by decide) (by omega)) : (own_f2_186 x) = (own_f2_192 x))).trans ((if_neg (own_ineq (65535) (by decide) (by omega)) : (own_f2_192 x) = (own_f2_200 x)))))))))))))))))))))))
theorem own_same_18 {x : Int32} (h1 : 8206 ≤ x.toInt) (h2 : x.toInt ≤ 8303) : (own_f1_0 x) = (own_f2_0 x) :=
  Eq.trans (((if_neg (own_nlt (65) (by decide) (by omega)) : (own_f1_0 x) = (own_f1_6 x))).trans (((if_pos (own_gt (90) (by decide) (by omega)) : (own_f1_6 x) = (own_f1_12 x))).trans (((if_neg (own_ineq (95) (by decide) (by omega)) : (own_f1_12 x) = (own_f1_18 x))).trans (((if_neg (own_nlt (97) (by decide) (by omega)) : (own_f1_18 x) = (own_f1_24 x))).trans (((if_pos (own_gt (122) (by decide) (by omega)) : (own_f1_24 x) = (own_f1_30 x))).trans (((if_neg (own_nlt (192) (by decide) (by omega)) : (own_f1_30 x) = (own_f1_37 x))).trans (((if_pos (own_gt (214) (by decide) (by omega)) : (own_f1_37 x) = (own_f1_44 x))).trans (((if_neg (own_nlt (216) (by decide) (by omega)) : (own_f1_44 x) = (own_f1_51 x))).trans (((if_pos (own_gt (246) (by decide) (by omega)) : (own_f1_51 x) = (own_f1_58 x))).trans (((if_neg (own_nlt (248) (by decide) (by omega)) : (own_f1_58 x) = (own_f1_65 x))).trans (((if_pos (own_gt (767) (by decide) (by omega)) : (own_f1_65 x) = (own_f1_72 x))).trans (((if_neg (own_nlt (880) (by decide) (by omega)) : (own_f1_72 x) = (own_f1_79 x))).trans (((if_pos (own_gt (893) (by decide) (by omega)) : (own_f1_79 x) = (own_f1_86 x))).trans (((if_neg (own_nlt (895) (by decide) (by omega)) : (own_f1_86 x) = (own_f1_93 x))).trans (((if_pos (own_gt (8191) (by decide) (by omega)) : (own_f1_93 x) = (own_f1_100 x))).trans (((if_neg (own_nlt (8204) (by decide) (by omega)) : (own_f1_100 x) = (own_f1_107 x))).trans (((if_pos (own_gt (8205) (by decide) (by omega)) : (own_f1_107 x) = (own_f1_114 x))).trans (((if_pos (own_lt (8304) (by decide) (by omega)) : (own_f1_114 x) = (own_f1_128 x))).trans (((if_pos (own_lt (11264) (by decide) (by omega)) : (own_f1_128 x) = (own_f1_142 x))).trans (((if_pos (own_lt (12289) (by decide) (by omega)) : (own_f1_142 x) = (own_f1_155 x))).trans (((if_pos (own_lt (63744) (by decide) (by omega)) : (own_f1_155 x) = (own_f1_167 x))).trans (((if_pos (own_lt (65008) (by decide) (by omega)) : (own_f1_167 x) = (own_f1_179 x))).trans ((if_pos (own_lt (65536) (by decide) (by omega)) : (own_f1_179 x) = (own_f1_195 x))))))))))))))))))))))))) (Eq.symm (((if_neg (own_nlt (65) (by decide) (by omega)) : (own_f2_0 x) = (own_f2_6 x))).trans (((if_neg (own_ngt (983039) (by decide) (by omega)) : (own_f2_6 x) = (own_f2_14 x))).trans (((if_pos (own_gt (90) (by decide) (by omega)) : (own_f2_14 x) = (own_f2_20 x))).trans (((if_neg (own_nlt (97) (by decide) (by omega)) : (own_f2_20 x) = (own_f2_38 x))).trans (((if_pos (own_gt (122) (by decide) (by omega)) : (own_f2_38 x) = (own_f2_44 x))).trans (((if_neg (own_nlt (192) (by decide) (by omega)) : (own_f2_44 x) = (own_f2_53 x))).trans (((if_neg (own_ineq (215) (by decide) (by omega)) : (own_f2_53 x) = (own_f2_60 x))).trans (((if_neg (own_ineq (247) (by decide) (by omega)) : (own_f2_60 x) = (own_f2_69 x))).trans (((if_neg (own_nlt (768) (by decide) (by omega)) : (own_f2_69 x) = (own_f2_76 x))).trans (((if_pos (own_gt (879) (by decide) (by omega)) : (own_f2_76 x) = (own_f2_85 x))).trans (((if_neg (own_ineq (894) (by decide) (by omega)) : (own_f2_85 x) = (own_f2_94 x))).trans (((if_neg (own_nlt (8192) (by decide) (by omega)) : (own_f2_94 x) = (own_f2_101 x))).trans (((if_pos (own_gt (8203) (by decide) (by omega)) : (own_f2_101 x) = (own_f2_110 x))).trans (((if_neg (own_nlt (8206) (by decide) (by omega)) : (own_f2_110 x) = (own_f2_117 x))).trans ((if_neg (own_ngt (8303) (by decide) (by omega)) : (own_f2_117 x) = (own_f2_124 x))))))))))))))))))
theorem own_same_19 {x : Int32} (h1 : 8304 ≤ x.toInt) (h2 : x.toInt ≤ 8591) : (own_f1_0 x) = (own_f2_0 x) :=
  Eq.trans (((if_neg (own_nlt (65) (by decide) (by omega)) : (own_f1_0 x) = (own_f1_6 x))).trans (((if_pos (own_gt (90) (by decide) (by omega)) : (own_f1_6 x) = (own_f1_12 x))).trans (((if_neg (own_ineq (95) (by decide) (by omega)) : (own_f1_12 x) = (own_f1_18 x))).trans (((if_neg (own_nlt (97) (by decide) (by omega)) : (own_f1_18 x) = (own_f1_24 x))).trans (((if_pos (own_gt (122) (by decide) (by omega)) : (own_f1_24 x) = (own_f1_30 x))).trans (((if_neg (own_nlt (192) (by decide) (by omega)) : (own_f1_30 x) = (own_f1_37 x))).trans (((if_pos (own_gt (214) (by decide) (by omega)) : (own_f1_37 x) = (own_f1_44 x))).trans (((if_neg (own_nlt (216) (by decide) (by omega)) : (own_f1_44 x) = (own_f1_51 x))).trans (((if_pos (own_gt (246) (by decide) (by omega)) : (own_f1_51 x) = (own_f1_58 x))).trans (((if_neg (own_nlt (248) (by decide) (by omega)) : (own_f1_58 x) = (own_f1_65 x))).trans (((if_pos (own_gt (767) (by decide) (by omega)) : (own_f1_65 x) = (own_f1_72 x))).trans (((if_neg (own_nlt (880) (by decide) (by omega)) : (own_f1_72 x) = (own_f1_79 x))).trans (((if_pos (own_gt (893) (by decide) (by omega)) : (own_f1_79 x) = (own_f1_86 x))).trans (((if_neg (own_nlt (895) (by decide) (by omega)) : (own_f1_86 x) = (own_f1_93 x))).trans (((if_pos (own_gt (8191) (by decide) (by omega)) : (own_f1_93 x) = (own_f1_100 x))).trans (((if_neg (own_nlt (8204) (by decide) (by omega)) : (own_f1_100 x) = (own_f1_107 x))).trans (((if_pos (own_gt (8205) (by decide) (by omega)) : (own_f1_107 x) = (own_f1_114 x))).trans (((if_neg (own_nlt (8304) (by decide) (by omega)) : (own_f1_114 x) = (own_f1_121 x))).trans ((if_neg (own_ngt (8591) (by decide) (by omega)) : (own_f1_121 x) = (own_f1_191 x))))))))))))))))))))) (Eq.symm (((if_neg (own_nlt (65) (by decide) (by omega)) : (own_f2_0 x) = (own_f2_6 x))).trans (((if_neg (own_ngt (983039) (by decide) (by omega)) : (own_f2_6 x) = (own_f2_14 x))).trans (((if_pos (own_gt (90) (by decide) (by omega)) : (own_f2_14 x) = (own_f2_20 x))).trans (((if_neg (own_nlt (97) (by decide) (by omega)) : (own_f2_20 x) = (own_f2_38 x))).trans (((if_pos (own_gt (122) (by decide) (by omega)) : (own_f2_38 x) = (own_f2_44 x))).trans (((if_neg (own_nlt (192) (by decide) (by omega)) : (own_f2_44 x) = (own_f2_53 x))).trans (((if_neg (own_ineq (215) (by decide) (by omega)) : (own_f2_53 x) = (own_f2_60 x))).trans (((if_neg (own_ineq (247) (by decide) (by omega)) : (own_f2_60 x) = (own_f2_69 x))).trans (((if_neg (own_nlt (768) (by decide) (by omega)) : (own_f2_69 x) = (own_f2_76 x))).trans (((if_pos (own_gt (879) (by decide) (by omega)) : (own_f2_76 x) = (own_f2_85 x))).trans (((if_neg (own_ineq (894) (by decide) (by omega)) : (own_f2_85 x) = (own_f2_94 x))).trans (((if_neg (own_nlt (8192) (by decide) (by omega)) : (own_f2_94 x) = (own_f2_101 x))).trans (((if_pos (own_gt (8203) (by decide) (by omega)) : (own_f2_101 x) = (own_f2_110 x))).trans (((if_neg (own_nlt (8206) (by decide) (by omega)) : (own_f2_110 x) = (own_f2_117 x))).trans (((if_pos (own_gt (8303) (by decide) (by omega)) : (own_f2_117 x) = (own_f2_126 x))).trans (((if_pos (own_lt (8592) (by decide) (by omega)) : (own_f2_126 x) = (own_f2_142 x))).trans (((if_pos (own_lt (12272) (by decide) (by omega)) : (own_f2_142 x) = (own_f2_158 x))).trans (((if_pos (own_lt (55296) (by decide) (by omega)) : (own_f2_158 x) = (own_f2_172 x))).trans (((if_pos (own_lt (64976) (by decide) (by omega)) : (own_f2_172 x) = (own_f2_186 x))).trans (((if_neg (own_ineq (65534) (by decide) (by omega)) : (own_f2_186 x) = (own_f2_192 x))).trans ((if_neg (own_ineq (65535) (by decide) (by omega)) : (own_f2_192 x) = (own_f2_200 x))))))))))))))))))))))))
theorem own_same_20 {x : Int32} (h1 : 8592 ≤ x.toInt) (h2 : x.toInt ≤ 11263) : (own_f1_0 x) = (own_f2_0 x) :=
  Eq.trans (((if_neg (own_nlt (65) (by decide) (by omega)) : (own_f1_0 x) = (own_f1_6 x))).trans (((if_pos (own_gt (90) (by decide) (by omega)) : (own_f1_6 x) = (own_f1_12 x))).trans (((if_neg (own_ineq (95) (by decide) (by omega)) : (own_f1_12 x) = (own_f1_18 x))).trans (((if_neg (own_nlt (97) (by decide) (by omega)) : (own_f1_18 x) = (own_f1_24 x))).trans (((if_pos (own_gt (122) (by decide) (by omega)) : (own_f1_24 x) = (own_f1_30 x))).trans (((if_neg (own_nlt (192) (by decide) (by omega)) : (own_f1_30 x) = (own_f1_37 x))).trans (((if_pos (own_gt (214) (by decide) (by omega)) : (own_f1_37 x) = (own_f1_44 x))).trans (((if_neg (own_nlt (216) (by decide) (by omega)) : (own_f1_44 x) = (own_f1_51 x))).trans (((if_pos (own_gt (246) (by decide) (by omega)) : (own_f1_51 x) = (own_f1_58 x))).trans (((if_neg (own_nlt (248) (by decide) (by omega)) : (own_f1_58 x) = (own_f1_65 x))).trans (((if_pos (own_gt (767) (by decide) (by omega)) : (own_f1_65 x) = (own_f1_72 x))).trans (((if_neg (own_nlt (880) (by decide) (by omega)) : (own_f1_72 x) = (own_f1_79 x))).trans (((if_pos (own_gt (893) (by decide) (by omega)) : (own_f1_79 x) = (own_f1_86 x))).trans (((if_neg (own_nlt (895) (by decide) (by omega)) : (own_f1_86 x) = (own_f1_93 x))).trans (((if_pos (own_gt (8191) (by decide) (by omega)) : (own_f1_93 x) = (own_f1_100 x))).trans (((if_neg (own_nlt (8204) (by decide) (by omega)) : (own_f1_100 x) = (own_f1_107 x))).trans (((if_pos (own_gt (8205) (by decide) (by omega)) : (own_f1_107 x) = (own_f1_114 x))).trans (((if_neg (own_nlt (8304) (by decide) (by omega)) : (own_f1_114 x) = (own_f1_121 x))).trans (((if_pos (own_gt (8591) (by decide) (by omega)) : (own_f1_121 x) = (own_f1_128 x))).trans (((if_pos (own_lt (11264) (by decide) (by omega)) : (own_f1_128 x) = (own_f1_142 x))).trans (((if_pos (own_lt (12289) (by decide) (by omega)) : (own_f1_142 x) = (own_f1_155 x))).trans (((if_pos (own_lt (63744) (by decide) (by omega)) : (own_f1_155 x) = (own_f1_167 x))).trans (((if_pos (own_lt (65008) (by decide) (by omega)) : (own_f1_167 x) = (own_f1_179 x))).trans ((if_pos (own_lt (65536) (by decide) (by omega)) : (own_f1_179 x) = (own_f1_195 x)))))))))))))))))))))))))) (Eq.symm (((if_neg (own_nlt (65) (by decide) (by omega)) : (own_f2_0 x) = (own_f2_6 x))).trans (((if_neg (own_ngt (983039) (by decide) (by omega)) : (own_f2_6 x) = (own_f2_14 x))).trans (((if_pos (own_gt (90) (by decide) (by omega)) : (own_f2_14 x) = (own_f2_20 x))).trans (((if_neg (own_nlt (97) (by decide) (by omega)) : (own_f2_20 x) = (own_f2_38 x))).trans (((if_pos (own_gt (122) (by decide) (by omega)) : (own_f2_38 x) = (own_f2_44 x))).trans (((if_neg (own_nlt (192) (by decide) (by omega)) : (own_f2_44 x) = (own_f2_53 x))).trans (((if_neg (own_ineq (215) (by decide) (by omega)) : (own_f2_53 x) = (own_f2_60 x))).trans (((if_neg (own_ineq (247) (by decide) (by omega)) : (own_f2_60 x) = (own_f2_69 x))).trans (((if_neg (own_nlt (768) (by decide) (by omega)) : (own_f2_69 x) = (own_f2_76 x))).trans (((if_pos (own_gt (879) (by decide) (by omega)) : (own_f2_76 x) = (own_f2_85 x))).trans (((if_neg (own_ineq (894) (by decide) (by omega)) : (own_f2_85 x) = (own_f2_94 x))).trans (((if_neg (own_nlt (8192) (by decide) (by omega)) : (own_f2_94 x) = (own_f2_101 x))).trans (((if_pos (own_gt (8203) (by decide) (by omega)) : (own_f2_101 x) = (own_f2_110 x))).trans (((if_neg (own_nlt (8206) (by decide) (by omega)) : (own_f2_110 x) = (own_f2_117 x))).trans (((if_pos (own_gt (8303) (by decide) (by omega)) : (own_f2_117 x) = (own_f2_126 x))).trans (((if_neg (own_nlt (8592) (by decide) (by omega)) : (own_f2_126 x) = (own_f2_133 x))).trans ((if_neg (own_ngt (11263) (by decide) (by omega)) : (own_f2_133 x) = (own_f2_140 x))))))))))))))))))))
theorem own_same_21 {x : Int32} (h1 : 11264 ≤ x.toInt) (h2 : x.toInt ≤ 12271) : (own_f1_0 x) = (own_f2_0 x) :=
  Eq.trans (((if_neg (own_nlt (65) (by decide) (by omega)) : (own_f1_0 x) = (own_f1_6 x))).trans (((if_pos (own_gt (90) (by decide) (by omega)) : (own_f1_6 x) = (own_f1_12 x))).trans (((if_neg (own_ineq (95) (by decide) (by omega)) : (own_f1_12 x) = (own_f1_18 x))).trans (((if_neg (own_nlt (97) (by decide) (by omega)) : (own_f1_18 x) = (own_f1_24 x))).trans (((if_pos (own_gt (122) (by decide) (by omega)) : (own_f1_24 x) = (own_f1_30 x))).trans (((if_neg (own_nlt (192) (by decide) (by omega)) : (own_f1_30 x) = (own_f1_37 x))).trans (((if_pos (own_gt (214) (by decide) (by omega)) : (own_f1_37 x) = (own_f1_44 x))).trans (((if_neg (own_nlt (216) (by decide) (by omega)) : (own_f1_44 x) = (own_f1_51 x))).trans (((if_pos (own_gt (246) (by decide) (by omega)) : (own_f1_51 x) = (own_f1_58 x))).trans (((if_neg (own_nlt (248) (by decide) (by omega)) : (own_f1_58 x) = (own_f1_65 x))).trans (((if_pos (own_gt (767) (by decide) (by omega)) : (own_f1_65 x) = (own_f1_72 x))).trans (((if_neg (own_nlt (880) (by decide) (by omega)) : (own_f1_72 x) = (own_f1_79 x))).trans (((if_pos (own_gt (893) (by decide) (by omega)) : (own_f1_79 x) = (own_f1_86 x))).trans (((if_neg (own_nlt (895) (by decide) (by omega)) : (own_f1_86 x) = (own_f1_93 x))).trans (((if_pos (own_gt (8191) (by decide) (by omega)) : (own_f1_93 x) = (own_f1_100 x))).trans (((if_neg (own_nlt (8204) (by decide) (by omega)) : (own_f1_100 x) = (own_f1_107 x))).trans (((if_pos (own_gt (8205) (by decide) (by omega)) : (own_f1_107 x) = (own_f1_114 x))).trans (((if_neg (own_nlt (8304) (by decide) (by omega)) : (own_f1_114 x) = (own_f1_121 x))).trans (((if_pos (own_gt (8591) (by decide) (by omega)) : (own_f1_121 x) = (own_f1_128 x))).trans (((if_neg (own_nlt (11264) (by decide) (by omega)) : (own_f1_128 x) = (own_f1_135 x))).trans ((if_neg (own_ngt (12271) (by decide) (by omega)) : (own_f1_135 x) = (own_f1_191 x))))))))))))))))))))))) (Eq.symm (((if_neg (own_nlt (65) (by decide) (by omega)) : (own_f2_0 x) = (own_f2_6 x))).trans (((if_neg (own_ngt (983039) (by decide) (by omega)) : (own_f2_6 x) = (own_f2_14 x))).trans (((if_pos (own_gt (90) (by decide) (by omega)) : (own_f2_14 x) = (own_f2_20 x))).trans (((if_neg (own_nlt (97) (by decide) (by omega)) : (own_f2_20 x) = (own_f2_38 x))).trans (((if_pos (own_gt (122) (by decide) (by omega)) : (own_f2_38 x) = (own_f2_44 x))).trans (((if_neg (own_nlt (192) (by decide) (by omega)) : (own_f2_44 x) = (own_f2_53 x))).trans (((if_neg (own_ineq (215) (by decide) (by omega)) : (own_f2_53 x) = (own_f2_60 x))).trans (((if_neg (own_ineq (247) (by decide) (by omega)) : (own_f2_60 x) = (own_f2_69 x))).trans (((if_neg (own_nlt (768) (by decide) (by omega)) : (own_f2_69 x) = (own_f2_76 x))).trans (((if_pos (own_gt (879) (by decide) (by omega)) : (own_f2_76 x) = (own_f2_85 x))).trans (((if_neg (own_ineq (894) (by decide) (by omega)) : (own_f2_85 x) = (own_f2_94 x))).trans (((if_neg (own_nlt (8192) (by decide) (by omega)) : (own_f2_94 x) = (own_f2_101 x))).trans (((if_pos (own_gt (8203) (by decide) (by omega)) : (own_f2_101 x) = (own_f2_110 x))).trans (((if_neg (own_nlt (8206) (by decide) (by omega)) : (own_f2_110 x) = (own_f2_117 x))).trans (((if_pos (own_gt (8303) (by decide) (by omega)) : (own_f2_117 x) = (own_f2_126 x))).trans (((if_neg (own_nlt (8592) (by decide) (by omega)) : (own_f2_126 x) = (own_f2_133 x))).trans (((if_pos (own_gt (11263) (by decide) (by omega)) : (own_f2_133 x) = (own_f2_142 x))).trans (((if_pos (own_lt (12272) (by decide) (by omega)) : (own_f2_142 x) = (own_f2_158 x))).trans (((if_pos (own_lt (55296) (by decide) (by omega)) : (own_f2_158 x) = (own_f2_172 x))).trans (((if_pos (own_lt (64976) (by decide) (by omega)) : (own_f2_172 x) = (own_f2_186 x))).trans (((if_neg (own_ineq (65534) (by decide) (by omega)) : (own_f2_186 x) = (own_f2_192 x))).trans ((if_neg (own_ineq (65535) (by decide) (by omega)) : (own_f2_192 x) = (own_f2_200 x)))))))))))))))))))))))))
theorem own_same_22 {x : Int32} (h1 : 12272 ≤ x.toInt) (h2 : x.toInt ≤ 12288) : (own_f1_0 x) = (own_f2_0 x) :=
  Eq.trans (((if_neg (own_nlt (65) (by decide) (by omega)) : (own_f1_0 x) = (own_f1_6 x))).trans (((if_pos (own_gt (90) (by decide) (by omega)) : (own_f1_6 x) = (own_f1_12 x))).trans (((if_neg (own_ineq (95) (by decide) (by omega)) : (own_f1_12 x) = (own_f1_18 x))).trans (((if_neg (own_nlt (97) (by decide) (by omega)) : (own_f1_18 x) = (own_f1_24 x))).trans (((if_pos (own_gt (122) (by decide) (by omega)) : (own_f1_24 x) = (own_f1_30 x))).trans (((if_neg (own_nlt (192) (by decide) (by omega)) : (own_f1_30 x) = (own_f1_37 x))).trans (((if_pos (own_gt (214) (by decide) (by omega)) : (own_f1_37 x) = (own_f1_44 x))).trans (((if_neg (own_nlt (216) (by decide) (by omega)) : (own_f1_44 x) = (own_f1_51 x))).trans (((if_pos (own_gt (246) (by decide) (by omega)) : (own_f1_51 x) = (own_f1_58 x))).trans (((if_neg (own_nlt (248) (by decide) (by omega)) : (own_f1_58 x) = (own_f1_65 x))).trans (((if_pos (own_gt (767) (by decide) (by omega)) : (own_f1_65 x) = (own_f1_72 x))).trans (((if_neg (own_nlt (880) (by decide) (by omega)) : (own_f1_72 x) = (own_f1_79 x))).trans (((if_pos (own_gt (893) (by decide) (by omega)) : (own_f1_79 x) = (own_f1_86 x))).trans (((if_neg (own_nlt (895) (by decide) (by omega)) : (own_f1_86 x) = (own_f1_93 x))).trans (((if_pos (own_gt (8191) (by decide) (by omega)) : (own_f1_93 x) = (own_f1_100 x))).trans (((if_neg (own_nlt (8204) (by decide) (by omega)) : (own_f1_100 x) = (own_f1_107 x))).trans (((if_pos (own_gt (8205) (by decide) (by omega)) : (own_f1_107 x) = (own_f1_114 x))).trans (((if_neg (own_nlt (8304) (by decide) (by omega)) : (own_f1_114 x) = (own_f1_121 x))).trans (((if_pos (own_gt (8591) (by decide) (by omega)) : (own_f1_121 x) = (own_f1_128 x))).trans (((if_neg (own_nlt (11264) (by decide) (by omega)) : (own_f1_128 x) = (own_f1_135 x))).trans (((if_pos (own_gt (12271) (by decide) (by omega)) : (own_f1_135 x) = (own_f1_142 x))).trans (((if_pos (own_lt (12289) (by decide) (by omega)) : (own_f1_142 x) = (own_f1_155 x))).trans (((if_pos (own_lt (63744) (by decide) (by omega)) : (own_f1_155 x) = (own_f1_167 x))).trans (((if_pos (own_lt (65008) (by decide) (by omega)) : (own_f1_167 x) = (own_f1_179 x))).trans ((if_pos (own_lt (65536) (by decide) (by omega)) : (own_f1_179 x) = (own_f1_195 x))))))))))))))))))))))))))) (Eq.symm (((if_neg (own_nlt (65) (by decide) (by omega)) : (own_f2_0 x) = (own_f2_6 x))).trans (((if_neg (own_ngt (983039) (by decide) (by omega)) : (own_f2_6 x) = (own_f2_14 x))).trans (((if_pos (own_gt (90) (by decide) (by omega)) : (own_f2_14 x) = (own_f2_20 x))).trans (((if_neg (own_nlt (97) (by decide) (by omega)) : (own_f2_20 x) = (own_f2_38 x))).trans (((if_pos (own_gt (122) (by decide) (by omega)) : (own_f2_38 x) = (own_f2_44 x))).trans (((if_neg (own_nlt (192) (by decide) (by omega)) : (own_f2_44 x) = (own_f2_53 x))).trans (((if_neg (own_ineq (215) (by decide) (by omega)) : (own_f2_53 x) = (own_f2_60 x))).trans (((if_neg (own_ineq (247) (by decide) (by omega)) : (own_f2_60 x) = (own_f2_69 x))).trans (((if_neg (own_nlt (768) (by decide) (by omega)) : (own_f2_69 x) = (own_f2_76 x))).trans (((if_pos (own_gt (879) (by decide) (by omega)) : (own_f2_76 x) = (own_f2_85 x))).trans (((if_neg (own_ineq (894) (by decide) (by omega)) : (own_f2_85 x) = (own_f2_94 x))).trans (((if_neg (own_nlt (8192) (by decide) (by omega)) : (own_f2_94 x) = (own_f2_101 x))).trans (((if_pos (own_gt (8203) (by decide) (by omega)) : (own_f2_101 x) = (own_f2_110 x))).trans (((if_neg (own_nlt (8206) (by decide) (by omega)) : (own_f2_110 x) = (own_f2_117 x))).trans (((if_pos (own_gt (8303) (by decide) (by omega)) : (own_f2_117 x) = (own_f2_126 x))).trans (((if_neg (own_nlt (8592) (by decide) (by omega)) : (own_f2_126 x) = (own_f2_133 x))).trans (((if_pos (own_gt (11263) (by decide) (by omega)) : (own_f2_133 x) = (own_f2_142 x))).trans (((if_neg (own_nlt (12272) (by decide) (by omega)) : (own_f2_142 x) = (own_f2_149 x))).trans ((if_neg (own_ngt (12288) (by decide) (by omega)) : (own_f2_149 x) = (own_f2_156 x))))))))))))))))))))))
theorem own_same_23 {x : Int32} (h1 : 12289 ≤ x.toInt) (h2 : x.toInt ≤ 55295) : (own_f1_0 x) = (own_f2_0 x) :=
  Eq.trans (((if_neg (own_nlt (65) (by decide) (by omega)) : (own_f1_0 x) = (own_f1_6 x))).trans (((if_pos (own_gt (90) (by decide) (by omega)) : (own_f1_6 x) = (own_f1_12 x))).trans (((if_neg (own_ineq (95) (by decide) (by omega)) : (own_f1_12 x) = (own_f1_18 x))).trans (((if_neg (own_nlt (97) (by decide) (by omega)) : (own_f1_18 x) = (own_f1_24 x))).trans (((if_pos (own_gt (122) (by decide) (by omega)) : (own_f1_24 x) = (own_f1_30 x))).trans (((if_neg (own_nlt (192) (by decide) (by omega)) : (own_f1_30 x) = (own_f1_37 x))).trans (((if_pos (own_gt (214) (by decide) (by omega)) : (own_f1_37 x) = (own_f1_44 x))).trans (((if_neg (own_nlt (216) (by decide) (by omega)) : (own_f1_44 x) = (own_f1_51 x))).trans (((if_pos (own_gt (246) (by decide) (by omega)) : (own_f1_51 x) = (own_f1_58 x))).trans (((if_neg (own_nlt (248) (by decide) (by omega)) : (own_f1_58 x) = (own_f1_65 x))).trans (((if_pos (own_gt (767) (by decide) (by omega)) : (own_f1_65 x) = (own_f1_72 x))).trans (((if_neg (own_nlt (880) (by decide) (by omega)) : (own_f1_72 x) = (own_f1_79 x))).trans (((if_pos (own_gt (893) (by decide) (by omega)) : (own_f1_79 x) = (own_f1_86 x))).trans (((if_neg (own_nlt (895) (by decide) (by omega)) : (own_f1_86 x) = (own_f1_93 x))).trans (((if_pos (own_gt (8191) (by decide) (by omega)) : (own_f1_93 x) = (own_f1_100 x))).trans (((if_neg (own_nlt (8204) (by decide) (by omega)) : (own_f1_100 x) = (own_f1_107 x))).trans (((if_pos (own_gt (8205) (by decide) (by omega)) : (own_f1_107 x) = (own_f1_114 x))).trans (((if_neg (own_nlt (8304) (by decide) (by omega)) : (own_f1_114 x) = (own_f1_121 x))).trans (((if_pos (own_gt (8591) (by decide) (by omega)) : (own_f1_121 x) = (own_f1_128 x))).trans (((if_neg (own_nlt (11264) (by decide) (by omega)) : (own_f1_128 x) = (own_f1_135 x))).trans (((if_pos (own_gt (12271) (by decide) (by omega)) : (own_f1_135 x) = (own_f1_142 x))).trans (((if_neg (own_nlt (12289) (by decide) (by omega)) : (own_f1_142 x) = (own_f1_149 x))).trans ((if_neg (own_ngt (55295) (by decide) (by omega)) : (own_f1_149 x) = (own_f1_191 x))))))))))))))))))))))))) (Eq.symm (((if_neg (own_nlt (65) (by decide) (by omega)) : (own_f2_0 x) = (own_f2_6 x))).trans (((if_neg (own_ngt (983039) (by decide) (by omega)) : (own_f2_6 x) = (own_f2_14 x))).trans (((if_pos (own_gt (90) (by decide) (by omega)) : (own_f2_14 x) = (own_f2_20 x))).trans (((if_neg (own_nlt (97) (by decide) (by omega)) : (own_f2_20 x) = (own_f2_38 x))).trans (((if_pos (own_gt (122) (by decide) (by omega)) : (own_f2_38 x) = (own_f2_44 x))).trans (((if_neg (own_nlt (192) (by decide) (by omega)) : (own_f2_44 x) = (own_f2_53 x))).trans (((if_neg (own_ineq (215) (by decide) (by omega)) : (own_f2_53 x) = (own_f2_60 x))).trans (((if_neg (own_ineq (247) (by decide) (by omega)) : (own_f2_60 x) = (own_f2_69 x))).trans (((if_neg (own_nlt (768) (by decide) (by omega)) : (own_f2_69 x) = (own_f2_76 x))).trans (((if_pos (own_gt (879) (by decide) (by omega)) : (own_f2_76 x) = (own_f2_85 x))).trans (((if_neg (own_ineq (894) (by decide) (by omega)) : (own_f2_85 x) = (own_f2_94 x))).trans (((if_neg (own_nlt (8192) (by decide) (by omega)) : (own_f2_94 x) = (own_f2_101 x))).trans (((if_pos (own_gt (8203) (by decide) (by omega)) : (own_f2_101 x) = (own_f2_110 x))).trans (((if_neg (own_nlt (8206) (by decide) (by omega)) : (own_f2_110 x) = (own_f2_117 x))).trans (((if_pos (own_gt (8303) (by decide) (by omega)) : (own_f2_117 x) = (own_f2_126 x))).trans (((if_neg (own_nlt (8592) (by decide) (by omega)) : (own_f2_126 x) = (own_f2_133 x))).trans (((if_pos (own_gt (11263) (by decide) (by omega)) : (own_f2_133 x) = (own_f2_142 x))).trans (((if_neg (own_nlt (12272) (by decide) (by omega)) : (own_f2_142 x) = (own_f2_149 x))).trans (((if_pos (own_gt (12288) (by decide) (by omega)) : (own_f2_149 x) = (own_f2_158 x))).trans (((if_pos (own_lt (55296) (by decide) (by omega)) : (own_f2_158 x) = (own_f2_172 x))).trans (((if_pos (own_lt (64976) (by decide) (by omega)) : (own_f2_172 x) = (own_f2_186 x))).trans (((if_neg (own_ineq (65534) (by decide) (by omega)) : (own_f2_186 x) = (own_f2_192 x))).trans ((if_neg (own_ineq (65535) (by decide) (by omega)) : (own_f2_192 x) = (own_f2_200 x))))))))))))))))))))))))))
theorem own_same_24 {x : Int32} (h1 : 55296 ≤ x.toInt) (h2 : x.toInt ≤ 63743) : (own_f1_0 x) = (own_f2_0 x) :=
  Eq.trans (((if_neg (own_nlt (65) (by decide) (by omega)) : (own_f1_0 x) = (own_f1_6 x))).trans (((if_pos (own_gt (90) (by decide) (by omega)) : (own_f1_6 x) = (own_f1_12 x))).trans (((if_neg (own_ineq (95) (by decide) (by omega)) : (own_f1_12 x) = (own_f1_18 x))).trans (((if_neg (own_nlt (97) (by decide) (by omega)) : (own_f1_18 x) = (own_f1_24 x))).trans (((if_pos (own_gt (122) (by decide) (by omega)) : (own_f1_24 x) = (own_f1_30 x))).trans (((if_neg (own_nlt (192) (by decide) (by omega)) : (own_f1_30 x) = (own_f1_37 x))).trans (((if_pos (own_gt (214) (by decide) (by omega)) : (own_f1_37 x) = (own_f1_44 x))).trans (((if_neg (own_nlt (216) (by decide) (by omega)) : (own_f1_44 x) = (own_f1_51 x))).trans (((if_pos (own_gt (246) (by decide) (by omega)) : (own_f1_51 x) = (own_f1_58 x))).trans (((if_neg (own_nlt (248) (by decide) (by omega)) : (own_f1_58 x) = (own_f1_65 x))).trans (((if_pos (own_gt (767) (by decide) (by omega)) : (own_f1_65 x) = (own_f1_72 x))).trans (((if_neg (own_nlt (880) (by decide) (by omega)) : (own_f1_72 x) = (own_f1_79 x))).trans (((if_pos (own_gt (893) (by decide) (by omega)) : (own_f1_79 x) = (own_f1_86 x))).trans (((if_neg (own_nlt (895) (by decide) (by omega)) : (own_f1_86 x) = (own_f1_93 x))).trans (((if_pos (own_gt (8191) (by decide) (by omega)) : (own_f1_93 x) = (own_f1_100 x))).trans (((if_neg (own_nlt (8204) (by decide) (by omega)) : (own_f1_100 x) = (own_f1_107 x))).trans (((if_pos (own_gt (8205) (by decide) (by omega)) : (own_f1_107 x) = (own_f1_114 x))).trans (((if_neg (own_nlt (8304) (by decide) (by omega)) : (own_f1_114 x) = (own_f1_121 x))).trans (((if_pos (own_gt (8591) (by decide) (by omega)) : (own_f1_121 x) = (own_f1_128 x))).trans (((if_neg (own_nlt (11264) (by decide) (by omega)) : (own_f1_128 x) = (own_f1_135 x))).trans (((if_pos (own_gt (12271) (by decide) (by omega)) : (own_f1_135 x) = (own_f1_142 x))).trans (((if_neg (own_nlt (12289) (by decide) (by omega)) : (own_f1_142 x) = (own_f1_149 x))).trans (((if_pos (own_gt (55295) (by decide) (by omega)) : (own_f1_149 x) = (own_f1_155 x))).trans (((if_pos (own_lt (63744) (by decide) (by omega)) : (own_f1_155 x) = (own_f1_167 x))).trans (((if_pos (own_lt (65008) (by decide) (by omega)) : (own_f1_167 x) = (own_f1_179 x))).trans ((if_pos (own_lt (65536) (by decide) (by omega)) : (own_f1_179 x) = (own_f1_195 x)))))))))))))))))))))))))))) (Eq.symm (((if_neg (own_nlt (65) (by decide) (by omega)) : (own_f2_0 x) = (own_f2_6 x))).trans (((if_neg (own_ngt (983039) (by decide) (by omega)) : (own_f2_6 x) = (own_f2_14 x))).trans (((if_pos (own_gt (90) (by decide) (by omega)) : (own_f2_14 x) = (own_f2_20 x))).trans (((if_neg (own_nlt (97) (by decide) (by omega)) : (own_f2_20 x) = (own_f2_38 x))).trans (((if_pos (own_gt (122) (by decide) (by omega)) : (own_f2_38 x) = (own_f2_44 x))).trans (((if_neg (own_nlt (192) (by decide) (by omega)) : (own_f2_44 x) = (own_f2_53 x))).trans (((if_neg (own_ineq (215) (by decide) (by omega)) : (own_f2_53 x) = (own_f2_60 x))).trans (((if_neg (own_ineq (247) (by decide) (by omega)) : (own_f2_60 x) = (own_f2_69 x))).trans (((if_neg (own_nlt (768) (by decide) (by omega)) : (own_f2_69 x) = (own_f2_76 x))).trans (((if_pos (own_gt (879) (by decide) (by omega)) : (own_f2_76 x) = (own_f2_85 x))).trans (((if_neg (own_ineq (894) (by decide) (by omega)) : (own_f2_85 x) = (own_f2_94 x))).trans (((if_neg (own_nlt (8192) (by decide) (by omega)) : (own_f2_94 x) = (own_f2_101 x))).trans (((if_pos (own_gt (8203) (by decide) (by omega)) : (own_f2_101 x) = (own_f2_110 x))).trans (((if_neg (own_nlt (8206) (by decide) (by omega)) : (own_f2_110 x) = (own_f2_117 x))).trans (((if_pos (own_gt (8303) (by decide) (by omega)) : (own_f2_117 x) = (own_f2_126 x))).trans (((if_neg (own_nlt (8592) (by decide) (by omega)) : (own_f2_126 x) = (own_f2_133 x))).trans (((if_pos (own_gt (11263) (by decide) (by omega)) : (own_f2_133 x) = (own_f2_142 x))).trans (((if_neg (own_nlt (12272) (by decide) (by omega)) : (own_f2_142 x) = (own_f2_149 x))).trans (((if_pos (own_gt (12288) (by decide) (by omega)) : (own_f2_149 x) = (own_f2_158 x))).trans (((if_neg (own_nlt (55296) (by decide) (by omega)) : (own_f2_158 x) = (own_f2_164 x))).trans ((if_neg (own_ngt (63743) (by decide) (by omega)) : (own_f2_164 x) = (own_f2_170 x))))))))))))))))))))))))
theorem own_same_25 {x : Int32} (h1 : 63744 ≤ x.toInt) (h2 : x.toInt ≤ 64975) : (own_f1_0 x) = (own_f2_0 x) :=
  Eq.trans (((if_neg (own_nlt (65) (by decide) (by omega)) : (own_f1_0 x) = (own_f1_6 x))).trans (((if_pos (own_gt (90) (by decide) (by omega)) : (own_f1_6 x) = (own_f1_12 x))).trans (((if_neg (own_ineq (95) (by decide) (by omega)) : (own_f1_12 x) = (own_f1_18 x))).trans (((if_neg (own_nlt (97) (by decide) (by omega)) : (own_f1_18 x) = (own_f1_24 x))).trans (((if_pos (own_gt (122) (by decide) (by omega)) : (own_f1_24 x) = (own_f1_30 x))).trans (((if_neg (own_nlt (192) (by decide) (by omega)) : (own_f1_30 x) = (own_f1_37 x))).trans (((if_pos (own_gt (214) (by decide) (by omega)) : (own_f1_37 x) = (own_f1_44 x))).trans (((if_neg (own_nlt (216) (by decide) (by omega)) : (own_f1_44 x) = (own_f1_51 x))).trans (((if_pos (own_gt (246) (by decide) (by omega)) : (own_f1_51 x) = (own_f1_58 x))).trans (((if_neg (own_nlt (248) (by decide) (by omega)) : (own_f1_58 x) = (own_f1_65 x))).trans (((if_pos (own_gt (767) (by decide) (by omega)) : (own_f1_65 x) = (own_f1_72 x))).trans (((if_neg (own_nlt (880) (by decide) (by omega)) : (own_f1_72 x) = (own_f1_79 x))).trans (((if_pos (own_gt (893) (by decide) (by omega)) : (own_f1_79 x) = (own_f1_86 x))).trans (((if_neg (own_nlt (895) (by decide) (by omega)) : (own_f1_86 x) = (own_f1_93 x))).trans (((if_pos (own_gt (8191) (by decide) (by omega)) : (own_f1_93 x) = (own_f1_100 x))).trans (((if_neg (own_nlt (8204) (by decide) (by omega)) : (own_f1_100 x) = (own_f1_107 x))).trans (((if_pos (own_gt (8205) (by decide) (by omega)) : (own_f1_107 x) = (own_f1_114 x))).trans (((if_neg (own_nlt (8304) (by decide) (by omega)) : (own_f1_114 x) = (own_f1_121 x))).trans (((if_pos (own_gt (8591) (by decide) (by omega)) : (own_f1_121 x) = (own_f1_128 x))).trans (((if_neg (own_nlt (11264) (by decide) (by omega)) : (own_f1_128 x) = (own_f1_135 x))).trans (((if_pos (own_gt (12271) (by decide) (by omega)) : (own_f1_135 x) = (own_f1_142 x))).trans (((if_neg (own_nlt (12289) (by decide) (by omega)) : (own_f1_142 x) = (own_f1_149 x))).trans (((if_pos (own_gt (55295) (by decide) (by omega)) : (own_f1_149 x) = (own_f1_155 x))).trans (((if_neg (own_nlt (63744) (by decide) (by omega)) : (own_f1_155 x) = (own_f1_161 x))).trans ((if_neg (own_ngt (64975) (by decide) (by omega)) : (own_f1_161 x) = (own_f1_191 x))))))))))))))))))))))))))) (Eq.symm (((if_neg (own_nlt (65) (by decide) (by omega)) : (own_f2_0 x) = (own_f2_6 x))).trans (((if_neg (own_ngt (983039) (by decide) (by omega)) : (own_f2_6 x) = (own_f2_14 x))).trans (((if_pos (own_gt (90) (by decide) (by omega)) : (own_f2_14 x) = (own_f2_20 x))).trans (((if_neg (own_nlt (97) (by decide) (by omega)) : (own_f2_20 x) = (own_f2_38 x))).trans (((if_pos (own_gt (122) (by decide) (by omega)) : (own_f2_38 x) = (own_f2_44 x))).trans (((if_neg (own_nlt (192) (by decide) (by omega)) : (own_f2_44 x) = (own_f2_53 x))).trans (((if_neg (own_ineq (215) (by decide) (by omega)) : (own_f2_53 x) = (own_f2_60 x))).trans (((if_neg (own_ineq (247) (by decide) (by omega)) : (own_f2_60 x) = (own_f2_69 x))).trans (((if_neg (own_nlt (768) (by decide) (by omega)) : (own_f2_69 x) = (own_f2_76 x))).trans (((if_pos (own_gt (879) (by decide) (by omega)) : (own_f2_76 x) = (own_f2_85 x))).trans (((if_neg (own_ineq (894) (by decide) (by omega)) : (own_f2_85 x) = (own_f2_94 x))).trans (((if_neg (own_nlt (8192) (by decide) (by omega)) : (own_f2_94 x) = (own_f2_101 x))).trans (((if_pos (own_gt (8203) (by decide) (by omega)) : (own_f2_101 x) = (own_f2_110 x))).trans (((if_neg (own_nlt (8206) (by decide) (by omega)) : (own_f2_110 x) = (own_f2_117 x))).trans (((if_pos (own_gt (8303) (by decide) (by omega)) : (own_f2_117 x) = (own_f2_126 x))).trans (((if_neg (own_nlt (8592) (by decide) (by omega)) : (own_f2_126 x) = (own_f2_133 x))).trans (((if_pos (own_gt (11263) (by decide) (by omega)) : (own_f2_133 x) = (own_f2_142 x))).trans (((if_neg (own_nlt (12272) (by decide) (by omega)) : (own_f2_142 x) = (own_f2_149 x))).trans (((if_pos (own_gt (12288) (by decide) (by omega)) : (own_f2_149 x) = (own_f2_158 x))).trans (((if_neg (own_nlt (55296) (by decide) (by omega)) : (own_f2_158 x) = (own_f2_164 x))).trans (((if_pos (own_gt (63743) (by decide) (by omega)) : (own_f2_164 x) = (own_f2_172 x))).trans (((if_pos (own_lt (64976) (by decide) (by omega)) : (own_f2_172 x) = (own_f2_186 x))).trans (((if_neg (own_ineq (65534) (by decide) (by omega)) : (own_f2_186 x) = (own_f2_192 x))).trans ((if_neg (own_ineq (65535) (by decide) (by omega)) : (own_f2_192 x) = (own_f2_200 x)))))))))))))))))))))))))))
theorem own_same_26 {x : Int32} (h1 : 64976 ≤ x.toInt) (h2 : x.toInt ≤ 65007) : (own_f1_0 x) = (own_f2_0 x) :=
  Eq.trans (((if_neg (own_nlt (65) (by decide) (by omega)) : (own_f1_0 x) = (own_f1_6 x))).trans (((if_pos (own_gt (90) (by decide) (by omega)) : (own_f1_6 x) = (own_f1_12 x))).trans (((if_neg (own_ineq (95) (by decide) (by omega)) : (own_f1_12 x) = (own_f1_18 x))).trans (((if_neg (own_nlt (97) (by decide) (by omega)) : (own_f1_18 x) = (own_f1_24 x))).trans (((if_pos (own_gt (122) (by decide) (by omega)) : (own_f1_24 x) = (own_f1_30 x))).trans (((if_neg (own_nlt (192) (by decide) (by omega)) : (own_f1_30 x) = (own_f1_37 x))).trans (((if_pos (own_gt (214) (by decide) (by omega)) : (own_f1_37 x) = (own_f1_44 x))).trans (((if_neg (own_nlt (216) (by decide) (by omega)) : (own_f1_44 x) = (own_f1_51 x))).trans (((if_pos (own_gt (246) (by decide) (by omega)) : (own_f1_51 x) = (own_f1_58 x))).trans (((if_neg (own_nlt (248) (by decide) (by omega)) : (own_f1_58 x) = (own_f1_65 x))).trans (((if_pos (own_gt (767) (by decide) (by omega)) : (own_f1_65 x) = (own_f1_72 x))).trans (((if_neg (own_nlt (880) (by decide) (by omega)) : (own_f1_72 x) = (own_f1_79 x))).trans (((if_pos (own_gt (893) (by decide) (by omega)) : (own_f1_79 x) = (own_f1_86 x))).trans (((if_neg (own_nlt (895) (by decide) (by omega)) : (own_f1_86 x) = (own_f1_93 x))).trans (((if_pos (own_gt (8191) (by decide) (by omega)) : (own_f1_93 x) = (own_f1_100 x))).trans (((if_neg (own_nlt (8204) (by decide) (by omega)) : (own_f1_100 x) = (own_f1_107 x))).trans (((if_pos (own_gt (8205) (by decide) (by omega)) : (own_f1_107 x) = (own_f1_114 x))).trans (((if_neg (own_nlt (8304) (by decide) (by omega)) : (own_f1_114 x) = (own_f1_121 x))).trans (((if_pos (own_gt (8591) (by decide) (by omega)) : (own_f1_121 x) = (own_f1_128 x))).trans (((if_neg (own_nlt (11264) (by decide) (by omega)) : (own_f1_128 x) = (own_f1_135 x))).trans (((if_pos (own_gt (12271) (by decide) (by omega)) : (own_f1_135 x) = (own_f1_142 x))).trans (((if_neg (own_nlt (12289) (by decide) (by omega)) : (own_f1_142 x) = (own_f1_149 x))).trans (((if_pos (own_gt (55295) (by decide) (by omega)) : (own_f1_149 x) = (own_f1_155 x))).trans (((if_neg (own_nlt (63744) (by decide) (by omega)) : (own_f1_155 x) = (own_f1_161 x))).trans (((if_pos (own_gt (64975) (by decide) (by omega)) : (own_f1_161 x) = (own_f1_167 x))).trans (((if_pos (own_lt (65008) (by decide) (by omega)) : (own_f1_167 x) = (own_f1_179 x))).trans ((if_pos (own_lt (65536) (by decide) (by omega)) : (own_f1_179 x) = (own_f1_195 x))))))))))))))))))))))))))))) (Eq.symm (((if_neg (own_nlt (65) (by decide) (by omega)) : (own_f2_0 x) = (own_f2_6 x))).trans (((if_neg (own_ngt (983039) (by decide) (by omega)) : (own_f2_6 x) = (own_f2_14 x))).trans (((if_pos (own_gt (90) (by decide) (by omega)) : (own_f2_14 x) = (own_f2_20 x))).trans (((if_neg (own_nlt (97) (by decide) (by omega)) : (own_f2_20 x) = (own_f2_38 x))).trans (((if_pos (own_gt (122) (by decide) (by omega)) : (own_f2_38 x) = (own_f2_44 x))).trans (((if_neg (own_nlt (192) (by decide) (by omega)) : (own_f2_44 x) = (own_f2_53 x))).trans (((if_neg (own_ineq (215) (by decide) (by omega)) : (own_f2_53 x) = (own_f2_60 x))).trans (((if_neg (own_ineq (247) (by decide) (by omega)) : (own_f2_60 x) = (own_f2_69 x))).trans (((if_neg (own_nlt (768) (by decide) (by omega)) : (own_f2_69 x) = (own_f2_76 x))).trans (((if_pos (own_gt (879) (by decide) (by omega)) : (own_f2_76 x) = (own_f2_85 x))).trans (((if_neg (own_ineq (894) (by decide) (by omega)) : (own_f2_85 x) = (own_f2_94 x))).trans (((if_neg (own_nlt (8192) (by decide) (by omega)) : (own_f2_94 x) = (own_f2_101 x))).trans (((if_pos (own_gt (8203) (by decide) (by omega)) : (own_f2_101 x) = (own_f2_110 x))).trans (((if_neg (own_nlt (8206) (by decide) (by omega)) : (own_f2_110 x) = (own_f2_117 x))).trans (((if_pos (own_gt (8303) (by decide) (by omega)) : (own_f2_117 x) = (own_f2_126 x))).trans (((if_neg (own_nlt (8592) (by decide) (by omega)) : (own_f2_126 x) = (own_f2_133 x))).trans (((if_pos (own_gt (11263) (by decide) (by omega)) : (own_f2_133 x) = (own_f2_142 x))).trans (((if_neg (own_nlt (12272) (by decide) (by omega)) : (own_f2_142 x) = (own_f2_149 x))).trans (((if_pos (own_gt (12288) (by decide) (by omega)) : (own_f2_149 x) = (own_f2_158 x))).trans (((if_neg (own_nlt (55296) (by decide) (by omega)) : (own_f2_158 x) = (own_f2_164 x))).trans (((if_pos (own_gt (63743) (by decide) (by omega)) : (own_f2_164 x) = (own_f2_172 x))).trans (((if_neg (own_nlt (64976) (by decide) (by omega)) : (own_f2_172 x) = (own_f2_178 x))).trans ((if_neg (own_ngt (65007) (by decide) (by omega)) : (own_f2_178 x) = (own_f2_184 x))))))))))))))))))))))))))
theorem own_same_27 {x : Int32} (h1 : 65008 ≤ x.toInt) (h2 : x.toInt ≤ 65533) : (own_f1_0 x) = (own_f2_0 x) :=
  Eq.trans (((if_neg (own_nlt (65) (by decide) (by omega)) : (own_f1_0 x) = (own_f1_6 x))).trans (((if_pos (own_gt (90) (by decide) (by omega)) : (own_f1_6 x) = (own_f1_12 x))).trans (((if_neg (own_ineq (95) (by decide) (by omega)) : (own_f1_12 x) = (own_f1_18 x))).trans (((if_neg (own_nlt (97) (by decide) (by omega)) : (own_f1_18 x) = (own_f1_24 x))).trans (((if_pos (own_gt (122) (by decide) (by omega)) : (own_f1_24 x) = (own_f1_30 x))).trans (((if_neg (own_nlt (192) (by decide) (by omega)) : (own_f1_30 x) = (own_f1_37 x))).trans (((if_pos (own_gt (214) (by decide) (by omega)) : (own_f1_37 x) = (own_f1_44 x))).trans (((if_neg (own_nlt (216) (by decide) (by omega)) : (own_f1_44 x) = (own_f1_51 x))).trans (((if_pos (own_gt (246) (by decide) (by omega)) : (own_f1_51 x) = (own_f1_58 x))).trans (((if_neg (own_nlt (248) (by decide) (by omega)) : (own_f1_58 x) = (own_f1_65 x))).trans (((if_pos (own_gt (767) (by decide) (by omega)) : (own_f1_65 x) = (own_f1_72 x))).trans (((if_neg (own_nlt (880) (by decide) (by omega)) : (own_f1_72 x) = (own_f1_79 x))).trans (((if_pos (own_gt (893) (by decide) (by omega)) : (own_f1_79 x) = (own_f1_86 x))).trans (((if_neg (own_nlt (895) (by decide) (by omega)) : (own_f1_86 x) = (own_f1_93 x))).trans (((if_pos (own_gt (8191) (by decide) (by omega)) : (own_f1_93 x) = (own_f1_100 x))).trans (((if_neg (own_nlt (8204) (by decide) (by omega)) : (own_f1_100 x) = (own_f1_107 x))).trans (((if_pos (own_gt (8205) (by decide) (by omega)) : (own_f1_107 x) = (own_f1_114 x))).trans (((if_neg (own_nlt (8304) (by decide) (by omega)) : (own_f1_114 x) = (own_f1_121 x))).trans (((if_pos (own_gt (8591) (by decide) (by omega)) : (own_f1_121 x) = (own_f1_128 x))).trans (((if_neg (own_nlt (11264) (by decide) (by omega)) : (own_f1_128 x) = (own_f1_135 x))).trans (((if_pos (own_gt (12271) (by decide) (by omega)) : (own_f1_135 x) = (own_f1_142 x))).trans (((if_neg (own_nlt (12289) (by decide) (by omega)) : (own_f1_142 x) = (own_f1_149 x))).trans (((if_pos (own_gt (55295) (by decide) (by omega)) : (own_f1_149 x) = (own_f1_155 x))).trans (((if_neg (own_nlt (63744) (by decide) (by omega)) : (own_f1_155 x) = (own_f1_161 x))).trans (((if_pos (own_gt (64975) (by decide) (by omega)) : (own_f1_161 x) = (own_f1_167 x))).trans (((if_neg (own_nlt (65008) (by decide) (by omega)) : (own_f1_167 x) = (own_f1_173 x))).trans ((if_neg (own_ngt (65533) (by decide) (by omega)) : (own_f1_173 x) = (own_f1_191 x))))))))))))))))))))))))))))) (Eq.symm (((if_neg (own_nlt (65) (by decide) (by omega)) : (own_f2_0 x) = (own_f2_6 x))).trans (((if_neg (own_ngt (983039) (by decide) (by omega)) : (own_f2_6 x) = (own_f2_14 x))).trans (((if_pos (own_gt (90) (by decide) (by omega)) : (own_f2_14 x) = (own_f2_20 x))).trans (((if_neg (own_nlt (97) (by decide) (by omega)) : (own_f2_20 x) = (own_f2_38 x))).trans (((if_pos (own_gt (122) (by decide) (by omega)) : (own_f2_38 x) = (own_f2_44 x))).trans (((if_neg (own_nlt (192) (by decide) (by omega)) : (own_f2_44 x) = (own_f2_53 x))).trans (((if_neg (own_ineq (215) (by decide) (by omega)) : (own_f2_53 x) = (own_f2_60 x))).trans (((if_neg (own_ineq (247) (by decide) (by omega)) : (own_f2_60 x) = (own_f2_69 x))).trans (((if_neg (own_nlt (768) (by decide) (by omega)) : (own_f2_69 x) = (own_f2_76 x))).trans (((if_pos (own_gt (879) (by decide) (by omega)) : (own_f2_76 x) = (own_f2_85 x))).trans (((if_neg (own_ineq (894) (by decide) (by omega)) : (own_f2_85 x) = (own_f2_94 x))).trans (((if_neg (own_nlt (8192) (by decide) (by omega)) : (own_f2_94 x) = (own_f2_101 x))).trans (((if_pos (own_gt (8203) (by decide) (by omega)) : (own_f2_101 x) = (own_f2_110 x))).trans (((if_neg (own_nlt (8206) (by decide) (by omega)) : (own_f2_110 x) = (own_f2_117 x))).trans (((if_pos (own_gt (8303) (by decide) (by omega)) : (own_f2_117 x) = (own_f2_126 x))).trans (((if_neg (own_nlt (8592) (by decide) (by omega)) : (own_f2_126 x) = (own_f2_133 x))).trans (((if_pos (own_gt (11263) (by decide) (by omega)) : (own_f2_133 x) = (own_f2_142 x))).trans (((if_neg (own_nlt (12272) (by decide) (by omega)) : (own_f2_142 x) = (own_f2_149 x))).trans (((if_pos (own_gt (12288) (by decide) (by omega)) : (own_f2_149 x) = (own_f2_158 x))).trans (((if_neg (own_nlt (55296) (by decide) (by omega)) : (own_f2_158 x) = (own_f2_164 x))).trans (((if_pos (own_gt (63743) (by decide) (by omega)) : (own_f2_164 x) = (own_f2_172 x))).trans (((if_neg (own_nlt (64976) (by decide) (by omega)) : (own_f2_172 x) = (own_f2_178 x))).trans (((if_pos (own_gt (65007) (by decide) (by omega)) : (own_f2_178 x) = (own_f2_186 x))).trans (((if_neg (own_ineq (65534) (by decide) (by omega)) : (own_f2_186 x) = (own_f2_192 x))).trans ((if_neg (own_ineq (65535) (by decide) (by omega)) : (own_f2_192 x) = (own_f2_200 x))))))))))))))))))))))))))))
theorem own_same_28 {x : Int32} (h1 : 65534 ≤ x.toInt) (h2 : x.toInt ≤ 65534) : (own_f1_0 x) = (own_f2_0 x) :=
  Eq.trans (((if_neg (own_nlt (65) (by decide) (by omega)) : (own_f1_0 x) = (own_f1_6 x))).trans (((if_pos (own_gt (90) (by decide) (by omega)) : (own_f1_6 x) = (own_f1_12 x))).trans (((if_neg (own_ineq (95) (by decide) (by omega)) : (own_f1_12 x) = (own_f1_18 x))).trans (((if_neg (own_nlt (97) (by decide) (by omega)) : (own_f1_18 x) = (own_f1_24 x))).trans (((if_pos (own_gt (122) (by decide) (by omega)) : (own_f1_24 x) = (own_f1_30 x))).trans (((if_neg (own_nlt (192) (by decide) (by omega)) : (own_f1_30 x) = (own_f1_37 x))).trans (((if_pos (own_gt (214) (by decide) (by omega)) : (own_f1_37 x) = (own_f1_44 x))).trans (((if_neg (own_nlt (216) (by decide) (by omega)) : (own_f1_44 x) = (own_f1_51 x))).trans (((if_pos (own_gt (246) (by decide) (by omega)) : (own_f1_51 x) = (own_f1_58 x))).trans (((if_neg (own_nlt (248) (by decide) (by omega)) : (own_f1_58 x) = (own_f1_65 x))).trans (((if_pos (own_gt (767) (by decide) (by omega)) : (own_f1_65 x) = (own_f1_72 x))).trans (((if_neg (own_nlt (880) (by decide) (by omega)) : (own_f1_72 x) = (own_f1_79 x))).trans (((if_pos (own_gt (893) (by decide) (by omega)) : (own_f1_79 x) = (own_f1_86 x))).trans (((if_neg (own_nlt (895) (by decide) (by omega)) : (own_f1_86 x) = (own_f1_93 x))).trans (((if_pos (own_gt (8191) (by decide) (by omega)) : (own_f1_93 x) = (own_f1_100 x))).trans (((if_neg (own_nlt (8204) (by decide) (by omega)) : (own_f1_100 x) = (own_f1_107 x))).trans (((if_pos (own_gt (8205) (by decide) (by omega)) : (own_f1_107 x) = (own_f1_114 x))).trans (((if_neg (own_nlt (8304) (by decide) (by omega)) : (own_f1_114 x) = (own_f1_121 x))).trans (((if_pos (own_gt (8591) (by decide) (by omega)) : (own_f1_121 x) = (own_f1_128 x))).trans (((if_neg (own_nlt (11264) (by decide) (by omega)) : (own_f1_128 x) = (own_f1_135 x))).trans (((if_pos (own_gt (12271) (by decide) (by omega)) : (own_f1_135 x) = (own_f1_142 x))).trans (((if_neg (own_nlt (12289) (by decide) (by omega)) : (own_f1_142 x) = (own_f1_149 x))).trans (((if_pos (own_gt (55295) (by decide) (by omega)) : (own_f1_149 x) = (own_f1_155 x))).trans (((if_neg (own_nlt (63744) (by decide) (by omega)) : (own_f1_155 x) = (own_f1_161 x))).trans (((if_pos (own_gt (64975) (by decide) (by omega)) : (own_f1_161 x) = (own_f1_167 x))).trans (((if_neg (own_nlt (65008) (by decide) (by omega)) : (own_f1_167 x) = (own_f1_173 x))).trans (((if_pos (own_gt (65533) (by decide) (by omega)) : (own_f1_173 x) = (own_f1_179 x))).trans ((if_pos (own_lt (65536) (by decide) (by omega)) : (own_f1_179 x) = (own_f1_195 x)))))))))))))))))))))))))))))) (Eq.symm (((if_neg (own_nlt (65) (by decide) (by omega)) : (own_f2_0 x) = (own_f2_6 x))).trans (((if_neg (own_ngt (983039) (by decide) (by omega)) : (own_f2_6 x) = (own_f2_14 x))).trans (((if_pos (own_gt (90) (by decide) (by omega)) : (own_f2_14 x) = (own_f2_20 x))).trans (((if_neg (own_nlt (97) (by decide) (by omega)) : (own_f2_20 x) = (own_f2_38 x))).trans (((if_pos (own_gt (122) (by decide) (by omega)) : (own_f2_38 x) = (own_f2_44 x))).trans (((if_neg (own_nlt (192) (by decide) (by omega)) : (own_f2_44 x) = (own_f2_53 x))).trans (((if_neg (own_ineq (215) (by decide) (by omega)) : (own_f2_53 x) = (own_f2_60 x))).trans (((if_neg (own_ineq (247) (by decide) (by omega)) : (own_f2_60 x) = (own_f2_69 x))).trans (((if_neg (own_nlt (768) (by decide) (by omega)) : (own_f2_69 x) = (own_f2_76 x))).trans (((if_pos (own_gt (879) (by decide) (by omega)) : (own_f2_76 x) = (own_f2_85 x))).trans (((if_neg (own_ineq (894) (by decide) (by omega)) : (own_f2_85 x) = (own_f2_94 x))).trans (((if_neg (own_nlt (8192) (by decide) (by omega)) : (own_f2_94 x) = (own_f2_101 x))).trans (((if_pos (own_gt (8203) (by decide) (by omega)) : (own_f2_101 x) = (own_f2_110 x))).trans (((if_neg (own_nlt (8206) (by decide) (by omega)) : (own_f2_110 x) = (own_f2_117 x))).trans (((if_pos (own_gt (8303) (by decide) (by omega)) : (own_f2_117 x) = (own_f2_126 x))).trans (((if_neg (own_nlt (8592) (by decide) (by omega)) : (own_f2_126 x) = (own_f2_133 x))).trans (((if_pos (own_gt (11263) (by decide) (by omega)) : (own_f2_133 x) = (own_f2_142 x))).trans (((if_neg (own_nlt (12272) (by decide) (by omega)) : (own_f2_142 x) = (own_f2_149 x))).trans (((if_pos (own_gt (12288) (by decide) (by omega)) : (own_f2_149 x) = (own_f2_158 x))).trans (((if_neg (own_nlt (55296) (by decide) (by omega)) : (own_f2_158 x) = (own_f2_164 x))).trans (((if_pos (own_gt (63743) (by decide) (by omega)) : (own_f2_164 x) = (own_f2_172 x))).trans (((if_neg (own_nlt (64976) (by decide) (by omega)) : (own_f2_172 x) = (own_f2_178 x))).trans (((if_pos (own_gt (65007) (by decide) (by omega)) : (own_f2_178 x) = (own_f2_186 x))).trans ((if_pos (own_ieq (65534) (by decide) (by omega)) : (own_f2_186 x) = (own_f2_198 x)))))))))))))))))))))))))))
theorem own_same_29 {x : Int32} (h1 : 65535 ≤ x.toInt) (h2 : x.toInt ≤ 65535) : (own_f1_0 x) = (own_f2_0 x) :=
  Eq.trans (((if_neg (own_nlt (65) (by decide) (by omega)) : (own_f1_0 x) = (own_f1_6 x))).trans (((if_pos (own_gt (90) (by decide) (by omega)) : (own_f1_6 x) = (own_f1_12 x))).trans (((if_neg (own_ineq (95) (by decide) (by omega)) : (own_f1_12 x) = (own_f1_18 x))).trans (((if_neg (own_nlt (97) (by decide) (by omega)) : (own_f1_18 x) = (own_f1_24 x))).trans (((if_pos (own_gt (122) (by decide) (by omega)) : (own_f1_24 x) = (own_f1_30 x))).trans (((if_neg (own_nlt (192) (by decide) (by omega)) : (own_f1_30 x) = (own_f1_37 x))).trans (((if_pos (own_gt (214) (by decide) (by omega)) : (own_f1_37 x) = (own_f1_44 x))).trans (((if_neg (own_nlt (216) (by decide) (by omega)) : (own_f1_44 x) = (own_f1_51 x))).trans (((if_pos (own_gt (246) (by decide) (by omega)) : (own_f1_51 x) = (own_f1_58 x))).trans (((if_neg (own_nlt (248) (by decide) (by omega)) : (own_f1_58 x) = (own_f1_65 x))).trans (((if_pos (own_gt (767) (by decide) (by omega)) : (own_f1_65 x) = (own_f1_72 x))).trans (((if_neg (own_nlt (880) (by decide) (by omega)) : (own_f1_72 x) = (own_f1_79 x))).trans (((if_pos (own_gt (893) (by decide) (by omega)) : (own_f1_79 x) = (own_f1_86 x))).trans (((if_neg (own_nlt (895) (by decide) (by omega)) : (own_f1_86 x) = (own_f1_93 x))).trans (((if_pos (own_gt (8191) (by decide) (by omega)) : (own_f1_93 x) = (own_f1_100 x))).trans (((if_neg (own_nlt (8204) (by decide) (by omega)) : (own_f1_100 x) = (own_f1_107 x))).trans (((if_pos (own_gt (8205) (by decide) (by omega)) : (own_f1_107 x) = (own_f1_114 x))).trans (((if_neg (own_nlt (8304) (by decide) (by omega)) : (own_f1_114 x) = (own_f1_121 x))).trans (((if_pos (own_gt (8591) (by decide) (by omega)) : (own_f1_121 x) = (own_f1_128 x))).trans (((if_neg (own_nlt (11264) (by decide) (by omega)) : (own_f1_128 x) = (own_f1_135 x))).trans (((if_pos (own_gt (12271) (by decide) (by omega)) : (own_f1_135 x) = (own_f1_142 x))).trans (((if_neg (own_nlt (12289) (by decide) (by omega)) : (own_f1_142 x) = (own_f1_149 x))).trans (((if_pos (own_gt (55295) (by decide) (by omega)) : (own_f1_149 x) = (own_f1_155 x))).trans (((if_neg (own_nlt (63744) (by decide) (by omega)) : (own_f1_155 x) = (own_f1_161 x))).trans (((if_pos (own_gt (64975) (by decide) (by omega)) : (own_f1_161 x) = (own_f1_167 x))).trans (((if_neg (own_nlt (65008) (by decide) (by omega)) : (own_f1_167 x) = (own_f1_173 x))).trans (((if_pos (own_gt (65533) (by decide) (by omega)) : (own_f1_173 x) = (own_f1_179 x))).trans ((if_pos (own_lt (65536) (by decide) (by omega)) : (own_f1_179 x) = (own_f1_195 x)))))))))))))))))))))))))))))) (Eq.symm (((if_neg (own_nlt (65) (by decide) (by omega)) : (own_f2_0 x) = (own_f2_6 x))).trans (((if_neg (own_ngt (983039) (by decide) (by omega)) : (own_f2_6 x) = (own_f2_14 x))).trans (((if_pos (own_gt (90) (by decide) (by omega)) : (own_f2_14 x) = (own_f2_20 x))).trans (((if_neg (own_nlt (97) (by decide) (by omega)) : (own_f2_20 x) = (own_f2_38 x))).trans (((if_pos (own_gt (122) (by decide) (by omega)) : (own_f2_38 x) = (own_f2_44 x))).trans (((if_neg (own_nlt (192) (by decide) (by omega)) : (own_f2_44 x) = (own_f2_53 x))).trans (((if_neg (own_ineq (215) (by decide) (by omega)) : (own_f2_53 x) = (own_f2_60 x))).trans (((if_neg (own_ineq (247) (by decide) (by omega)) : (own_f2_60 x) = (own_f2_69 x))).trans (((if_neg (own_nlt (768) (by decide) (by omega)) : (own_f2_69 x) = (own_f2_76 x))).trans (((if_pos (own_gt (879) (by decide) (by omega)) : (own_f2_76 x) = (own_f2_85 x))).trans (((if_neg (own_ineq (894) (by decide) (by omega)) : (own_f2_85 x) = (own_f2_94 x))).trans (((if_neg (own_nlt (8192) (by decide) (by omega)) : (own_f2_94 x) = (own_f2_101 x))).trans (((if_pos (own_gt (8203) (by decide) (by omega)) : (own_f2_101 x) = (own_f2_110 x))).trans (((if_neg (own_nlt (8206) (by decide) (by omega)) : (own_f2_110 x) = (own_f2_117 x))).trans (((if_pos (own_gt (8303) (by decide) (by omega)) : (own_f2_117 x) = (own_f2_126 x))).trans (((if_neg (own_nlt (8592) (by decide) (by omega)) : (own_f2_126 x) = (own_f2_133 x))).trans (((if_pos (own_gt (11263) (by decide) (by omega)) : (own_f2_133 x) = (own_f2_142 x))).trans (((if_neg (own_nlt (12272) (by decide) (by omega)) : (own_f2_142 x) = (own_f2_149 x))).trans (((if_pos (own_gt (12288) (by decide) (by omega)) : (own_f2_149 x) = (own_f2_158 x))).trans (((if_neg (own_nlt (55296) (by decide) (by omega)) : (own_f2_158 x) = (own_f2_164 x))).trans (((if_pos (own_gt (63743) (by decide) (by omega)) : (own_f2_164 x) = (own_f2_172 x))).trans (((if_neg (own_nlt (64976) (by decide) (by omega)) : (own_f2_172 x) = (own_f2_178 x))).trans (((if_pos (own_gt (65007) (by decide) (by omega)) : (own_f2_178 x) = (own_f2_186 x))).trans (((if_neg (own_ineq (65534) (by decide) (by omega)) : (own_f2_186 x) = (own_f2_192 x))).trans ((if_pos (own_ieq (65535) (by decide) (by omega)) : (own_f2_192 x) = (own_f2_198 x))))))))))))))))))))))))))))
theorem own_same_30 {x : Int32} (h1 : 65536 ≤ x.toInt) (h2 : x.toInt ≤ 983039) : (own_f1_0 x) = (own_f2_0 x) :=
  Eq.trans (((if_neg (own_nlt (65) (by decide) (by omega)) : (own_f1_0 x) = (own_f1_6 x))).trans (((if_pos (own_gt (90) (by decide) (by omega)) : (own_f1_6 x) = (own_f1_12 x))).trans (((if_neg (own_ineq (95) (by decide) (by omega)) : (own_f1_12 x) = (own_f1_18 x))).trans (((if_neg (own_nlt (97) (by decide) (by omega)) : (own_f1_18 x) = (own_f1_24 x))).trans (((if_pos (own_gt (122) (by decide) (by omega)) : (own_f1_24 x) = (own_f1_30 x))).trans (((if_neg (own_nlt (192) (by decide) (by omega)) : (own_f1_30 x) = (own_f1_37 x))).trans (((if_pos (own_gt (214) (by decide) (by omega)) : (own_f1_37 x) = (own_f1_44 x))).trans (((if_neg (own_nlt (216) (by decide) (by omega)) : (own_f1_44 x) = (own_f1_51 x))).trans (((if_pos (own_gt (246) (by decide) (by omega)) : (own_f1_51 x) = (own_f1_58 x))).trans (((if_neg (own_nlt (248) (by decide) (by omega)) : (own_f1_58 x) = (own_f1_65 x))).trans (((if_pos (own_gt (767) (by decide) (by omega)) : (own_f1_65 x) = (own_f1_72 x))).trans (((if_neg (own_nlt (880) (by decide) (by omega)) : (own_f1_72 x) = (own_f1_79 x))).trans (((if_pos (own_gt (893) (by decide) (by omega)) : (own_f1_79 x) = (own_f1_86 x))).trans (((if_neg (own_nlt (895) (by decide) (by omega)) : (own_f1_86 x) = (own_f1_93 x))).trans (((if_pos (own_gt (8191) (by decide) (by omega)) : (own_f1_93 x) = (own_f1_100 x))).trans (((if_neg (own_nlt (8204) (by decide) (by omega)) : (own_f1_100 x) = (own_f1_107 x))).trans (((if_pos (own_gt (8205) (by decide) (by omega)) : (own_f1_107 x) = (own_f1_114 x))).trans (((if_neg (own_nlt (8304) (by decide) (by omega)) : (own_f1_114 x) = (own_f1_121 x))).trans (((if_pos (own_gt (8591) (by decide) (by omega)) : (own_f1_121 x) = (own_f1_128 x))).trans (((if_neg (own_nlt (11264) (by decide) (by omega)) : (own_f1_128 x) = (own_f1_135 x))).trans (((if_pos (own_gt (12271) (by decide) (by omega)) : (own_f1_135 x) = (own_f1_142 x))).trans (((if_neg (own_nlt (12289) (by decide) (by omega)) : (own_f1_142 x) = (own_f1_149 x))).trans (((if_pos (own_gt (55295) (by decide) (by omega)) : (own_f1_149 x) = (own_f1_155 x))).trans (((if_neg (own_nlt (63744) (by decide) (by omega)) : (own_f1_155 x) = (own_f1_161 x))).trans (((if_pos (own_gt (64975) (by decide) (by omega)) : (own_f1_161 x) = (own_f1_167 x))).trans (((if_neg (own_nlt (65008) (by decide) (by omega)) : (own_f1_167 x) = (own_f1_173 x))).trans (((if_pos (own_gt (65533) (by decide) (by omega)) : (own_f1_173 x) = (own_f1_179 x))).trans (((if_neg (own_nlt (65536) (by decide) (by omega)) : (own_f1_179 x) = (own_f1_185 x))).trans ((if_neg (own_ngt (983039) (by decide) (by omega)) : (own_f1_185 x) = (own_f1_191 x))))))))))))))))))))))))))))))) (Eq.symm (((if_neg (own_nlt (65) (by decide) (by omega)) : (own_f2_0 x) = (own_f2_6 x))).trans (((if_neg (own_ngt (983039) (by decide) (by omega)) : (own_f2_6 x) = (own_f2_14 x))).trans (((if_pos (own_gt (90) (by decide) (by omega)) : (own_f2_14 x) = (own_f2_20 x))).trans (((if_neg (own_nlt (97) (by decide) (by omega)) : (own_f2_20 x) = (own_f2_38 x))).trans (((if_pos (own_gt (122) (by decide) (by omega)) : (own_f2_38 x) = (own_f2_44 x))).trans (((if_neg (own_nlt (192) (by decide) (by omega)) : (own_f2_44 x) = (own_f2_53 x))).trans (((if_neg (own_ineq (215) (by decide) (by omega)) : (own_f2_53 x) = (own_f2_60 x))).trans (((if_neg (own_ineq (247) (by decide) (by omega)) : (own_f2_60 x) = (own_f2_69 x))).trans (((if_neg (own_nlt (768) (by decide) (by omega)) : (own_f2_69 x) = (own_f2_76 x))).trans (((if_pos (own_gt (879) (by decide) (by omega)) : (own_f2_76 x) = (own_f2_85 x))).trans (((if_neg (own_ineq (894) (by decide) (by omega)) : (own_f2_85 x) = (own_f2_94 x))).trans (((if_neg (own_nlt (8192) (by decide) (by omega)) : (own_f2_94 x) = (own_f2_101 x))).trans (((if_pos (own_gt (8203) (by decide) (by omega)) : (own_f2_101 x) = (own_f2_110 x))).trans (((if_neg (own_nlt (8206) (by decide) (by omega)) : (own_f2_110 x) = (own_f2_117 x))).trans (((if_pos (own_gt (8303) (by decide) (by omega)) : (own_f2_117 x) = (own_f2_126 x))).trans (((if_neg (own_nlt (8592) (by decide) (by omega)) : (own_f2_126 x) = (own_f2_133 x))).trans (((if_pos (own_gt (11263) (by decide) (by omega)) : (own_f2_133 x) = (own_f2_142 x))).trans (((if_neg (own_nlt (12272) (by decide) (by omega)) : (own_f2_142 x) = (own_f2_149 x))).trans (((if_pos (own_gt (12288) (by decide) (by omega)) : (own_f2_149 x) = (own_f2_158 x))).trans (((if_neg (own_nlt (55296) (by decide) (by omega)) : (own_f2_158 x) = (own_f2_164 x))).trans (((if_pos (own_gt (63743) (by decide) (by omega)) : (own_f2_164 x) = (own_f2_172 x))).trans (((if_neg (own_nlt (64976) (by decide) (by omega)) : (own_f2_172 x) = (own_f2_178 x))).trans (((if_pos (own_gt (65007) (by decide) (by omega)) : (own_f2_178 x) = (own_f2_186 x))).trans (((if_neg (own_ineq (65534) (by decide) (by omega)) : (own_f2_186 x) = (own_f2_192 x))).trans ((if_neg (own_ineq (65535) (by decide) (by omega)) : (own_f2_192 x) = (own_f2_200 x))))))))))))))))))))))))))))
theorem own_same_31 {x : Int32} (h1 : 983040 ≤ x.toInt) (h2 : x.toInt ≤ 2147483647) : (own_f1_0 x) = (own_f2_0 x) :=
  Eq.trans (((if_neg (own_nlt (65) (by decide) (by omega)) : (own_f1_0 x) = (own_f1_6 x))).trans (((if_pos (own_gt (90) (by decide) (by omega)) : (own_f1_6 x) = (own_f1_12 x))).trans (((if_neg (own_ineq (95) (by decide) (by omega)) : (own_f1_12 x) = (own_f1_18 x))).trans (((if_neg (own_nlt (97) (by decide) (by omega)) : (own_f1_18 x) = (own_f1_24 x))).trans (((if_pos (own_gt (122) (by decide) (by omega)) : (own_f1_24 x) = (own_f1_30 x))).trans (((if_neg (own_nlt (192) (by decide) (by omega)) : (own_f1_30 x) = (own_f1_37 x))).trans (((if_pos (own_gt (214) (by decide) (by omega)) : (own_f1_37 x) = (own_f1_44 x))).trans (((if_neg (own_nlt (216) (by decide) (by omega)) : (own_f1_44 x) = (own_f1_51 x))).trans (((if_pos (own_gt (246) (by decide) (by omega)) : (own_f1_51 x) = (own_f1_58 x))).trans (((if_neg (own_nlt (248) (by decide) (by omega)) : (own_f1_58 x) = (own_f1_65 x))).trans (((if_pos (own_gt (767) (by decide) (by omega)) : (own_f1_65 x) = (own_f1_72 x))).trans (((if_neg (own_nlt (880) (by decide) (by omega)) : (own_f1_72 x) = (own_f1_79 x))).trans (((if_pos (own_gt (893) (by decide) (by omega)) : (own_f1_79 x) = (own_f1_86 x))).trans (((if_neg (own_nlt (895) (by decide) (by omega)) : (own_f1_86 x) = (own_f1_93 x))).trans (((if_pos (own_gt (8191) (by decide) (by omega)) : (own_f1_93 x) = (own_f1_100 x))).trans (((if_neg (own_nlt (8204) (by decide) (by omega)) : (own_f1_100 x) = (own_f1_107 x))).trans (((if_pos (own_gt (8205) (by decide) (by omega)) : (own_f1_107 x) = (own_f1_114 x))).trans (((if_neg (own_nlt (8304) (by decide) (by omega)) : (own_f1_114 x) = (own_f1_121 x))).trans (((if_pos (own_gt (8591) (by decide) (by omega)) : (own_f1_121 x) = (own_f1_128 x))).trans (((if_neg (own_nlt (11264) (by decide) (by omega)) : (own_f1_128 x) = (own_f1_135 x))).trans (((if_pos (own_gt (12271) (by decide) (by omega)) : (own_f1_135 x) = (own_f1_142 x))).trans (((if_neg (own_nlt (12289) (by decide) (by omega)) : (own_f1_142 x) = (own_f1_149 x))).trans (((if_pos (own_gt (55295) (by decide) (by omega)) : (own_f1_149 x) = (own_f1_155 x))).trans (((if_neg (own_nlt (63744) (by decide) (by omega)) : (own_f1_155 x) = (own_f1_161 x))).trans (((if_pos (own_gt (64975) (by decide) (by omega)) : (own_f1_161 x) = (own_f1_167 x))).trans (((if_neg (own_nlt (65008) (by decide) (by omega)) : (own_f1_167 x) = (own_f1_173 x))).trans (((if_pos (own_gt (65533) (by decide) (by omega)) : (own_f1_173 x) = (own_f1_179 x))).trans (((if_neg (own_nlt (65536) (by decide) (by omega)) : (own_f1_179 x) = (own_f1_185 x))).trans ((if_pos (own_gt (983039) (by decide) (by omega)) : (own_f1_185 x) = (own_f1_195 x))))))))))))))))))))))))))))))) (Eq.symm (((if_neg (own_nlt (65) (by decide) (by omega)) : (own_f2_0 x) = (own_f2_6 x))).trans ((if_pos (own_gt (983039) (by decide) (by omega)) : (own_f2_6 x) = (own_f2_12 x)))))
theorem own_same (x : Int32) : own_f1_0 x = own_f2_0 x := by
  have h0 : (-2147483648 : Int) ≤ x.toInt := (rng32 x).1
  have hN : x.toInt < 2147483648 := (rng32 x).2
  by_cases h1 : x.toInt ≤ 64
  · exact own_same_0 (by omega) h1
  by_cases h2 : x.toInt ≤ 90
  · exact own_same_1 (by omega) h2
  by_cases h3 : x.toInt ≤ 94
  · exact own_same_2 (by omega) h3
  by_cases h4 : x.toInt ≤ 95
  · exact own_same_3 (by omega) h4
  by_cases h5 : x.toInt ≤ 96
  · exact own_same_4 (by omega) h5
  by_cases h6 : x.toInt ≤ 122
  · exact own_same_5 (by omega) h6
  by_cases h7 : x.toInt ≤ 191
  · exact own_same_6 (by omega) h7
  by_cases h8 : x.toInt ≤ 214
  · exact own_same_7 (by omega) h8
  by_cases h9 : x.toInt ≤ 215
  · exact own_same_8 (by omega) h9
  by_cases h10 : x.toInt ≤ 246
  · exact own_same_9 (by omega) h10
  by_cases h11 : x.toInt ≤ 247
  · exact own_same_10 (by omega) h11
  by_cases h12 : x.toInt ≤ 767
  · exact own_same_11 (by omega) h12
  by_cases h13 : x.toInt ≤ 879
  · exact own_same_12 (by omega) h13
  by_cases h14 : x.toInt ≤ 893
  · exact own_same_13 (by omega) h14
  by_cases h15 : x.toInt ≤ 894
  · exact own_same_14 (by omega) h15
  by_cases h16 : x.toInt ≤ 8191
  · exact own_same_15 (by omega) h16
  by_cases h17 : x.toInt ≤ 8203
  · exact own_same_16 (by omega) h17
  by_cases h18 : x.toInt ≤ 8205
  · exact own_same_17 (by omega) h18
  by_cases h19 : x.toInt ≤ 8303
  · exact own_same_18 (by omega) h19
  by_cases h20 : x.toInt ≤ 8591
  · exact own_same_19 (by omega) h20
  by_cases h21 : x.toInt ≤ 11263
  · exact own_same_20 (by omega) h21
  by_cases h22 : x.toInt ≤ 12271
  · exact own_same_21 (by omega) h22
  by_cases h23 : x.toInt ≤ 12288
  · exact own_same_22 (by omega) h23
  by_cases h24 : x.toInt ≤ 55295
  · exact own_same_23 (by omega) h24
  by_cases h25 : x.toInt ≤ 63743
  · exact own_same_24 (by omega) h25
  by_cases h26 : x.toInt ≤ 64975
  · exact own_same_25 (by omega) h26
  by_cases h27 : x.toInt ≤ 65007
  · exact own_same_26 (by omega) h27
  by_cases h28 : x.toInt ≤ 65533
  · exact own_same_27 (by omega) h28
  by_cases h29 : x.toInt ≤ 65534
  · exact own_same_28 (by omega) h29
  by_cases h30 : x.toInt ≤ 65535
  · exact own_same_29 (by omega) h30
  by_cases h31 : x.toInt ≤ 983039
  · exact own_same_30 (by omega) h31
  exact own_same_31 (by omega) (by omega)
theorem own_ef0 (x0 : Int32) (x1 : Int32) : ∀ m, entryFrame m #[(.int x0), (.int x1)] maxLocals = mkF m 0 #[.val (.int x0), .val (.int x1), .unset, .unset, .unset, .unset] [] := fun m => by first | (simp [entryFrame, mkF, argsToLocals, Value.category, maxLocals]; done) | rfl
theorem own_pd0 : parseMethodDescriptor "(I)Z" = some ⟨[.int], some .boolean⟩ := by decide +kernel
def own_Q0 (n0 : Nat) (v : Option Value) (h : Heap) (L : List Loc) : Prop := v = some (.int 1) ∧ Fr n0 L
set_option maxRecDepth 65536 in
set_option maxHeartbeats 40000000 in
theorem own_law {l : Launch} {p : Program} {e : Env} {below : List Frame} {s : State} {m : MethodId} {meth : Method} {c : Code} {Z : State} {a0 args : Array Value} {T : State} {h0 : Heap} (X : Stand p l e room_1 s m args below meth c T [] 0 0) (C : own_Ctx p s m meth c Z a0 tables_1 x code maxLocals ret) (hh : T.heap = h0) (x0 : Int32) (x1 : Int32) (n0 : Nat) (Z0 : n0 ≤ h0.size) :
    own_Fin p e below s (own_Q0 n0) room_1.cells room_1.slots (T.setTop (mkF m 0 #[.val (.int x0), .val (.int x1), .unset, .unset, .unset, .unset] [])) := by
  obtain ⟨hx, hby, hml, hZ, hown, hnm, hret, hlk, hw⟩ := id C
  show own_Fin p e below s (own_Q0 n0) room_1.cells room_1.slots (T.setTop (mkF m 0 #[.val (.int x0), .val (.int x1), .unset, .unset, .unset, .unset] []))
  refine own_go (fun t => XS.bipush X.here hx rfl (hb hby at_0)) ?_
  show own_Fin p e below s (own_Q0 n0) room_1.cells room_1.slots (T.setTop (mkF m 2 #[.val (.int x0), .val (.int x1), .unset, .unset, .unset, .unset] [(.int (33 : Int32))]))
  obtain ⟨T1, b1, X1, E1, g1, A1, st1⟩ := own_newI X hx hZ hh (hw _ (List.mem_of_getElem? (i := 0) rfl)) (g := (mkF m 2 #[.val (.int x0), .val (.int x1), .unset, .unset, .unset, .unset] [(.int (33 : Int32))])) rfl (hb hby at_2) rfl (by decide) 33 (by decide) (by decide) (by decide) (by decide)
  refine own_go st1 ?_
  show own_Fin p e below s (own_Q0 n0) room_1.cells room_1.slots (T1.setTop (mkF m 4 #[.val (.int x0), .val (.int x1), .unset, .unset, .unset, .unset] [(.ref b1)]))
  have G : n0 ≤ b1 := by rw [g1]; exact Z0
  have N0 := Fr.nil n0
  refine own_go (fun t => XS.dup X1.here hx rfl (hb hby at_4) rfl rfl) ?_
  show own_Fin p e below s (own_Q0 n0) room_1.cells room_1.slots (T1.setTop (mkF m 5 #[.val (.int x0), .val (.int x1), .unset, .unset, .unset, .unset] [(.ref b1), (.ref b1)]))
  refine own_go (fun t => XS.iconst X1.here hx rfl (hb hby at_5)) ?_
  show own_Fin p e below s (own_Q0 n0) room_1.cells room_1.slots (T1.setTop (mkF m 6 #[.val (.int x0), .val (.int x1), .unset, .unset, .unset, .unset] [(.int (0 : Int32)), (.ref b1), (.ref b1)]))
  refine own_go (fun t => XS.iconst X1.here hx rfl (hb hby at_6)) ?_
  show own_Fin p e below s (own_Q0 n0) room_1.cells room_1.slots (T1.setTop (mkF m 7 #[.val (.int x0), .val (.int x1), .unset, .unset, .unset, .unset] [(.int (0 : Int32)), (.int (0 : Int32)), (.ref b1), (.ref b1)]))
  obtain ⟨T2, X2, W2, A2, st2⟩ := own_stI X1 hx hZ rfl A1 (by decide) (by decide) (g := (mkF m 7 #[.val (.int x0), .val (.int x1), .unset, .unset, .unset, .unset] [(.int (0 : Int32)), (.int (0 : Int32)), (.ref b1), (.ref b1)])) rfl rfl (hb hby at_7)
  obtain ⟨f2, A2⟩ : ∃ f, own_A Z T2.heap b1 .int (33 : Int32) f := ⟨_, A2⟩
  refine own_go st2 ?_
  show own_Fin p e below s (own_Q0 n0) room_1.cells room_1.slots (T2.setTop (mkF m 8 #[.val (.int x0), .val (.int x1), .unset, .unset, .unset, .unset] [(.ref b1)]))
  have N2 := Fr.snoc X2 N0 G
  refine own_go (fun t => XS.dup X2.here hx rfl (hb hby at_8) rfl rfl) ?_
  show own_Fin p e below s (own_Q0 n0) room_1.cells room_1.slots (T2.setTop (mkF m 9 #[.val (.int x0), .val (.int x1), .unset, .unset, .unset, .unset] [(.ref b1), (.ref b1)]))
  refine own_go (fun t => XS.iconst X2.here hx rfl (hb hby at_9)) ?_
  show own_Fin p e below s (own_Q0 n0) room_1.cells room_1.slots (T2.setTop (mkF m 10 #[.val (.int x0), .val (.int x1), .unset, .unset, .unset, .unset] [(.int (1 : Int32)), (.ref b1), (.ref b1)]))
  refine own_go (fun t => XS.bipush X2.here hx rfl (hb hby at_10)) ?_
  show own_Fin p e below s (own_Q0 n0) room_1.cells room_1.slots (T2.setTop (mkF m 12 #[.val (.int x0), .val (.int x1), .unset, .unset, .unset, .unset] [(.int (65 : Int32)), (.int (1 : Int32)), (.ref b1), (.ref b1)]))
  obtain ⟨T3, X3, W3, A3, st3⟩ := own_stI X2 hx hZ rfl A2 (by decide) (by decide) (g := (mkF m 12 #[.val (.int x0), .val (.int x1), .unset, .unset, .unset, .unset] [(.int (65 : Int32)), (.int (1 : Int32)), (.ref b1), (.ref b1)])) rfl rfl (hb hby at_12)
  obtain ⟨f3, A3⟩ : ∃ f, own_A Z T3.heap b1 .int (33 : Int32) f := ⟨_, A3⟩
  refine own_go st3 ?_
  show own_Fin p e below s (own_Q0 n0) room_1.cells room_1.slots (T3.setTop (mkF m 13 #[.val (.int x0), .val (.int x1), .unset, .unset, .unset, .unset] [(.ref b1)]))
  have N3 := Fr.snoc X3 N2 G
  refine own_go (fun t => XS.dup X3.here hx rfl (hb hby at_13) rfl rfl) ?_
  show own_Fin p e below s (own_Q0 n0) room_1.cells room_1.slots (T3.setTop (mkF m 14 #[.val (.int x0), .val (.int x1), .unset, .unset, .unset, .unset] [(.ref b1), (.ref b1)]))
  refine own_go (fun t => XS.iconst X3.here hx rfl (hb hby at_14)) ?_
  show own_Fin p e below s (own_Q0 n0) room_1.cells room_1.slots (T3.setTop (mkF m 15 #[.val (.int x0), .val (.int x1), .unset, .unset, .unset, .unset] [(.int (2 : Int32)), (.ref b1), (.ref b1)]))
  refine own_go (fun t => XS.bipush X3.here hx rfl (hb hby at_15)) ?_
  show own_Fin p e below s (own_Q0 n0) room_1.cells room_1.slots (T3.setTop (mkF m 17 #[.val (.int x0), .val (.int x1), .unset, .unset, .unset, .unset] [(.int (91 : Int32)), (.int (2 : Int32)), (.ref b1), (.ref b1)]))
  obtain ⟨T4, X4, W4, A4, st4⟩ := own_stI X3 hx hZ rfl A3 (by decide) (by decide) (g := (mkF m 17 #[.val (.int x0), .val (.int x1), .unset, .unset, .unset, .unset] [(.int (91 : Int32)), (.int (2 : Int32)), (.ref b1), (.ref b1)])) rfl rfl (hb hby at_17)
  obtain ⟨f4, A4⟩ : ∃ f, own_A Z T4.heap b1 .int (33 : Int32) f := ⟨_, A4⟩
  refine own_go st4 ?_
  show own_Fin p e below s (own_Q0 n0) room_1.cells room_1.slots (T4.setTop (mkF m 18 #[.val (.int x0), .val (.int x1), .unset, .unset, .unset, .unset] [(.ref b1)]))
  have N4 := Fr.snoc X4 N3 G
  refine own_go (fun t => XS.dup X4.here hx rfl (hb hby at_18) rfl rfl) ?_
  show own_Fin p e below s (own_Q0 n0) room_1.cells room_1.slots (T4.setTop (mkF m 19 #[.val (.int x0), .val (.int x1), .unset, .unset, .unset, .unset] [(.ref b1), (.ref b1)]))
  refine own_go (fun t => XS.iconst X4.here hx rfl (hb hby at_19)) ?_
  show own_Fin p e below s (own_Q0 n0) room_1.cells room_1.slots (T4.setTop (mkF m 20 #[.val (.int x0), .val (.int x1), .unset, .unset, .unset, .unset] [(.int (3 : Int32)), (.ref b1), (.ref b1)]))
  refine own_go (fun t => XS.bipush X4.here hx rfl (hb hby at_20)) ?_
  show own_Fin p e below s (own_Q0 n0) room_1.cells room_1.slots (T4.setTop (mkF m 22 #[.val (.int x0), .val (.int x1), .unset, .unset, .unset, .unset] [(.int (95 : Int32)), (.int (3 : Int32)), (.ref b1), (.ref b1)]))
  obtain ⟨T5, X5, W5, A5, st5⟩ := own_stI X4 hx hZ rfl A4 (by decide) (by decide) (g := (mkF m 22 #[.val (.int x0), .val (.int x1), .unset, .unset, .unset, .unset] [(.int (95 : Int32)), (.int (3 : Int32)), (.ref b1), (.ref b1)])) rfl rfl (hb hby at_22)
  obtain ⟨f5, A5⟩ : ∃ f, own_A Z T5.heap b1 .int (33 : Int32) f := ⟨_, A5⟩
  refine own_go st5 ?_
  show own_Fin p e below s (own_Q0 n0) room_1.cells room_1.slots (T5.setTop (mkF m 23 #[.val (.int x0), .val (.int x1), .unset, .unset, .unset, .unset] [(.ref b1)]))
  have N5 := Fr.snoc X5 N4 G
  refine own_go (fun t => XS.dup X5.here hx rfl (hb hby at_23) rfl rfl) ?_
  show own_Fin p e below s (own_Q0 n0) room_1.cells room_1.slots (T5.setTop (mkF m 24 #[.val (.int x0), .val (.int x1), .unset, .unset, .unset, .unset] [(.ref b1), (.ref b1)]))
  refine own_go (fun t => XS.iconst X5.here hx rfl (hb hby at_24)) ?_
  show own_Fin p e below s (own_Q0 n0) room_1.cells room_1.slots (T5.setTop (mkF m 25 #[.val (.int x0), .val (.int x1), .unset, .unset, .unset, .unset] [(.int (4 : Int32)), (.ref b1), (.ref b1)]))
  refine own_go (fun t => XS.bipush X5.here hx rfl (hb hby at_25)) ?_
  show own_Fin p e below s (own_Q0 n0) room_1.cells room_1.slots (T5.setTop (mkF m 27 #[.val (.int x0), .val (.int x1), .unset, .unset, .unset, .unset] [(.int (96 : Int32)), (.int (4 : Int32)), (.ref b1), (.ref b1)]))
  obtain ⟨T6, X6, W6, A6, st6⟩ := own_stI X5 hx hZ rfl A5 (by decide) (by decide) (g := (mkF m 27 #[.val (.int x0), .val (.int x1), .unset, .unset, .unset, .unset] [(.int (96 : Int32)), (.int (4 : Int32)), (.ref b1), (.ref b1)])) rfl rfl (hb hby at_27)
  obtain ⟨f6, A6⟩ : ∃ f, own_A Z T6.heap b1 .int (33 : Int32) f := ⟨_, A6⟩
  refine own_go st6 ?_
  show own_Fin p e below s (own_Q0 n0) room_1.cells room_1.slots (T6.setTop (mkF m 28 #[.val (.int x0), .val (.int x1), .unset, .unset, .unset, .unset] [(.ref b1)]))
  have N6 := Fr.snoc X6 N5 G
  refine own_go (fun t => XS.dup X6.here hx rfl (hb hby at_28) rfl rfl) ?_
  show own_Fin p e below s (own_Q0 n0) room_1.cells room_1.slots (T6.setTop (mkF m 29 #[.val (.int x0), .val (.int x1), .unset, .unset, .unset, .unset] [(.ref b1), (.ref b1)]))
  refine own_go (fun t => XS.iconst X6.here hx rfl (hb hby at_29)) ?_
  show own_Fin p e below s (own_Q0 n0) room_1.cells room_1.slots (T6.setTop (mkF m 30 #[.val (.int x0), .val (.int x1), .unset, .unset, .unset, .unset] [(.int (5 : Int32)), (.ref b1), (.ref b1)]))
  refine own_go (fun t => XS.bipush X6.here hx rfl (hb hby at_30)) ?_
  show own_Fin p e below s (own_Q0 n0) room_1.cells room_1.slots (T6.setTop (mkF m 32 #[.val (.int x0), .val (.int x1), .unset, .unset, .unset, .unset] [(.int (97 : Int32)), (.int (5 : Int32)), (.ref b1), (.ref b1)]))
  obtain ⟨T7, X7, W7, A7, st7⟩ := own_stI X6 hx hZ rfl A6 (by decide) (by decide) (g := (mkF m 32 #[.val (.int x0), .val (.int x1), .unset, .unset, .unset, .unset] [(.int (97 : Int32)), (.int (5 : Int32)), (.ref b1), (.ref b1)])) rfl rfl (hb hby at_32)
  obtain ⟨f7, A7⟩ : ∃ f, own_A Z T7.heap b1 .int (33 : Int32) f := ⟨_, A7⟩
  refine own_go st7 ?_
  show own_Fin p e below s (own_Q0 n0) room_1.cells room_1.slots (T7.setTop (mkF m 33 #[.val (.int x0), .val (.int x1), .unset, .unset, .unset, .unset] [(.ref b1)]))
  have N7 := Fr.snoc X7 N6 G
  refine own_go (fun t => XS.dup X7.here hx rfl (hb hby at_33) rfl rfl) ?_
  show own_Fin p e below s (own_Q0 n0) room_1.cells room_1.slots (T7.setTop (mkF m 34 #[.val (.int x0), .val (.int x1), .unset, .unset, .unset, .unset] [(.ref b1), (.ref b1)]))
  refine own_go (fun t => XS.bipush X7.here hx rfl (hb hby at_34)) ?_
  show own_Fin p e below s (own_Q0 n0) room_1.cells room_1.slots (T7.setTop (mkF m 36 #[.val (.int x0), .val (.int x1), .unset, .unset, .unset, .unset] [(.int (6 : Int32)), (.ref b1), (.ref b1)]))
  refine own_go (fun t => XS.bipush X7.here hx rfl (hb hby at_36)) ?_
  show own_Fin p e below s (own_Q0 n0) room_1.cells room_1.slots (T7.setTop (mkF m 38 #[.val (.int x0), .val (.int x1), .unset, .unset, .unset, .unset] [(.int (123 : Int32)), (.int (6 : Int32)), (.ref b1), (.ref b1)]))
  obtain ⟨T8, X8, W8, A8, st8⟩ := own_stI X7 hx hZ rfl A7 (by decide) (by decide) (g := (mkF m 38 #[.val (.int x0), .val (.int x1), .unset, .unset, .unset, .unset] [(.int (123 : Int32)), (.int (6 : Int32)), (.ref b1), (.ref b1)])) rfl rfl (hb hby at_38)
  obtain ⟨f8, A8⟩ : ∃ f, own_A Z T8.heap b1 .int (33 : Int32) f := ⟨_, A8⟩
  refine own_go st8 ?_
  show own_Fin p e below s (own_Q0 n0) room_1.cells room_1.slots (T8.setTop (mkF m 39 #[.val (.int x0), .val (.int x1), .unset, .unset, .unset, .unset] [(.ref b1)]))
  have N8 := Fr.snoc X8 N7 G
  refine own_go (fun t => XS.dup X8.here hx rfl (hb hby at_39) rfl rfl) ?_
  show own_Fin p e below s (own_Q0 n0) room_1.cells room_1.slots (T8.setTop (mkF m 40 #[.val (.int x0), .val (.int x1), .unset, .unset, .unset, .unset] [(.ref b1), (.ref b1)]))
  refine own_go (fun t => XS.bipush X8.here hx rfl (hb hby at_40)) ?_
  show own_Fin p e below s (own_Q0 n0) room_1.cells room_1.slots (T8.setTop (mkF m 42 #[.val (.int x0), .val (.int x1), .unset, .unset, .unset, .unset] [(.int (7 : Int32)), (.ref b1), (.ref b1)]))
  refine own_go (fun t => XS.sipush X8.here hx rfl (hb hby at_42)) ?_
  show own_Fin p e below s (own_Q0 n0) room_1.cells room_1.slots (T8.setTop (mkF m 45 #[.val (.int x0), .val (.int x1), .unset, .unset, .unset, .unset] [(.int (192 : Int32)), (.int (7 : Int32)), (.ref b1), (.ref b1)]))
  obtain ⟨T9, X9, W9, A9, st9⟩ := own_stI X8 hx hZ rfl A8 (by decide) (by decide) (g := (mkF m 45 #[.val (.int x0), .val (.int x1), .unset, .unset, .unset, .unset] [(.int (192 : Int32)), (.int (7 : Int32)), (.ref b1), (.ref b1)])) rfl rfl (hb hby at_45)
  obtain ⟨f9, A9⟩ : ∃ f, own_A Z T9.heap b1 .int (33 : Int32) f := ⟨_, A9⟩
  refine own_go st9 ?_
  show own_Fin p e below s (own_Q0 n0) room_1.cells room_1.slots (T9.setTop (mkF m 46 #[.val (.int x0), .val (.int x1), .unset, .unset, .unset, .unset] [(.ref b1)]))
  have N9 := Fr.snoc X9 N8 G
  refine own_go (fun t => XS.dup X9.here hx rfl (hb hby at_46) rfl rfl) ?_
  show own_Fin p e below s (own_Q0 n0) room_1.cells room_1.slots (T9.setTop (mkF m 47 #[.val (.int x0), .val (.int x1), .unset, .unset, .unset, .unset] [(.ref b1), (.ref b1)]))
  refine own_go (fun t => XS.bipush X9.here hx rfl (hb hby at_47)) ?_
  show own_Fin p e below s (own_Q0 n0) room_1.cells room_1.slots (T9.setTop (mkF m 49 #[.val (.int x0), .val (.int x1), .unset, .unset, .unset, .unset] [(.int (8 : Int32)), (.ref b1), (.ref b1)]))
  refine own_go (fun t => XS.sipush X9.here hx rfl (hb hby at_49)) ?_
  show own_Fin p e below s (own_Q0 n0) room_1.cells room_1.slots (T9.setTop (mkF m 52 #[.val (.int x0), .val (.int x1), .unset, .unset, .unset, .unset] [(.int (215 : Int32)), (.int (8 : Int32)), (.ref b1), (.ref b1)]))
  obtain ⟨T10, X10, W10, A10, st10⟩ := own_stI X9 hx hZ rfl A9 (by decide) (by decide) (g := (mkF m 52 #[.val (.int x0), .val (.int x1), .unset, .unset, .unset, .unset] [(.int (215 : Int32)), (.int (8 : Int32)), (.ref b1), (.ref b1)])) rfl rfl (hb hby at_52)
  obtain ⟨f10, A10⟩ : ∃ f, own_A Z T10.heap b1 .int (33 : Int32) f := ⟨_, A10⟩
  refine own_go st10 ?_
  show own_Fin p e below s (own_Q0 n0) room_1.cells room_1.slots (T10.setTop (mkF m 53 #[.val (.int x0), .val (.int x1), .unset, .unset, .unset, .unset] [(.ref b1)]))
  have N10 := Fr.snoc X10 N9 G
  refine own_go (fun t => XS.dup X10.here hx rfl (hb hby at_53) rfl rfl) ?_
  show own_Fin p e below s (own_Q0 n0) room_1.cells room_1.slots (T10.setTop (mkF m 54 #[.val (.int x0), .val (.int x1), .unset, .unset, .unset, .unset] [(.ref b1), (.ref b1)]))
  refine own_go (fun t => XS.bipush X10.here hx rfl (hb hby at_54)) ?_
  show own_Fin p e below s (own_Q0 n0) room_1.cells room_1.slots (T10.setTop (mkF m 56 #[.val (.int x0), .val (.int x1), .unset, .unset, .unset, .unset] [(.int (9 : Int32)), (.ref b1), (.ref b1)]))
  refine own_go (fun t => XS.sipush X10.here hx rfl (hb hby at_56)) ?_
  show own_Fin p e below s (own_Q0 n0) room_1.cells room_1.slots (T10.setTop (mkF m 59 #[.val (.int x0), .val (.int x1), .unset, .unset, .unset, .unset] [(.int (216 : Int32)), (.int (9 : Int32)), (.ref b1), (.ref b1)]))
  obtain ⟨T11, X11, W11, A11, st11⟩ := own_stI X10 hx hZ rfl A10 (by decide) (by decide) (g := (mkF m 59 #[.val (.int x0), .val (.int x1), .unset, .unset, .unset, .unset] [(.int (216 : Int32)), (.int (9 : Int32)), (.ref b1), (.ref b1)])) rfl rfl (hb hby at_59)
  obtain ⟨f11, A11⟩ : ∃ f, own_A Z T11.heap b1 .int (33 : Int32) f := ⟨_, A11⟩
  refine own_go st11 ?_
  show own_Fin p e below s (own_Q0 n0) room_1.cells room_1.slots (T11.setTop (mkF m 60 #[.val (.int x0), .val (.int x1), .unset, .unset, .unset, .unset] [(.ref b1)]))
  have N11 := Fr.snoc X11 N10 G
  refine own_go (fun t => XS.dup X11.here hx rfl (hb hby at_60) rfl rfl) ?_
  show own_Fin p e below s (own_Q0 n0) room_1.cells room_1.slots (T11.setTop (mkF m 61 #[.val (.int x0), .val (.int x1), .unset, .unset, .unset, .unset] [(.ref b1), (.ref b1)]))
  refine own_go (fun t => XS.bipush X11.here hx rfl (hb hby at_61)) ?_
  show own_Fin p e below s (own_Q0 n0) room_1.cells room_1.slots (T11.setTop (mkF m 63 #[.val (.int x0), .val (.int x1), .unset, .unset, .unset, .unset] [(.int (10 : Int32)), (.ref b1), (.ref b1)]))
  refine own_go (fun t => XS.sipush X11.here hx rfl (hb hby at_63)) ?_
  show own_Fin p e below s (own_Q0 n0) room_1.cells room_1.slots (T11.setTop (mkF m 66 #[.val (.int x0), .val (.int x1), .unset, .unset, .unset, .unset] [(.int (247 : Int32)), (.int (10 : Int32)), (.ref b1), (.ref b1)]))
  obtain ⟨T12, X12, W12, A12, st12⟩ := own_stI X11 hx hZ rfl A11 (by decide) (by decide) (g := (mkF m 66 #[.val (.int x0), .val (.int x1), .unset, .unset, .unset, .unset] [(.int (247 : Int32)), (.int (10 : Int32)), (.ref b1), (.ref b1)])) rfl rfl (hb hby at_66)
  obtain ⟨f12, A12⟩ : ∃ f, own_A Z T12.heap b1 .int (33 : Int32) f := ⟨_, A12⟩
  refine own_go st12 ?_
  show own_Fin p e below s (own_Q0 n0) room_1.cells room_1.slots (T12.setTop (mkF m 67 #[.val (.int x0), .val (.int x1), .unset, .unset, .unset, .unset] [(.ref b1)]))
  have N12 := Fr.snoc X12 N11 G
  refine own_go (fun t => XS.dup X12.here hx rfl (hb hby at_67) rfl rfl) ?_
  show own_Fin p e below s (own_Q0 n0) room_1.cells room_1.slots (T12.setTop (mkF m 68 #[.val (.int x0), .val (.int x1), .unset, .unset, .unset, .unset] [(.ref b1), (.ref b1)]))
  refine own_go (fun t => XS.bipush X12.here hx rfl (hb hby at_68)) ?_
  show own_Fin p e below s (own_Q0 n0) room_1.cells room_1.slots (T12.setTop (mkF m 70 #[.val (.int x0), .val (.int x1), .unset, .unset, .unset, .unset] [(.int (11 : Int32)), (.ref b1), (.ref b1)]))
  refine own_go (fun t => XS.sipush X12.here hx rfl (hb hby at_70)) ?_
  show own_Fin p e below s (own_Q0 n0) room_1.cells room_1.slots (T12.setTop (mkF m 73 #[.val (.int x0), .val (.int x1), .unset, .unset, .unset, .unset] [(.int (248 : Int32)), (.int (11 : Int32)), (.ref b1), (.ref b1)]))
  obtain ⟨T13, X13, W13, A13, st13⟩ := own_stI X12 hx hZ rfl A12 (by decide) (by decide) (g := (mkF m 73 #[.val (.int x0), .val (.int x1), .unset, .unset, .unset, .unset] [(.int (248 : Int32)), (.int (11 : Int32)), (.ref b1), (.ref b1)])) rfl rfl (hb hby at_73)
  obtain ⟨f13, A13⟩ : ∃ f, own_A Z T13.heap b1 .int (33 : Int32) f := ⟨_, A13⟩
  refine own_go st13 ?_
  show own_Fin p e below s (own_Q0 n0) room_1.cells room_1.slots (T13.setTop (mkF m 74 #[.val (.int x0), .val (.int x1), .unset, .unset, .unset, .unset] [(.ref b1)]))
  have N13 := Fr.snoc X13 N12 G
  refine own_go (fun t => XS.dup X13.here hx rfl (hb hby at_74) rfl rfl) ?_
  show own_Fin p e below s (own_Q0 n0) room_1.cells room_1.slots (T13.setTop (mkF m 75 #[.val (.int x0), .val (.int x1), .unset, .unset, .unset, .unset] [(.ref b1), (.ref b1)]))
  refine own_go (fun t => XS.bipush X13.here hx rfl (hb hby at_75)) ?_
  show own_Fin p e below s (own_Q0 n0) room_1.cells room_1.slots (T13.setTop (mkF m 77 #[.val (.int x0), .val (.int x1), .unset, .unset, .unset, .unset] [(.int (12 : Int32)), (.ref b1), (.ref b1)]))
  refine own_go (fun t => XS.sipush X13.here hx rfl (hb hby at_77)) ?_
  show own_Fin p e below s (own_Q0 n0) room_1.cells room_1.slots (T13.setTop (mkF m 80 #[.val (.int x0), .val (.int x1), .unset, .unset, .unset, .unset] [(.int (768 : Int32)), (.int (12 : Int32)), (.ref b1), (.ref b1)]))
  obtain ⟨T14, X14, W14, A14, st14⟩ := own_stI X13 hx hZ rfl A13 (by decide) (by decide) (g := (mkF m 80 #[.val (.int x0), .val (.int x1), .unset, .unset, .unset, .unset] [(.int (768 : Int32)), (.int (12 : Int32)), (.ref b1), (.ref b1)])) rfl rfl (hb hby at_80)
  obtain ⟨f14, A14⟩ : ∃ f, own_A Z T14.heap b1 .int (33 : Int32) f := ⟨_, A14⟩
  refine own_go st14 ?_
  show own_Fin p e below s (own_Q0 n0) room_1.cells room_1.slots (T14.setTop (mkF m 81 #[.val (.int x0), .val (.int x1), .unset, .unset, .unset, .unset] [(.ref b1)]))
  have N14 := Fr.snoc X14 N13 G
  refine own_go (fun t => XS.dup X14.here hx rfl (hb hby at_81) rfl rfl) ?_
  show own_Fin p e below s (own_Q0 n0) room_1.cells room_1.slots (T14.setTop (mkF m 82 #[.val (.int x0), .val (.int x1), .unset, .unset, .unset, .unset] [(.ref b1), (.ref b1)]))
  refine own_go (fun t => XS.bipush X14.here hx rfl (hb hby at_82)) ?_
  show own_Fin p e below s (own_Q0 n0) room_1.cells room_1.slots (T14.setTop (mkF m 84 #[.val (.int x0), .val (.int x1), .unset, .unset, .unset, .unset] [(.int (13 : Int32)), (.ref b1), (.ref b1)]))
  refine own_go (fun t => XS.sipush X14.here hx rfl (hb hby at_84)) ?_
  show own_Fin p e below s (own_Q0 n0) room_1.cells room_1.slots (T14.setTop (mkF m 87 #[.val (.int x0), .val (.int x1), .unset, .unset, .unset, .unset] [(.int (880 : Int32)), (.int (13 : Int32)), (.ref b1), (.ref b1)]))
  obtain ⟨T15, X15, W15, A15, st15⟩ := own_stI X14 hx hZ rfl A14 (by decide) (by decide) (g := (mkF m 87 #[.val (.int x0), .val (.int x1), .unset, .unset, .unset, .unset] [(.int (880 : Int32)), (.int (13 : Int32)), (.ref b1), (.ref b1)])) rfl rfl (hb hby at_87)
  obtain ⟨f15, A15⟩ : ∃ f, own_A Z T15.heap b1 .int (33 : Int32) f := ⟨_, A15⟩
  refine own_go st15 ?_
  show own_Fin p e below s (own_Q0 n0) room_1.cells room_1.slots (T15.setTop (mkF m 88 #[.val (.int x0), .val (.int x1), .unset, .unset, .unset, .unset] [(.ref b1)]))
  have N15 := Fr.snoc X15 N14 G
  refine own_go (fun t => XS.dup X15.here hx rfl (hb hby at_88) rfl rfl) ?_
  show own_Fin p e below s (own_Q0 n0) room_1.cells room_1.slots (T15.setTop (mkF m 89 #[.val (.int x0), .val (.int x1), .unset, .unset, .unset, .unset] [(.ref b1), (.ref b1)]))
  refine own_go (fun t => XS.bipush X15.here hx rfl (hb hby at_89)) ?_
  show own_Fin p e below s (own_Q0 n0) room_1.cells room_1.slots (T15.setTop (mkF m 91 #[.val (.int x0), .val (.int x1), .unset, .unset, .unset, .unset] [(.int (14 : Int32)), (.ref b1), (.ref b1)]))
  refine own_go (fun t => XS.sipush X15.here hx rfl (hb hby at_91)) ?_
  show own_Fin p e below s (own_Q0 n0) room_1.cells room_1.slots (T15.setTop (mkF m 94 #[.val (.int x0), .val (.int x1), .unset, .unset, .unset, .unset] [(.int (894 : Int32)), (.int (14 : Int32)), (.ref b1), (.ref b1)]))
  obtain ⟨T16, X16, W16, A16, st16⟩ := own_stI X15 hx hZ rfl A15 (by decide) (by decide) (g := (mkF m 94 #[.val (.int x0), .val (.int x1), .unset, .unset, .unset, .unset] [(.int (894 : Int32)), (.int (14 : Int32)), (.ref b1), (.ref b1)])) rfl rfl (hb hby at_94)
  obtain ⟨f16, A16⟩ : ∃ f, own_A Z T16.heap b1 .int (33 : Int32) f := ⟨_, A16⟩
  refine own_go st16 ?_
  show own_Fin p e below s (own_Q0 n0) room_1.cells room_1.slots (T16.setTop (mkF m 95 #[.val (.int x0), .val (.int x1), .unset, .unset, .unset, .unset] [(.ref b1)]))
  have N16 := Fr.snoc X16 N15 G
  refine own_go (fun t => XS.dup X16.here hx rfl (hb hby at_95) rfl rfl) ?_
  show own_Fin p e below s (own_Q0 n0) room_1.cells room_1.slots (T16.setTop (mkF m 96 #[.val (.int x0), .val (.int x1), .unset, .unset, .unset, .unset] [(.ref b1), (.ref b1)]))
  refine own_go (fun t => XS.bipush X16.here hx rfl (hb hby at_96)) ?_
  show own_Fin p e below s (own_Q0 n0) room_1.cells room_1.slots (T16.setTop (mkF m 98 #[.val (.int x0), .val (.int x1), .unset, .unset, .unset, .unset] [(.int (15 : Int32)), (.ref b1), (.ref b1)]))
  refine own_go (fun t => XS.sipush X16.here hx rfl (hb hby at_98)) ?_
  show own_Fin p e below s (own_Q0 n0) room_1.cells room_1.slots (T16.setTop (mkF m 101 #[.val (.int x0), .val (.int x1), .unset, .unset, .unset, .unset] [(.int (895 : Int32)), (.int (15 : Int32)), (.ref b1), (.ref b1)]))
  obtain ⟨T17, X17, W17, A17, st17⟩ := own_stI X16 hx hZ rfl A16 (by decide) (by decide) (g := (mkF m 101 #[.val (.int x0), .val (.int x1), .unset, .unset, .unset, .unset] [(.int (895 : Int32)), (.int (15 : Int32)), (.ref b1), (.ref b1)])) rfl rfl (hb hby at_101)
  obtain ⟨f17, A17⟩ : ∃ f, own_A Z T17.heap b1 .int (33 : Int32) f := ⟨_, A17⟩
  refine own_go st17 ?_
  show own_Fin p e below s (own_Q0 n0) room_1.cells room_1.slots (T17.setTop (mkF m 102 #[.val (.int x0), .val (.int x1), .unset, .unset, .unset, .unset] [(.ref b1)]))
  have N17 := Fr.snoc X17 N16 G
  refine own_go (fun t => XS.dup X17.here hx rfl (hb hby at_102) rfl rfl) ?_
  show own_Fin p e below s (own_Q0 n0) room_1.cells room_1.slots (T17.setTop (mkF m 103 #[.val (.int x0), .val (.int x1), .unset, .unset, .unset, .unset] [(.ref b1), (.ref b1)]))
  refine own_go (fun t => XS.bipush X17.here hx rfl (hb hby at_103)) ?_
  show own_Fin p e below s (own_Q0 n0) room_1.cells room_1.slots (T17.setTop (mkF m 105 #[.val (.int x0), .val (.int x1), .unset, .unset, .unset, .unset] [(.int (16 : Int32)), (.ref b1), (.ref b1)]))
  refine own_go (fun t => XS.sipush X17.here hx rfl (hb hby at_105)) ?_
  show own_Fin p e below s (own_Q0 n0) room_1.cells room_1.slots (T17.setTop (mkF m 108 #[.val (.int x0), .val (.int x1), .unset, .unset, .unset, .unset] [(.int (8192 : Int32)), (.int (16 : Int32)), (.ref b1), (.ref b1)]))
  obtain ⟨T18, X18, W18, A18, st18⟩ := own_stI X17 hx hZ rfl A17 (by decide) (by decide) (g := (mkF m 108 #[.val (.int x0), .val (.int x1), .unset, .unset, .unset, .unset] [(.int (8192 : Int32)), (.int (16 : Int32)), (.ref b1), (.ref b1)])) rfl rfl (hb hby at_108)
  obtain ⟨f18, A18⟩ : ∃ f, own_A Z T18.heap b1 .int (33 : Int32) f := ⟨_, A18⟩
  refine own_go st18 ?_
  show own_Fin p e below s (own_Q0 n0) room_1.cells room_1.slots (T18.setTop (mkF m 109 #[.val (.int x0), .val (.int x1), .unset, .unset, .unset, .unset] [(.ref b1)]))
  have N18 := Fr.snoc X18 N17 G
  refine own_go (fun t => XS.dup X18.here hx rfl (hb hby at_109) rfl rfl) ?_
  show own_Fin p e below s (own_Q0 n0) room_1.cells room_1.slots (T18.setTop (mkF m 110 #[.val (.int x0), .val (.int x1), .unset, .unset, .unset, .unset] [(.ref b1), (.ref b1)]))
  refine own_go (fun t => XS.bipush X18.here hx rfl (hb hby at_110)) ?_
  show own_Fin p e below s (own_Q0 n0) room_1.cells room_1.slots (T18.setTop (mkF m 112 #[.val (.int x0), .val (.int x1), .unset, .unset, .unset, .unset] [(.int (17 : Int32)), (.ref b1), (.ref b1)]))
  refine own_go (fun t => XS.sipush X18.here hx rfl (hb hby at_112)) ?_
  show own_Fin p e below s (own_Q0 n0) room_1.cells room_1.slots (T18.setTop (mkF m 115 #[.val (.int x0), .val (.int x1), .unset, .unset, .unset, .unset] [(.int (8204 : Int32)), (.int (17 : Int32)), (.ref b1), (.ref b1)]))
  obtain ⟨T19, X19, W19, A19, st19⟩ := own_stI X18 hx hZ rfl A18 (by decide) (by decide) (g := (mkF m 115 #[.val (.int x0), .val (.int x1), .unset, .unset, .unset, .unset] [(.int (8204 : Int32)), (.int (17 : Int32)), (.ref b1), (.ref b1)])) rfl rfl (hb hby at_115)
  obtain ⟨f19, A19⟩ : ∃ f, own_A Z T19.heap b1 .int (33 : Int32) f := ⟨_, A19⟩
  refine own_go st19 ?_
  show own_Fin p e below s (own_Q0 n0) room_1.cells room_1.slots (T19.setTop (mkF m 116 #[.val (.int x0), .val (.int x1), .unset, .unset, .unset, .unset] [(.ref b1)]))
  have N19 := Fr.snoc X19 N18 G
  refine own_go (fun t => XS.dup X19.here hx rfl (hb hby at_116) rfl rfl) ?_
  show own_Fin p e below s (own_Q0 n0) room_1.cells room_1.slots (T19.setTop (mkF m 117 #[.val (.int x0), .val (.int x1), .unset, .unset, .unset, .unset] [(.ref b1), (.ref b1)]))
  refine own_go (fun t => XS.bipush X19.here hx rfl (hb hby at_117)) ?_
  show own_Fin p e below s (own_Q0 n0) room_1.cells room_1.slots (T19.setTop (mkF m 119 #[.val (.int x0), .val (.int x1), .unset, .unset, .unset, .unset] [(.int (18 : Int32)), (.ref b1), (.ref b1)]))
  refine own_go (fun t => XS.sipush X19.here hx rfl (hb hby at_119)) ?_
  show own_Fin p e below s (own_Q0 n0) room_1.cells room_1.slots (T19.setTop (mkF m 122 #[.val (.int x0), .val (.int x1), .unset, .unset, .unset, .unset] [(.int (8206 : Int32)), (.int (18 : Int32)), (.ref b1), (.ref b1)]))
  obtain ⟨T20, X20, W20, A20, st20⟩ := own_stI X19 hx hZ rfl A19 (by decide) (by decide) (g := (mkF m 122 #[.val (.int x0), .val (.int x1), .unset, .unset, .unset, .unset] [(.int (8206 : Int32)), (.int (18 : Int32)), (.ref b1), (.ref b1)])) rfl rfl (hb hby at_122)
  obtain ⟨f20, A20⟩ : ∃ f, own_A Z T20.heap b1 .int (33 : Int32) f := ⟨_, A20⟩
  refine own_go st20 ?_
  show own_Fin p e below s (own_Q0 n0) room_1.cells room_1.slots (T20.setTop (mkF m 123 #[.val (.int x0), .val (.int x1), .unset, .unset, .unset, .unset] [(.ref b1)]))
  have N20 := Fr.snoc X20 N19 G
  refine own_go (fun t => XS.dup X20.here hx rfl (hb hby at_123) rfl rfl) ?_
  show own_Fin p e below s (own_Q0 n0) room_1.cells room_1.slots (T20.setTop (mkF m 124 #[.val (.int x0), .val (.int x1), .unset, .unset, .unset, .unset] [(.ref b1), (.ref b1)]))
  refine own_go (fun t => XS.bipush X20.here hx rfl (hb hby at_124)) ?_
  show own_Fin p e below s (own_Q0 n0) room_1.cells room_1.slots (T20.setTop (mkF m 126 #[.val (.int x0), .val (.int x1), .unset, .unset, .unset, .unset] [(.int (19 : Int32)), (.ref b1), (.ref b1)]))
  refine own_go (fun t => XS.sipush X20.here hx rfl (hb hby at_126)) ?_
  show own_Fin p e below s (own_Q0 n0) room_1.cells room_1.slots (T20.setTop (mkF m 129 #[.val (.int x0), .val (.int x1), .unset, .unset, .unset, .unset] [(.int (8304 : Int32)), (.int (19 : Int32)), (.ref b1), (.ref b1)]))
  obtain ⟨T21, X21, W21, A21, st21⟩ := own_stI X20 hx hZ rfl A20 (by decide) (by decide) (g := (mkF m 129 #[.val (.int x0), .val (.int x1), .unset, .unset, .unset, .unset] [(.int (8304 : Int32)), (.int (19 : Int32)), (.ref b1), (.ref b1)])) rfl rfl (hb hby at_129)
  obtain ⟨f21, A21⟩ : ∃ f, own_A Z T21.heap b1 .int (33 : Int32) f := ⟨_, A21⟩
  refine own_go st21 ?_
  show own_Fin p e below s (own_Q0 n0) room_1.cells room_1.slots (T21.setTop (mkF m 130 #[.val (.int x0), .val (.int x1), .unset, .unset, .unset, .unset] [(.ref b1)]))
  have N21 := Fr.snoc X21 N20 G
  refine own_go (fun t => XS.dup X21.here hx rfl (hb hby at_130) rfl rfl) ?_
  show own_Fin p e below s (own_Q0 n0) room_1.cells room_1.slots (T21.setTop (mkF m 131 #[.val (.int x0), .val (.int x1), .unset, .unset, .unset, .unset] [(.ref b1), (.ref b1)]))
  refine own_go (fun t => XS.bipush X21.here hx rfl (hb hby at_131)) ?_
  show own_Fin p e below s (own_Q0 n0) room_1.cells room_1.slots (T21.setTop (mkF m 133 #[.val (.int x0), .val (.int x1), .unset, .unset, .unset, .unset] [(.int (20 : Int32)), (.ref b1), (.ref b1)]))
  refine own_go (fun t => XS.sipush X21.here hx rfl (hb hby at_133)) ?_
  show own_Fin p e below s (own_Q0 n0) room_1.cells room_1.slots (T21.setTop (mkF m 136 #[.val (.int x0), .val (.int x1), .unset, .unset, .unset, .unset] [(.int (8592 : Int32)), (.int (20 : Int32)), (.ref b1), (.ref b1)]))
  obtain ⟨T22, X22, W22, A22, st22⟩ := own_stI X21 hx hZ rfl A21 (by decide) (by decide) (g := (mkF m 136 #[.val (.int x0), .val (.int x1), .unset, .unset, .unset, .unset] [(.int (8592 : Int32)), (.int (20 : Int32)), (.ref b1), (.ref b1)])) rfl rfl (hb hby at_136)
  obtain ⟨f22, A22⟩ : ∃ f, own_A Z T22.heap b1 .int (33 : Int32) f := ⟨_, A22⟩
  refine own_go st22 ?_
  show own_Fin p e below s (own_Q0 n0) room_1.cells room_1.slots (T22.setTop (mkF m 137 #[.val (.int x0), .val (.int x1), .unset, .unset, .unset, .unset] [(.ref b1)]))
  have N22 := Fr.snoc X22 N21 G
  refine own_go (fun t => XS.dup X22.here hx rfl (hb hby at_137) rfl rfl) ?_
  show own_Fin p e below s (own_Q0 n0) room_1.cells room_1.slots (T22.setTop (mkF m 138 #[.val (.int x0), .val (.int x1), .unset, .unset, .unset, .unset] [(.ref b1), (.ref b1)]))
  refine own_go (fun t => XS.bipush X22.here hx rfl (hb hby at_138)) ?_
  show own_Fin p e below s (own_Q0 n0) room_1.cells room_1.slots (T22.setTop (mkF m 140 #[.val (.int x0), .val (.int x1), .unset, .unset, .unset, .unset] [(.int (21 : Int32)), (.ref b1), (.ref b1)]))
  refine own_go (fun t => XS.sipush X22.here hx rfl (hb hby at_140)) ?_
  show own_Fin p e below s (own_Q0 n0) room_1.cells room_1.slots (T22.setTop (mkF m 143 #[.val (.int x0), .val (.int x1), .unset, .unset, .unset, .unset] [(.int (11264 : Int32)), (.int (21 : Int32)), (.ref b1), (.ref b1)]))
  obtain ⟨T23, X23, W23, A23, st23⟩ := own_stI X22 hx hZ rfl A22 (by decide) (by decide) (g := (mkF m 143 #[.val (.int x0), .val (.int x1), .unset, .unset, .unset, .unset] [(.int (11264 : Int32)), (.int (21 : Int32)), (.ref b1), (.ref b1)])) rfl rfl (hb hby at_143)
  obtain ⟨f23, A23⟩ : ∃ f, own_A Z T23.heap b1 .int (33 : Int32) f := ⟨_, A23⟩
  refine own_go st23 ?_
  show own_Fin p e below s (own_Q0 n0) room_1.cells room_1.slots (T23.setTop (mkF m 144 #[.val (.int x0), .val (.int x1), .unset, .unset, .unset, .unset] [(.ref b1)]))
  have N23 := Fr.snoc X23 N22 G
  refine own_go (fun t => XS.dup X23.here hx rfl (hb hby at_144) rfl rfl) ?_
  show own_Fin p e below s (own_Q0 n0) room_1.cells room_1.slots (T23.setTop (mkF m 145 #[.val (.int x0), .val (.int x1), .unset, .unset, .unset, .unset] [(.ref b1), (.ref b1)]))
  refine own_go (fun t => XS.bipush X23.here hx rfl (hb hby at_145)) ?_
  show own_Fin p e below s (own_Q0 n0) room_1.cells room_1.slots (T23.setTop (mkF m 147 #[.val (.int x0), .val (.int x1), .unset, .unset, .unset, .unset] [(.int (22 : Int32)), (.ref b1), (.ref b1)]))
  refine own_go (fun t => XS.sipush X23.here hx rfl (hb hby at_147)) ?_
  show own_Fin p e below s (own_Q0 n0) room_1.cells room_1.slots (T23.setTop (mkF m 150 #[.val (.int x0), .val (.int x1), .unset, .unset, .unset, .unset] [(.int (12272 : Int32)), (.int (22 : Int32)), (.ref b1), (.ref b1)]))
  obtain ⟨T24, X24, W24, A24, st24⟩ := own_stI X23 hx hZ rfl A23 (by decide) (by decide) (g := (mkF m 150 #[.val (.int x0), .val (.int x1), .unset, .unset, .unset, .unset] [(.int (12272 : Int32)), (.int (22 : Int32)), (.ref b1), (.ref b1)])) rfl rfl (hb hby at_150)
  obtain ⟨f24, A24⟩ : ∃ f, own_A Z T24.heap b1 .int (33 : Int32) f := ⟨_, A24⟩
  refine own_go st24 ?_
  show own_Fin p e below s (own_Q0 n0) room_1.cells room_1.slots (T24.setTop (mkF m 151 #[.val (.int x0), .val (.int x1), .unset, .unset, .unset, .unset] [(.ref b1)]))
  have N24 := Fr.snoc X24 N23 G
  refine own_go (fun t => XS.dup X24.here hx rfl (hb hby at_151) rfl rfl) ?_
  show own_Fin p e below s (own_Q0 n0) room_1.cells room_1.slots (T24.setTop (mkF m 152 #[.val (.int x0), .val (.int x1), .unset, .unset, .unset, .unset] [(.ref b1), (.ref b1)]))
  refine own_go (fun t => XS.bipush X24.here hx rfl (hb hby at_152)) ?_
  show own_Fin p e below s (own_Q0 n0) room_1.cells room_1.slots (T24.setTop (mkF m 154 #[.val (.int x0), .val (.int x1), .unset, .unset, .unset, .unset] [(.int (23 : Int32)), (.ref b1), (.ref b1)]))
  refine own_go (fun t => XS.sipush X24.here hx rfl (hb hby at_154)) ?_
  show own_Fin p e below s (own_Q0 n0) room_1.cells room_1.slots (T24.setTop (mkF m 157 #[.val (.int x0), .val (.int x1), .unset, .unset, .unset, .unset] [(.int (12289 : Int32)), (.int (23 : Int32)), (.ref b1), (.ref b1)]))
  obtain ⟨T25, X25, W25, A25, st25⟩ := own_stI X24 hx hZ rfl A24 (by decide) (by decide) (g := (mkF m 157 #[.val (.int x0), .val (.int x1), .unset, .unset, .unset, .unset] [(.int (12289 : Int32)), (.int (23 : Int32)), (.ref b1), (.ref b1)])) rfl rfl (hb hby at_157)
  obtain ⟨f25, A25⟩ : ∃ f, own_A Z T25.heap b1 .int (33 : Int32) f := ⟨_, A25⟩
  refine own_go st25 ?_
  show own_Fin p e below s (own_Q0 n0) room_1.cells room_1.slots (T25.setTop (mkF m 158 #[.val (.int x0), .val (.int x1), .unset, .unset, .unset, .unset] [(.ref b1)]))
  have N25 := Fr.snoc X25 N24 G
  refine own_go (fun t => XS.dup X25.here hx rfl (hb hby at_158) rfl rfl) ?_
  show own_Fin p e below s (own_Q0 n0) room_1.cells room_1.slots (T25.setTop (mkF m 159 #[.val (.int x0), .val (.int x1), .unset, .unset, .unset, .unset] [(.ref b1), (.ref b1)]))
  refine own_go (fun t => XS.bipush X25.here hx rfl (hb hby at_159)) ?_
  show own_Fin p e below s (own_Q0 n0) room_1.cells room_1.slots (T25.setTop (mkF m 161 #[.val (.int x0), .val (.int x1), .unset, .unset, .unset, .unset] [(.int (24 : Int32)), (.ref b1), (.ref b1)]))
  refine own_go (fun t => X25.ldcInt hx hown (mvT hZ (hw _ (List.mem_of_getElem? (i := 1) rfl))) (g := (mkF m 161 #[.val (.int x0), .val (.int x1), .unset, .unset, .unset, .unset] [(.int (24 : Int32)), (.ref b1), (.ref b1)])) rfl (hb hby at_161) t) ?_
  show own_Fin p e below s (own_Q0 n0) room_1.cells room_1.slots (T25.setTop (mkF m 163 #[.val (.int x0), .val (.int x1), .unset, .unset, .unset, .unset] [(.int (55296 : Int32)), (.int (24 : Int32)), (.ref b1), (.ref b1)]))
  obtain ⟨T26, X26, W26, A26, st26⟩ := own_stI X25 hx hZ rfl A25 (by decide) (by decide) (g := (mkF m 163 #[.val (.int x0), .val (.int x1), .unset, .unset, .unset, .unset] [(.int (55296 : Int32)), (.int (24 : Int32)), (.ref b1), (.ref b1)])) rfl rfl (hb hby at_163)
  obtain ⟨f26, A26⟩ : ∃ f, own_A Z T26.heap b1 .int (33 : Int32) f := ⟨_, A26⟩
  refine own_go st26 ?_
  show own_Fin p e below s (own_Q0 n0) room_1.cells room_1.slots (T26.setTop (mkF m 164 #[.val (.int x0), .val (.int x1), .unset, .unset, .unset, .unset] [(.ref b1)]))
  have N26 := Fr.snoc X26 N25 G
  refine own_go (fun t => XS.dup X26.here hx rfl (hb hby at_164) rfl rfl) ?_
  show own_Fin p e below s (own_Q0 n0) room_1.cells room_1.slots (T26.setTop (mkF m 165 #[.val (.int x0), .val (.int x1), .unset, .unset, .unset, .unset] [(.ref b1), (.ref b1)]))
  refine own_go (fun t => XS.bipush X26.here hx rfl (hb hby at_165)) ?_
  show own_Fin p e below s (own_Q0 n0) room_1.cells room_1.slots (T26.setTop (mkF m 167 #[.val (.int x0), .val (.int x1), .unset, .unset, .unset, .unset] [(.int (25 : Int32)), (.ref b1), (.ref b1)]))
  refine own_go (fun t => X26.ldcInt hx hown (mvT hZ (hw _ (List.mem_of_getElem? (i := 2) rfl))) (g := (mkF m 167 #[.val (.int x0), .val (.int x1), .unset, .unset, .unset, .unset] [(.int (25 : Int32)), (.ref b1), (.ref b1)])) rfl (hb hby at_167) t) ?_
  show own_Fin p e below s (own_Q0 n0) room_1.cells room_1.slots (T26.setTop (mkF m 169 #[.val (.int x0), .val (.int x1), .unset, .unset, .unset, .unset] [(.int (63744 : Int32)), (.int (25 : Int32)), (.ref b1), (.ref b1)]))
  obtain ⟨T27, X27, W27, A27, st27⟩ := own_stI X26 hx hZ rfl A26 (by decide) (by decide) (g := (mkF m 169 #[.val (.int x0), .val (.int x1), .unset, .unset, .unset, .unset] [(.int (63744 : Int32)), (.int (25 : Int32)), (.ref b1), (.ref b1)])) rfl rfl (hb hby at_169)
  obtain ⟨f27, A27⟩ : ∃ f, own_A Z T27.heap b1 .int (33 : Int32) f := ⟨_, A27⟩
  refine own_go st27 ?_
  show own_Fin p e below s (own_Q0 n0) room_1.cells room_1.slots (T27.setTop (mkF m 170 #[.val (.int x0), .val (.int x1), .unset, .unset, .unset, .unset] [(.ref b1)]))
  have N27 := Fr.snoc X27 N26 G
  refine own_go (fun t => XS.dup X27.here hx rfl (hb hby at_170) rfl rfl) ?_
  show own_Fin p e below s (own_Q0 n0) room_1.cells room_1.slots (T27.setTop (mkF m 171 #[.val (.int x0), .val (.int x1), .unset, .unset, .unset, .unset] [(.ref b1), (.ref b1)]))
  refine own_go (fun t => XS.bipush X27.here hx rfl (hb hby at_171)) ?_
  show own_Fin p e below s (own_Q0 n0) room_1.cells room_1.slots (T27.setTop (mkF m 173 #[.val (.int x0), .val (.int x1), .unset, .unset, .unset, .unset] [(.int (26 : Int32)), (.ref b1), (.ref b1)]))
  refine own_go (fun t => X27.ldcInt hx hown (mvT hZ (hw _ (List.mem_of_getElem? (i := 3) rfl))) (g := (mkF m 173 #[.val (.int x0), .val (.int x1), .unset, .unset, .unset, .unset] [(.int (26 : Int32)), (.ref b1), (.ref b1)])) rfl (hb hby at_173) t) ?_
  show own_Fin p e below s (own_Q0 n0) room_1.cells room_1.slots (T27.setTop (mkF m 175 #[.val (.int x0), .val (.int x1), .unset, .unset, .unset, .unset] [(.int (64976 : Int32)), (.int (26 : Int32)), (.ref b1), (.ref b1)]))
  obtain ⟨T28, X28, W28, A28, st28⟩ := own_stI X27 hx hZ rfl A27 (by decide) (by decide) (g := (mkF m 175 #[.val (.int x0), .val (.int x1), .unset, .unset, .unset, .unset] [(.int (64976 : Int32)), (.int (26 : Int32)), (.ref b1), (.ref b1)])) rfl rfl (hb hby at_175)
  obtain ⟨f28, A28⟩ : ∃ f, own_A Z T28.heap b1 .int (33 : Int32) f := ⟨_, A28⟩
  refine own_go st28 ?_
  show own_Fin p e below s (own_Q0 n0) room_1.cells room_1.slots (T28.setTop (mkF m 176 #[.val (.int x0), .val (.int x1), .unset, .unset, .unset, .unset] [(.ref b1)]))
  have N28 := Fr.snoc X28 N27 G
  refine own_go (fun t => XS.dup X28.here hx rfl (hb hby at_176) rfl rfl) ?_
  show own_Fin p e below s (own_Q0 n0) room_1.cells room_1.slots (T28.setTop (mkF m 177 #[.val (.int x0), .val (.int x1), .unset, .unset, .unset, .unset] [(.ref b1), (.ref b1)]))
  refine own_go (fun t => XS.bipush X28.here hx rfl (hb hby at_177)) ?_
  show own_Fin p e below s (own_Q0 n0) room_1.cells room_1.slots (T28.setTop (mkF m 179 #[.val (.int x0), .val (.int x1), .unset, .unset, .unset, .unset] [(.int (27 : Int32)), (.ref b1), (.ref b1)]))
  refine own_go (fun t => X28.ldcInt hx hown (mvT hZ (hw _ (List.mem_of_getElem? (i := 4) rfl))) (g := (mkF m 179 #[.val (.int x0), .val (.int x1), .unset, .unset, .unset, .unset] [(.int (27 : Int32)), (.ref b1), (.ref b1)])) rfl (hb hby at_179) t) ?_
  show own_Fin p e below s (own_Q0 n0) room_1.cells room_1.slots (T28.setTop (mkF m 181 #[.val (.int x0), .val (.int x1), .unset, .unset, .unset, .unset] [(.int (65008 : Int32)), (.int (27 : Int32)), (.ref b1), (.ref b1)]))
  obtain ⟨T29, X29, W29, A29, st29⟩ := own_stI X28 hx hZ rfl A28 (by decide) (by decide) (g := (mkF m 181 #[.val (.int x0), .val (.int x1), .unset, .unset, .unset, .unset] [(.int (65008 : Int32)), (.int (27 : Int32)), (.ref b1), (.ref b1)])) rfl rfl (hb hby at_181)
  obtain ⟨f29, A29⟩ : ∃ f, own_A Z T29.heap b1 .int (33 : Int32) f := ⟨_, A29⟩
  refine own_go st29 ?_
  show own_Fin p e below s (own_Q0 n0) room_1.cells room_1.slots (T29.setTop (mkF m 182 #[.val (.int x0), .val (.int x1), .unset, .unset, .unset, .unset] [(.ref b1)]))
  have N29 := Fr.snoc X29 N28 G
  refine own_go (fun t => XS.dup X29.here hx rfl (hb hby at_182) rfl rfl) ?_
  show own_Fin p e below s (own_Q0 n0) room_1.cells room_1.slots (T29.setTop (mkF m 183 #[.val (.int x0), .val (.int x1), .unset, .unset, .unset, .unset] [(.ref b1), (.ref b1)]))
  refine own_go (fun t => XS.bipush X29.here hx rfl (hb hby at_183)) ?_
  show own_Fin p e below s (own_Q0 n0) room_1.cells room_1.slots (T29.setTop (mkF m 185 #[.val (.int x0), .val (.int x1), .unset, .unset, .unset, .unset] [(.int (28 : Int32)), (.ref b1), (.ref b1)]))
  refine own_go (fun t => X29.ldcInt hx hown (mvT hZ (hw _ (List.mem_of_getElem? (i := 5) rfl))) (g := (mkF m 185 #[.val (.int x0), .val (.int x1), .unset, .unset, .unset, .unset] [(.int (28 : Int32)), (.ref b1), (.ref b1)])) rfl (hb hby at_185) t) ?_
  show own_Fin p e below s (own_Q0 n0) room_1.cells room_1.slots (T29.setTop (mkF m 187 #[.val (.int x0), .val (.int x1), .unset, .unset, .unset, .unset] [(.int (65534 : Int32)), (.int (28 : Int32)), (.ref b1), (.ref b1)]))
  obtain ⟨T30, X30, W30, A30, st30⟩ := own_stI X29 hx hZ rfl A29 (by decide) (by decide) (g := (mkF m 187 #[.val (.int x0), .val (.int x1), .unset, .unset, .unset, .unset] [(.int (65534 : Int32)), (.int (28 : Int32)), (.ref b1), (.ref b1)])) rfl rfl (hb hby at_187)
  obtain ⟨f30, A30⟩ : ∃ f, own_A Z T30.heap b1 .int (33 : Int32) f := ⟨_, A30⟩
  refine own_go st30 ?_
  show own_Fin p e below s (own_Q0 n0) room_1.cells room_1.slots (T30.setTop (mkF m 188 #[.val (.int x0), .val (.int x1), .unset, .unset, .unset, .unset] [(.ref b1)]))
  have N30 := Fr.snoc X30 N29 G
  refine own_go (fun t => XS.dup X30.here hx rfl (hb hby at_188) rfl rfl) ?_
  show own_Fin p e below s (own_Q0 n0) room_1.cells room_1.slots (T30.setTop (mkF m 189 #[.val (.int x0), .val (.int x1), .unset, .unset, .unset, .unset] [(.ref b1), (.ref b1)]))
  refine own_go (fun t => XS.bipush X30.here hx rfl (hb hby at_189)) ?_
  show own_Fin p e below s (own_Q0 n0) room_1.cells room_1.slots (T30.setTop (mkF m 191 #[.val (.int x0), .val (.int x1), .unset, .unset, .unset, .unset] [(.int (29 : Int32)), (.ref b1), (.ref b1)]))
  refine own_go (fun t => X30.ldcInt hx hown (mvT hZ (hw _ (List.mem_of_getElem? (i := 6) rfl))) (g := (mkF m 191 #[.val (.int x0), .val (.int x1), .unset, .unset, .unset, .unset] [(.int (29 : Int32)), (.ref b1), (.ref b1)])) rfl (hb hby at_191) t) ?_
  show own_Fin p e below s (own_Q0 n0) room_1.cells room_1.slots (T30.setTop (mkF m 193 #[.val (.int x0), .val (.int x1), .unset, .unset, .unset, .unset] [(.int (65536 : Int32)), (.int (29 : Int32)), (.ref b1), (.ref b1)]))
  obtain ⟨T31, X31, W31, A31, st31⟩ := own_stI X30 hx hZ rfl A30 (by decide) (by decide) (g := (mkF m 193 #[.val (.int x0), .val (.int x1), .unset, .unset, .unset, .unset] [(.int (65536 : Int32)), (.int (29 : Int32)), (.ref b1), (.ref b1)])) rfl rfl (hb hby at_193)
  obtain ⟨f31, A31⟩ : ∃ f, own_A Z T31.heap b1 .int (33 : Int32) f := ⟨_, A31⟩
  refine own_go st31 ?_
  show own_Fin p e below s (own_Q0 n0) room_1.cells room_1.slots (T31.setTop (mkF m 194 #[.val (.int x0), .val (.int x1), .unset, .unset, .unset, .unset] [(.ref b1)]))
  have N31 := Fr.snoc X31 N30 G
  refine own_go (fun t => XS.dup X31.here hx rfl (hb hby at_194) rfl rfl) ?_
  show own_Fin p e below s (own_Q0 n0) room_1.cells room_1.slots (T31.setTop (mkF m 195 #[.val (.int x0), .val (.int x1), .unset, .unset, .unset, .unset] [(.ref b1), (.ref b1)]))
  refine own_go (fun t => XS.bipush X31.here hx rfl (hb hby at_195)) ?_
  show own_Fin p e below s (own_Q0 n0) room_1.cells room_1.slots (T31.setTop (mkF m 197 #[.val (.int x0), .val (.int x1), .unset, .unset, .unset, .unset] [(.int (30 : Int32)), (.ref b1), (.ref b1)]))
  refine own_go (fun t => X31.ldcInt hx hown (mvT hZ (hw _ (List.mem_of_getElem? (i := 7) rfl))) (g := (mkF m 197 #[.val (.int x0), .val (.int x1), .unset, .unset, .unset, .unset] [(.int (30 : Int32)), (.ref b1), (.ref b1)])) rfl (hb hby at_197) t) ?_
  show own_Fin p e below s (own_Q0 n0) room_1.cells room_1.slots (T31.setTop (mkF m 199 #[.val (.int x0), .val (.int x1), .unset, .unset, .unset, .unset] [(.int (983040 : Int32)), (.int (30 : Int32)), (.ref b1), (.ref b1)]))
  obtain ⟨T32, X32, W32, A32, st32⟩ := own_stI X31 hx hZ rfl A31 (by decide) (by decide) (g := (mkF m 199 #[.val (.int x0), .val (.int x1), .unset, .unset, .unset, .unset] [(.int (983040 : Int32)), (.int (30 : Int32)), (.ref b1), (.ref b1)])) rfl rfl (hb hby at_199)
  obtain ⟨f32, A32⟩ : ∃ f, own_A Z T32.heap b1 .int (33 : Int32) f := ⟨_, A32⟩
  refine own_go st32 ?_
  show own_Fin p e below s (own_Q0 n0) room_1.cells room_1.slots (T32.setTop (mkF m 200 #[.val (.int x0), .val (.int x1), .unset, .unset, .unset, .unset] [(.ref b1)]))
  have N32 := Fr.snoc X32 N31 G
  refine own_go (fun t => XS.dup X32.here hx rfl (hb hby at_200) rfl rfl) ?_
  show own_Fin p e below s (own_Q0 n0) room_1.cells room_1.slots (T32.setTop (mkF m 201 #[.val (.int x0), .val (.int x1), .unset, .unset, .unset, .unset] [(.ref b1), (.ref b1)]))
  refine own_go (fun t => XS.bipush X32.here hx rfl (hb hby at_201)) ?_
  show own_Fin p e below s (own_Q0 n0) room_1.cells room_1.slots (T32.setTop (mkF m 203 #[.val (.int x0), .val (.int x1), .unset, .unset, .unset, .unset] [(.int (31 : Int32)), (.ref b1), (.ref b1)]))
  refine own_go (fun t => X32.ldcInt hx hown (mvT hZ (hw _ (List.mem_of_getElem? (i := 8) rfl))) (g := (mkF m 203 #[.val (.int x0), .val (.int x1), .unset, .unset, .unset, .unset] [(.int (31 : Int32)), (.ref b1), (.ref b1)])) rfl (hb hby at_203) t) ?_
  show own_Fin p e below s (own_Q0 n0) room_1.cells room_1.slots (T32.setTop (mkF m 205 #[.val (.int x0), .val (.int x1), .unset, .unset, .unset, .unset] [(.int (2147483647 : Int32)), (.int (31 : Int32)), (.ref b1), (.ref b1)]))
  obtain ⟨T33, X33, W33, A33, st33⟩ := own_stI X32 hx hZ rfl A32 (by decide) (by decide) (g := (mkF m 205 #[.val (.int x0), .val (.int x1), .unset, .unset, .unset, .unset] [(.int (2147483647 : Int32)), (.int (31 : Int32)), (.ref b1), (.ref b1)])) rfl rfl (hb hby at_205)
  obtain ⟨f33, A33⟩ : ∃ f, own_A Z T33.heap b1 .int (33 : Int32) f := ⟨_, A33⟩
  refine own_go st33 ?_
  show own_Fin p e below s (own_Q0 n0) room_1.cells room_1.slots (T33.setTop (mkF m 206 #[.val (.int x0), .val (.int x1), .unset, .unset, .unset, .unset] [(.ref b1)]))
  have N33 := Fr.snoc X33 N32 G
  refine own_go (fun t => XS.dup X33.here hx rfl (hb hby at_206) rfl rfl) ?_
  show own_Fin p e below s (own_Q0 n0) room_1.cells room_1.slots (T33.setTop (mkF m 207 #[.val (.int x0), .val (.int x1), .unset, .unset, .unset, .unset] [(.ref b1), (.ref b1)]))
  refine own_go (fun t => XS.bipush X33.here hx rfl (hb hby at_207)) ?_
  show own_Fin p e below s (own_Q0 n0) room_1.cells room_1.slots (T33.setTop (mkF m 209 #[.val (.int x0), .val (.int x1), .unset, .unset, .unset, .unset] [(.int (32 : Int32)), (.ref b1), (.ref b1)]))
  refine own_go (fun t => X33.ldcInt hx hown (mvT hZ (hw _ (List.mem_of_getElem? (i := 9) rfl))) (g := (mkF m 209 #[.val (.int x0), .val (.int x1), .unset, .unset, .unset, .unset] [(.int (32 : Int32)), (.ref b1), (.ref b1)])) rfl (hb hby at_209) t) ?_
  show own_Fin p e below s (own_Q0 n0) room_1.cells room_1.slots (T33.setTop (mkF m 211 #[.val (.int x0), .val (.int x1), .unset, .unset, .unset, .unset] [(.int (-2147483648 : Int32)), (.int (32 : Int32)), (.ref b1), (.ref b1)]))
  obtain ⟨T34, X34, W34, A34, st34⟩ := own_stI X33 hx hZ rfl A33 (by decide) (by decide) (g := (mkF m 211 #[.val (.int x0), .val (.int x1), .unset, .unset, .unset, .unset] [(.int (-2147483648 : Int32)), (.int (32 : Int32)), (.ref b1), (.ref b1)])) rfl rfl (hb hby at_211)
  obtain ⟨f34, A34⟩ : ∃ f, own_A Z T34.heap b1 .int (33 : Int32) f := ⟨_, A34⟩
  refine own_go st34 ?_
  show own_Fin p e below s (own_Q0 n0) room_1.cells room_1.slots (T34.setTop (mkF m 212 #[.val (.int x0), .val (.int x1), .unset, .unset, .unset, .unset] [(.ref b1)]))
  have N34 := Fr.snoc X34 N33 G
  refine own_go (fun t => XS.astoreN X34.here hx rfl (hb hby at_212) rfl rfl (l' := #[.val (.int x0), .val (.int x1), .val (.ref b1), .unset, .unset, .unset]) rfl) ?_
  show own_Fin p e below s (own_Q0 n0) room_1.cells room_1.slots (T34.setTop (mkF m 213 #[.val (.int x0), .val (.int x1), .val (.ref b1), .unset, .unset, .unset] []))
  refine own_go (fun t => XS.iloadN X34.here hx rfl (hb hby at_213) rfl) ?_
  show own_Fin p e below s (own_Q0 n0) room_1.cells room_1.slots (T34.setTop (mkF m 214 #[.val (.int x0), .val (.int x1), .val (.ref b1), .unset, .unset, .unset] [(.int x1)]))
  refine own_go (fun t => X34.ldcInt hx hown (mvT hZ (hw _ (List.mem_of_getElem? (i := 8) rfl))) (g := (mkF m 214 #[.val (.int x0), .val (.int x1), .val (.ref b1), .unset, .unset, .unset] [(.int x1)])) rfl (hb hby at_214) t) ?_
  show own_Fin p e below s (own_Q0 n0) room_1.cells room_1.slots (T34.setTop (mkF m 216 #[.val (.int x0), .val (.int x1), .val (.ref b1), .unset, .unset, .unset] [(.int (2147483647 : Int32)), (.int x1)]))
  refine own_go (fun t => XS.iand X34.here hx rfl (hb hby at_216) rfl) ?_
  show own_Fin p e below s (own_Q0 n0) room_1.cells room_1.slots (T34.setTop (mkF m 217 #[.val (.int x0), .val (.int x1), .val (.ref b1), .unset, .unset, .unset] [(.int (x1 &&& (2147483647 : Int32)))]))
  refine own_go (fun t => XS.aloadN X34.here hx rfl (hb hby at_217) rfl rfl) ?_
  show own_Fin p e below s (own_Q0 n0) room_1.cells room_1.slots (T34.setTop (mkF m 218 #[.val (.int x0), .val (.int x1), .val (.ref b1), .unset, .unset, .unset] [(.ref b1), (.int (x1 &&& (2147483647 : Int32)))]))
  refine own_go (own_len X34 hx hZ rfl A34 (g := (mkF m 218 #[.val (.int x0), .val (.int x1), .val (.ref b1), .unset, .unset, .unset] [(.ref b1), (.int (x1 &&& (2147483647 : Int32)))])) rfl rfl (hb hby at_218)) ?_
  show own_Fin p e below s (own_Q0 n0) room_1.cells room_1.slots (T34.setTop (mkF m 219 #[.val (.int x0), .val (.int x1), .val (.ref b1), .unset, .unset, .unset] [(.int (33 : Int32)), (.int (x1 &&& (2147483647 : Int32)))]))
  refine own_go (fun t => Jvm.RoadKit.iremM X34 hx rfl (hb hby at_219) rfl (by decide)) ?_
  show own_Fin p e below s (own_Q0 n0) room_1.cells room_1.slots (T34.setTop (mkF m 220 #[.val (.int x0), .val (.int x1), .val (.ref b1), .unset, .unset, .unset] [(.int ((x1 &&& (2147483647 : Int32)) % (33 : Int32)))]))
  refine own_go (fun t => XS.istoreN X34.here hx rfl (hb hby at_220) rfl (l' := #[.val (.int x0), .val (.int x1), .val (.ref b1), .val (.int ((x1 &&& (2147483647 : Int32)) % (33 : Int32))), .unset, .unset]) rfl) ?_
  show own_Fin p e below s (own_Q0 n0) room_1.cells room_1.slots (T34.setTop (mkF m 221 #[.val (.int x0), .val (.int x1), .val (.ref b1), .val (.int ((x1 &&& (2147483647 : Int32)) % (33 : Int32))), .unset, .unset] []))
  refine own_go (fun t => XS.iloadN X34.here hx rfl (hb hby at_221) rfl) ?_
  show own_Fin p e below s (own_Q0 n0) room_1.cells room_1.slots (T34.setTop (mkF m 222 #[.val (.int x0), .val (.int x1), .val (.ref b1), .val (.int ((x1 &&& (2147483647 : Int32)) % (33 : Int32))), .unset, .unset] [(.int x1)]))
  refine own_go (fun t => XS.bipush X34.here hx rfl (hb hby at_222)) ?_
  show own_Fin p e below s (own_Q0 n0) room_1.cells room_1.slots (T34.setTop (mkF m 224 #[.val (.int x0), .val (.int x1), .val (.ref b1), .val (.int ((x1 &&& (2147483647 : Int32)) % (33 : Int32))), .unset, .unset] [(.int (16 : Int32)), (.int x1)]))
  refine own_go (fun t => XS.ishr X34.here hx rfl (hb hby at_224) rfl) ?_
  show own_Fin p e below s (own_Q0 n0) room_1.cells room_1.slots (T34.setTop (mkF m 225 #[.val (.int x0), .val (.int x1), .val (.ref b1), .val (.int ((x1 &&& (2147483647 : Int32)) % (33 : Int32))), .unset, .unset] [(.int (x1 >>> ((16 : Int32) &&& 31)))]))
  refine own_go (fun t => XS.iconst X34.here hx rfl (hb hby at_225)) ?_
  show own_Fin p e below s (own_Q0 n0) room_1.cells room_1.slots (T34.setTop (mkF m 226 #[.val (.int x0), .val (.int x1), .val (.ref b1), .val (.int ((x1 &&& (2147483647 : Int32)) % (33 : Int32))), .unset, .unset] [(.int (3 : Int32)), (.int (x1 >>> ((16 : Int32) &&& 31)))]))
  refine own_go (fun t => XS.iand X34.here hx rfl (hb hby at_226) rfl) ?_
  show own_Fin p e below s (own_Q0 n0) room_1.cells room_1.slots (T34.setTop (mkF m 227 #[.val (.int x0), .val (.int x1), .val (.ref b1), .val (.int ((x1 &&& (2147483647 : Int32)) % (33 : Int32))), .unset, .unset] [(.int ((x1 >>> ((16 : Int32) &&& 31)) &&& (3 : Int32)))]))
  refine own_go (fun t => XS.iconst X34.here hx rfl (hb hby at_227)) ?_
  show own_Fin p e below s (own_Q0 n0) room_1.cells room_1.slots (T34.setTop (mkF m 228 #[.val (.int x0), .val (.int x1), .val (.ref b1), .val (.int ((x1 &&& (2147483647 : Int32)) % (33 : Int32))), .unset, .unset] [(.int (2 : Int32)), (.int ((x1 >>> ((16 : Int32) &&& 31)) &&& (3 : Int32)))]))
  refine own_go (fun t => XS.isub X34.here hx rfl (hb hby at_228) rfl) ?_
  show own_Fin p e below s (own_Q0 n0) room_1.cells room_1.slots (T34.setTop (mkF m 229 #[.val (.int x0), .val (.int x1), .val (.ref b1), .val (.int ((x1 &&& (2147483647 : Int32)) % (33 : Int32))), .unset, .unset] [(.int (((x1 >>> ((16 : Int32) &&& 31)) &&& (3 : Int32)) - (2 : Int32)))]))
  refine own_go (fun t => XS.istore X34.here hx rfl (hb hby at_229) rfl (l' := #[.val (.int x0), .val (.int x1), .val (.ref b1), .val (.int ((x1 &&& (2147483647 : Int32)) % (33 : Int32))), .val (.int (((x1 >>> ((16 : Int32) &&& 31)) &&& (3 : Int32)) - (2 : Int32))), .unset]) rfl) ?_
  show own_Fin p e below s (own_Q0 n0) room_1.cells room_1.slots (T34.setTop (mkF m 231 #[.val (.int x0), .val (.int x1), .val (.ref b1), .val (.int ((x1 &&& (2147483647 : Int32)) % (33 : Int32))), .val (.int (((x1 >>> ((16 : Int32) &&& 31)) &&& (3 : Int32)) - (2 : Int32))), .unset] []))
  refine own_go (fun t => XS.aloadN X34.here hx rfl (hb hby at_231) rfl rfl) ?_
  show own_Fin p e below s (own_Q0 n0) room_1.cells room_1.slots (T34.setTop (mkF m 232 #[.val (.int x0), .val (.int x1), .val (.ref b1), .val (.int ((x1 &&& (2147483647 : Int32)) % (33 : Int32))), .val (.int (((x1 >>> ((16 : Int32) &&& 31)) &&& (3 : Int32)) - (2 : Int32))), .unset] [(.ref b1)]))
  refine own_go (fun t => XS.iloadN X34.here hx rfl (hb hby at_232) rfl) ?_
  show own_Fin p e below s (own_Q0 n0) room_1.cells room_1.slots (T34.setTop (mkF m 233 #[.val (.int x0), .val (.int x1), .val (.ref b1), .val (.int ((x1 &&& (2147483647 : Int32)) % (33 : Int32))), .val (.int (((x1 >>> ((16 : Int32) &&& 31)) &&& (3 : Int32)) - (2 : Int32))), .unset] [(.int ((x1 &&& (2147483647 : Int32)) % (33 : Int32))), (.ref b1)]))
  have hj := own_modpos x1 33 33 (by decide) (by decide)
  refine own_go (own_ldI X34 hx hZ rfl A34 (j := ((x1 &&& (2147483647 : Int32)) % (33 : Int32))) (own_nlt 0 (by decide) hj.1) (own_lt 33 (by decide) hj.2) (g := (mkF m 233 #[.val (.int x0), .val (.int x1), .val (.ref b1), .val (.int ((x1 &&& (2147483647 : Int32)) % (33 : Int32))), .val (.int (((x1 >>> ((16 : Int32) &&& 31)) &&& (3 : Int32)) - (2 : Int32))), .unset] [(.int ((x1 &&& (2147483647 : Int32)) % (33 : Int32))), (.ref b1)])) rfl rfl (hb hby at_233)) ?_
  show own_Fin p e below s (own_Q0 n0) room_1.cells room_1.slots (T34.setTop (mkF m 234 #[.val (.int x0), .val (.int x1), .val (.ref b1), .val (.int ((x1 &&& (2147483647 : Int32)) % (33 : Int32))), .val (.int (((x1 >>> ((16 : Int32) &&& 31)) &&& (3 : Int32)) - (2 : Int32))), .unset] [(.int (f34 ((x1 &&& (2147483647 : Int32)) % (33 : Int32))))]))
  refine own_go (fun t => XS.iload X34.here hx rfl (hb hby at_234) rfl) ?_
  show own_Fin p e below s (own_Q0 n0) room_1.cells room_1.slots (T34.setTop (mkF m 236 #[.val (.int x0), .val (.int x1), .val (.ref b1), .val (.int ((x1 &&& (2147483647 : Int32)) % (33 : Int32))), .val (.int (((x1 >>> ((16 : Int32) &&& 31)) &&& (3 : Int32)) - (2 : Int32))), .unset] [(.int (((x1 >>> ((16 : Int32) &&& 31)) &&& (3 : Int32)) - (2 : Int32))), (.int (f34 ((x1 &&& (2147483647 : Int32)) % (33 : Int32))))]))
  refine own_go (fun t => XS.iadd X34.here hx rfl (hb hby at_236) rfl) ?_
  show own_Fin p e below s (own_Q0 n0) room_1.cells room_1.slots (T34.setTop (mkF m 237 #[.val (.int x0), .val (.int x1), .val (.ref b1), .val (.int ((x1 &&& (2147483647 : Int32)) % (33 : Int32))), .val (.int (((x1 >>> ((16 : Int32) &&& 31)) &&& (3 : Int32)) - (2 : Int32))), .unset] [(.int ((f34 ((x1 &&& (2147483647 : Int32)) % (33 : Int32))) + (((x1 >>> ((16 : Int32) &&& 31)) &&& (3 : Int32)) - (2 : Int32))))]))
  generalize ((f34 ((x1 &&& (2147483647 : Int32)) % (33 : Int32))) + (((x1 >>> ((16 : Int32) &&& 31)) &&& (3 : Int32)) - (2 : Int32))) = e5
  show own_Fin p e below s (own_Q0 n0) room_1.cells room_1.slots (T34.setTop (mkF m 237 #[.val (.int x0), .val (.int x1), .val (.ref b1), .val (.int ((x1 &&& (2147483647 : Int32)) % (33 : Int32))), .val (.int (((x1 >>> ((16 : Int32) &&& 31)) &&& (3 : Int32)) - (2 : Int32))), .unset] [(.int e5)]))
  refine own_go (fun t => XS.istore X34.here hx rfl (hb hby at_237) rfl (l' := #[.val (.int x0), .val (.int x1), .val (.ref b1), .val (.int ((x1 &&& (2147483647 : Int32)) % (33 : Int32))), .val (.int (((x1 >>> ((16 : Int32) &&& 31)) &&& (3 : Int32)) - (2 : Int32))), .val (.int e5)]) rfl) ?_
  show own_Fin p e below s (own_Q0 n0) room_1.cells room_1.slots (T34.setTop (mkF m 239 #[.val (.int x0), .val (.int x1), .val (.ref b1), .val (.int ((x1 &&& (2147483647 : Int32)) % (33 : Int32))), .val (.int (((x1 >>> ((16 : Int32) &&& 31)) &&& (3 : Int32)) - (2 : Int32))), .val (.int e5)] []))
  refine own_go (fun t => XS.iloadN X34.here hx rfl (hb hby at_239) rfl) ?_
  show own_Fin p e below s (own_Q0 n0) room_1.cells room_1.slots (T34.setTop (mkF m 240 #[.val (.int x0), .val (.int x1), .val (.ref b1), .val (.int ((x1 &&& (2147483647 : Int32)) % (33 : Int32))), .val (.int (((x1 >>> ((16 : Int32) &&& 31)) &&& (3 : Int32)) - (2 : Int32))), .val (.int e5)] [(.int x0)]))
  obtain ⟨T35, X35, e35, st35⟩ := own_callP X34 hx hZ rfl (y := (⟨"com/example/dovetail/dovetail/xml/XmlNames", "mayStart", "(I)Z"⟩ : MethodName)) hown (hw _ (List.mem_of_getElem? (i := 10) rfl)) (hw _ (List.mem_of_getElem? (i := 11) rfl)) (hw _ (List.mem_of_getElem? (i := 12) rfl)) (hw _ (List.mem_of_getElem? (i := 13) rfl)) (by decide) (argsL := [(.int x0)]) (rest := []) (own_c1 l Z a0 hw x0 _) (by decide) 0 (by decide) (by decide) (by decide) (g := (mkF m 240 #[.val (.int x0), .val (.int x1), .val (.ref b1), .val (.int ((x1 &&& (2147483647 : Int32)) % (33 : Int32))), .val (.int (((x1 >>> ((16 : Int32) &&& 31)) &&& (3 : Int32)) - (2 : Int32))), .val (.int e5)] [(.int x0)])) rfl (by rw [hml]; rfl) (lenOf own_pd0 rfl) rfl (by show 2 * 0 + _ ≤ _; exact Nat.le_of_eq rfl) (hb hby at_240)
  refine own_go st35 ?_
  show own_Fin p e below s (own_Q0 n0) room_1.cells room_1.slots (T35.setTop (mkF m 243 #[.val (.int x0), .val (.int x1), .val (.ref b1), .val (.int ((x1 &&& (2147483647 : Int32)) % (33 : Int32))), .val (.int (((x1 >>> ((16 : Int32) &&& 31)) &&& (3 : Int32)) - (2 : Int32))), .val (.int e5)] [(.int (own_f1_0 x0))]))
  refine own_go (fun t => XS.iloadN X35.here hx rfl (hb hby at_243) rfl) ?_
  show own_Fin p e below s (own_Q0 n0) room_1.cells room_1.slots (T35.setTop (mkF m 244 #[.val (.int x0), .val (.int x1), .val (.ref b1), .val (.int ((x1 &&& (2147483647 : Int32)) % (33 : Int32))), .val (.int (((x1 >>> ((16 : Int32) &&& 31)) &&& (3 : Int32)) - (2 : Int32))), .val (.int e5)] [(.int x0), (.int (own_f1_0 x0))]))
  obtain ⟨T36, X36, e36, st36⟩ := own_callP X35 hx hZ e35 (y := (⟨"com/example/dovetail/dovetail/xml/XmlNamesMayStartPinLaw", "expected", "(I)Z"⟩ : MethodName)) hown (hw _ (List.mem_of_getElem? (i := 17) rfl)) (hw _ (List.mem_of_getElem? (i := 18) rfl)) (hw _ (List.mem_of_getElem? (i := 19) rfl)) (hw _ (List.mem_of_getElem? (i := 20) rfl)) (by decide) (argsL := [(.int x0)]) (rest := [(.int (own_f1_0 x0))]) (own_c2 l Z a0 hw x0 _) (by decide) 1 (by decide) (by decide) (by decide) (g := (mkF m 244 #[.val (.int x0), .val (.int x1), .val (.ref b1), .val (.int ((x1 &&& (2147483647 : Int32)) % (33 : Int32))), .val (.int (((x1 >>> ((16 : Int32) &&& 31)) &&& (3 : Int32)) - (2 : Int32))), .val (.int e5)] [(.int x0), (.int (own_f1_0 x0))])) rfl (by rw [hml]; rfl) (lenOf own_pd0 rfl) rfl (by show 2 * 0 + _ ≤ _; exact Nat.le_of_eq rfl) (hb hby at_244)
  refine own_go st36 ?_
  show own_Fin p e below s (own_Q0 n0) room_1.cells room_1.slots (T36.setTop (mkF m 247 #[.val (.int x0), .val (.int x1), .val (.ref b1), .val (.int ((x1 &&& (2147483647 : Int32)) % (33 : Int32))), .val (.int (((x1 >>> ((16 : Int32) &&& 31)) &&& (3 : Int32)) - (2 : Int32))), .val (.int e5)] [(.int (own_f2_0 x0)), (.int (own_f1_0 x0))]))
  refine own_go (fun t => XS.icmpNo X36.here hx rfl (hb hby at_247) rfl (teq (own_same x0)).2) ?_
  show own_Fin p e below s (own_Q0 n0) room_1.cells room_1.slots (T36.setTop (mkF m 250 #[.val (.int x0), .val (.int x1), .val (.ref b1), .val (.int ((x1 &&& (2147483647 : Int32)) % (33 : Int32))), .val (.int (((x1 >>> ((16 : Int32) &&& 31)) &&& (3 : Int32)) - (2 : Int32))), .val (.int e5)] []))
  refine own_go (fun t => XS.iload X36.here hx rfl (hb hby at_250) rfl) ?_
  show own_Fin p e below s (own_Q0 n0) room_1.cells room_1.slots (T36.setTop (mkF m 252 #[.val (.int x0), .val (.int x1), .val (.ref b1), .val (.int ((x1 &&& (2147483647 : Int32)) % (33 : Int32))), .val (.int (((x1 >>> ((16 : Int32) &&& 31)) &&& (3 : Int32)) - (2 : Int32))), .val (.int e5)] [(.int e5)]))
  obtain ⟨T37, X37, e37, st37⟩ := own_callP X36 hx hZ e36 (y := (⟨"com/example/dovetail/dovetail/xml/XmlNames", "mayStart", "(I)Z"⟩ : MethodName)) hown (hw _ (List.mem_of_getElem? (i := 10) rfl)) (hw _ (List.mem_of_getElem? (i := 11) rfl)) (hw _ (List.mem_of_getElem? (i := 12) rfl)) (hw _ (List.mem_of_getElem? (i := 13) rfl)) (by decide) (argsL := [(.int e5)]) (rest := []) (own_c1 l Z a0 hw e5 _) (by decide) 0 (by decide) (by decide) (by decide) (g := (mkF m 252 #[.val (.int x0), .val (.int x1), .val (.ref b1), .val (.int ((x1 &&& (2147483647 : Int32)) % (33 : Int32))), .val (.int (((x1 >>> ((16 : Int32) &&& 31)) &&& (3 : Int32)) - (2 : Int32))), .val (.int e5)] [(.int e5)])) rfl (by rw [hml]; rfl) (lenOf own_pd0 rfl) rfl (by show 2 * 0 + _ ≤ _; exact Nat.le_of_eq rfl) (hb hby at_252)
  refine own_go st37 ?_
  show own_Fin p e below s (own_Q0 n0) room_1.cells room_1.slots (T37.setTop (mkF m 255 #[.val (.int x0), .val (.int x1), .val (.ref b1), .val (.int ((x1 &&& (2147483647 : Int32)) % (33 : Int32))), .val (.int (((x1 >>> ((16 : Int32) &&& 31)) &&& (3 : Int32)) - (2 : Int32))), .val (.int e5)] [(.int (own_f1_0 e5))]))
  refine own_go (fun t => XS.iload X37.here hx rfl (hb hby at_255) rfl) ?_
  show own_Fin p e below s (own_Q0 n0) room_1.cells room_1.slots (T37.setTop (mkF m 257 #[.val (.int x0), .val (.int x1), .val (.ref b1), .val (.int ((x1 &&& (2147483647 : Int32)) % (33 : Int32))), .val (.int (((x1 >>> ((16 : Int32) &&& 31)) &&& (3 : Int32)) - (2 : Int32))), .val (.int e5)] [(.int e5), (.int (own_f1_0 e5))]))
  obtain ⟨T38, X38, e38, st38⟩ := own_callP X37 hx hZ e37 (y := (⟨"com/example/dovetail/dovetail/xml/XmlNamesMayStartPinLaw", "expected", "(I)Z"⟩ : MethodName)) hown (hw _ (List.mem_of_getElem? (i := 17) rfl)) (hw _ (List.mem_of_getElem? (i := 18) rfl)) (hw _ (List.mem_of_getElem? (i := 19) rfl)) (hw _ (List.mem_of_getElem? (i := 20) rfl)) (by decide) (argsL := [(.int e5)]) (rest := [(.int (own_f1_0 e5))]) (own_c2 l Z a0 hw e5 _) (by decide) 1 (by decide) (by decide) (by decide) (g := (mkF m 257 #[.val (.int x0), .val (.int x1), .val (.ref b1), .val (.int ((x1 &&& (2147483647 : Int32)) % (33 : Int32))), .val (.int (((x1 >>> ((16 : Int32) &&& 31)) &&& (3 : Int32)) - (2 : Int32))), .val (.int e5)] [(.int e5), (.int (own_f1_0 e5))])) rfl (by rw [hml]; rfl) (lenOf own_pd0 rfl) rfl (by show 2 * 0 + _ ≤ _; exact Nat.le_of_eq rfl) (hb hby at_257)
  refine own_go st38 ?_
  show own_Fin p e below s (own_Q0 n0) room_1.cells room_1.slots (T38.setTop (mkF m 260 #[.val (.int x0), .val (.int x1), .val (.ref b1), .val (.int ((x1 &&& (2147483647 : Int32)) % (33 : Int32))), .val (.int (((x1 >>> ((16 : Int32) &&& 31)) &&& (3 : Int32)) - (2 : Int32))), .val (.int e5)] [(.int (own_f2_0 e5)), (.int (own_f1_0 e5))]))
  refine own_go (fun t => XS.icmpNo X38.here hx rfl (hb hby at_260) rfl (teq (own_same e5)).2) ?_
  show own_Fin p e below s (own_Q0 n0) room_1.cells room_1.slots (T38.setTop (mkF m 263 #[.val (.int x0), .val (.int x1), .val (.ref b1), .val (.int ((x1 &&& (2147483647 : Int32)) % (33 : Int32))), .val (.int (((x1 >>> ((16 : Int32) &&& 31)) &&& (3 : Int32)) - (2 : Int32))), .val (.int e5)] []))
  refine own_go (fun t => XS.iconst X38.here hx rfl (hb hby at_263)) ?_
  show own_Fin p e below s (own_Q0 n0) room_1.cells room_1.slots (T38.setTop (mkF m 264 #[.val (.int x0), .val (.int x1), .val (.ref b1), .val (.int ((x1 &&& (2147483647 : Int32)) % (33 : Int32))), .val (.int (((x1 >>> ((16 : Int32) &&& 31)) &&& (3 : Int32)) - (2 : Int32))), .val (.int e5)] [(.int (1 : Int32))]))
  refine own_go (fun t => XS.goto X38.here hx rfl (pc0 := 264) (pc' := 268) rfl (hb hby at_264) (by decide) (by decide)) ?_
  show own_Fin p e below s (own_Q0 n0) room_1.cells room_1.slots (T38.setTop (mkF m 268 #[.val (.int x0), .val (.int x1), .val (.ref b1), .val (.int ((x1 &&& (2147483647 : Int32)) % (33 : Int32))), .val (.int (((x1 >>> ((16 : Int32) &&& 31)) &&& (3 : Int32)) - (2 : Int32))), .val (.int e5)] [(.int (1 : Int32))]))
  exact own_ret X38 hlk hx (t := .boolean) hret rfl (Or.inl ⟨rfl, by simp, _, rfl⟩) (hb hby at_268) ⟨rfl, N34⟩ (by decide) (by decide)
theorem own_rm0 (l : Launch) (Z : State) (a0 : Array Value) (hw : ∀ d ∈ tables_1, d.before a0 Z = true) (ws : List Jvm.Cond) (x0 : Int32) (x1 : Int32) (h0 : Heap) (n0 : Nat) (Z0 : n0 ≤ h0.size) : own_Met l Z x code maxLocals ret ws room_1 #[(.int x0), (.int x1)] h0 (own_Q0 n0) :=
  own_enter (plainFor_of_name own_pn1) (own_ef0 x0 x1) hw (fun p e s m below meth c T X C hh => own_law X C hh x0 x1 n0 Z0)
set_option maxRecDepth 65536 in
set_option maxHeartbeats 40000000 in
theorem own_comes {Post : Tables → Env → Array Value → State → Outcome → State → Prop} (hpost : ∀ tb e args s v u, (limb_1_1.after args s (.returned v) u = true ∧ limb_1_2.after args s (.returned v) u = true ∧ True) → FrameEnd s (.returned v) u (Jvm.fieldLocs frame_1_writes args s ++ Jvm.arrayLocs frame_1_arrays args s ++ Jvm.staticLocs frame_1_statics s) 16 192 → Post tb e args s (.returned v) u) :
    ArmFor flags0 classFile x code maxLocals ret World_1 tables_1 room_1 Calls_1 rest_1 Pre_1 Post := by
  intro l hfl _ _ p e ha hc hk s m args below hf hA hF happ hP
  obtain ⟨hcalls, hrest, hpre⟩ := hP
  obtain ⟨-, -, -, hnamed, -, -, -, hat⟩ := (Spec.applies_iff hf).mp happ
  obtain ⟨hg, hn⟩ := and_e (Cond.before_iff.mp (show (Jvm.Cond.and given_1 narrow_1).before args s = true from hpre))
  obtain ⟨g0, r0⟩ := and_e hg
  obtain ⟨g1, r1⟩ := and_e r0
  obtain ⟨w0, w1, rfl⟩ : ∃ w0 w1 : Value, args = #[w0, w1] := by
    have hs : args.size = 2 := by simpa [Cond.value, given_1] using g0
    obtain ⟨L⟩ := args
    match L, hs with
    | [w0, w1], _ => exact ⟨w0, w1, rfl⟩
  have hw := fun d (hd : d ∈ tables_1) => atoms_spec (ws := Jvm.Cond.code x code maxLocals ret :: tables_1) hat d (List.mem_cons_of_mem _ hd)
  obtain ⟨i0, ei0⟩ := is_v g1
  obtain rfl : w0 = (.int i0) := Option.some.inj ei0
  obtain ⟨i1, ei1⟩ := is_v r1
  obtain rfl : w1 = (.int i1) := Option.some.inj ei1
  obtain ⟨n, o, h1, h2, h3, _, L, rfl, ⟨rfl, N⟩, hq⟩ := own_rm0 l s _ hw tables_1 i0 i1 s.heap s.heap.size (Nat.le_refl _) p e ha hc hk s m _ below hf ((Spec.applies_iff_loose hf).mp happ).1 ⟨rfl, State.Warmed39.refl s, rfl⟩ trivial
  refine ⟨n, _, h1, h2, h3, hpost _ _ _ _ _ _ ⟨Cond.after_iff.mpr rfl, Cond.after_iff.mpr (eq_i res_at (Term.int_eval (1)) rfl), trivial⟩ ⟨hq.1, hq.2.1, (hq.2.2.sift fun y hy => Or.inr (N y hy)).mono (by decide) (by decide)⟩⟩
theorem main_1_1 : Claimed_1_1 := own_comes fun _ _ _ _ _ _ h hF => ⟨h.1, hF⟩
theorem main_1_2 : Claimed_1_2 := own_comes fun _ _ _ _ _ _ h hF => ⟨h.2.1, hF⟩
end Jvm.Pilot.@@N@@
namespace Jvm.Pilot.@@N@@
open Jvm Jvm.ClassFile Sem Op Lib Jvm.Free Jvm.Stand Jvm.Pilot.@@N@@.Jvm.D
/-! MADE BY PROGRAM (witnessworld.py) out of the Statement's table words and the real class files: 9 classes; the members and pool entries that the words name. The judged class is class 1, her method 1. -/
namespace start1
open Jvm.ClassFile
def u (s : String) : CpInfo := .utf8 (stringToUtf16 s)
/-- a pool by its gaps: so many unusable entries, then the entry; so many at the end -/
def gap : Nat → List CpInfo → List CpInfo
  | 0, r => r
  | n + 1, r => .unusable :: gap n r
def poolList (es : List (Nat × CpInfo)) (last : Nat) : List CpInfo := es.foldr (fun e r => gap e.1 (e.2 :: r)) (gap last [])
def pool (es : List (Nat × CpInfo)) (last : Nat) : Array CpInfo := ⟨poolList es last⟩
def fileOf (pool : Array CpInfo) (this : Nat) (attrs : Array Attribute := #[]) (ms : Array MethodInfo := #[]) (fl : Nat := 33) (sup : Nat := 0) (ifs : Array Nat := #[]) (fds : Array FieldInfo := #[]) : ClassFile where
  minorVersion := 0
  majorVersion := 65
  constantPool := pool
  accessFlags := fl
  thisClass := this
  superClass := sup
  interfaces := ifs
  fields := fds
  methods := ms
  attributes := attrs
def plain (name : String) (sup : Option ClassId) : Class where
  name := name
  kind := .ordinary
  loader := none
  accessFlags := 33
  super := sup
  interfaces := #[]
  cf := none
  fields := #[]
  methods := #[]
  instanceTypes := #[]
  staticTypes := #[]
  resolved := #[]
  callSites := []
  init := .initialized
  statics := none
  mirror := none

def pool0 : Array CpInfo := pool [(5, u "<init>"), (0, u "()V"), (1, .class_ 10), (1, u "java/lang/Object")] 113

def k0m0 : Method := { name := "<init>", desc := "()V", sig := { parameters := [], returnType := none }, accessFlags := 1, code := none }
/-- java/lang/Object -/
def k0 : Class := { plain "java/lang/Object" none with
  accessFlags := 33
  interfaces := #[]
  cf := some (fileOf pool0 8 #[] #[{ accessFlags := 1, nameIndex := 5, descriptorIndex := 6, attributes := #[] }] 33 0 #[] #[])
  fields := #[]
  methods := #[k0m0]
  instanceTypes := #[]
  staticTypes := #[]
  resolved := Array.replicate 124 none
  statics := none }

def pool1 : Array CpInfo := pool [(2, .class_ 4), (1, u "java/lang/Object"), (0, u "<init>"), (0, u "()V"), (0, .integer 55296), (0, .integer 63744), (0, .integer 64976), (0, .integer 65008), (0, .integer 65534), (0, .integer 65536), (0, .integer 983040), (2, .integer 2147483647), (0, .integer 2147483648), (0, .methodref 19 20), (0, .class_ 21), (0, .nameAndType 22 23), (0, u "com/example/dovetail/dovetail/xml/XmlNames"), (0, u "mayStart"), (0, u "(I)Z"), (0, .methodref 25 26), (0, .class_ 27), (0, .nameAndType 28 23), (0, u "com/example/dovetail/dovetail/xml/XmlNamesMayStartPinLaw"), (0, u "expected"), (0, .integer 983039), (0, .integer 63743), (0, .integer 65007), (0, .integer 65535), (2, u "law"), (0, u "(II)Z")] 5

def k1m0 : Method := { name := "<init>", desc := "()V", sig := { parameters := [], returnType := none }, accessFlags := 2, code := none }
def k1c1 : Code := { maxStack := 4, maxLocals := 6, code := code, exceptionTable := #[], attributes := #[] }
def k1m1 : Method := { name := "law", desc := "(II)Z", sig := { parameters := [.int, .int], returnType := some .boolean }, accessFlags := 9, code := some k1c1 }
def k1c2 : Code := { maxStack := 2, maxLocals := 1, code := method_3_code, exceptionTable := #[], attributes := #[] }
def k1m2 : Method := { name := "expected", desc := "(I)Z", sig := { parameters := [.int], returnType := some .boolean }, accessFlags := 10, code := some k1c2 }
/-- com/example/dovetail/dovetail/xml/XmlNamesMayStartPinLaw -/
def k1 : Class := { plain "com/example/dovetail/dovetail/xml/XmlNamesMayStartPinLaw" (some 0) with
  accessFlags := 49
  interfaces := #[]
  cf := some (fileOf pool1 25 #[] #[{ accessFlags := 2, nameIndex := 5, descriptorIndex := 6, attributes := #[] }, { accessFlags := 9, nameIndex := 35, descriptorIndex := 36, attributes := #[] }, { accessFlags := 10, nameIndex := 28, descriptorIndex := 23, attributes := #[] }] 49 2 #[] #[])
  fields := #[]
  methods := #[k1m0, k1m1, k1m2]
  instanceTypes := #[]
  staticTypes := #[]
  resolved := Array.replicate 42 none
  statics := none }

def pool2 : Array CpInfo := pool [(2, .class_ 4), (1, u "java/lang/Object"), (0, u "<init>"), (0, u "()V"), (7, .class_ 16), (1, u "com/example/dovetail/dovetail/xml/XmlNames"), (24, u "mayStart"), (0, u "(I)Z"), (12, .integer 55295), (0, .integer 63744), (0, .integer 64975), (0, .integer 65008), (0, .integer 65533), (0, .integer 65536), (0, .integer 983039)] 53

def k2m0 : Method := { name := "<init>", desc := "()V", sig := { parameters := [], returnType := none }, accessFlags := 2, code := none }
def k2c1 : Code := { maxStack := 2, maxLocals := 1, code := prog_121_method_5_code, exceptionTable := #[], attributes := #[] }
def k2m1 : Method := { name := "mayStart", desc := "(I)Z", sig := { parameters := [.int], returnType := some .boolean }, accessFlags := 8, code := some k2c1 }
/-- com/example/dovetail/dovetail/xml/XmlNames -/
def k2 : Class := { plain "com/example/dovetail/dovetail/xml/XmlNames" (some 0) with
  accessFlags := 48
  interfaces := #[]
  cf := some (fileOf pool2 14 #[] #[{ accessFlags := 2, nameIndex := 5, descriptorIndex := 6, attributes := #[] }, { accessFlags := 8, nameIndex := 41, descriptorIndex := 42, attributes := #[] }] 48 2 #[] #[])
  fields := #[]
  methods := #[k2m0, k2m1]
  instanceTypes := #[]
  staticTypes := #[]
  resolved := Array.replicate 115 none
  statics := none }

def pool3 : Array CpInfo := pool [(1, u "java/lang/Cloneable"), (0, .class_ 1), (0, u "java/lang/Object"), (0, .class_ 3)] 3

/-- java/lang/Cloneable -/
def k3 : Class := { plain "java/lang/Cloneable" (some 0) with
  accessFlags := 1537
  interfaces := #[]
  cf := some (fileOf pool3 2 #[] #[] 1537 4 #[] #[])
  fields := #[]
  methods := #[]
  instanceTypes := #[]
  staticTypes := #[]
  resolved := Array.replicate 8 none
  statics := none }

def pool4 : Array CpInfo := pool [(1, u "java/io/Serializable"), (0, .class_ 1), (0, u "java/lang/Object"), (0, .class_ 3)] 3

/-- java/io/Serializable -/
def k4 : Class := { plain "java/io/Serializable" (some 0) with
  accessFlags := 1537
  interfaces := #[]
  cf := some (fileOf pool4 2 #[] #[] 1537 4 #[] #[])
  fields := #[]
  methods := #[]
  instanceTypes := #[]
  staticTypes := #[]
  resolved := Array.replicate 8 none
  statics := none }

/-- the primitive byte -/
def k5 : Class := { plain "byte" none with kind := .primitive 'B', accessFlags := 0x411 }
/-- [B -/
def k6 : Class := { plain "[B" (some 0) with kind := .array 5 .byte, interfaces := #[3, 4], accessFlags := 1041 }

/-- the primitive int -/
def k7 : Class := { plain "int" none with kind := .primitive 'I', accessFlags := 0x411 }
/-- [I -/
def k8 : Class := { plain "[I" (some 0) with kind := .array 7 .int, interfaces := #[3, 4], accessFlags := 1041 }

def heap : Heap := #[]
def classes : Array Class := #[k0, k1, k2, k3, k4, k5, k6, k7, k8]
def interned : List (Array UInt16 × Addr) := []
def slotsUsed : Nat := 0
def theMethod : MethodId := ⟨1, 1⟩
def args0 : Array Value := #[.int 5, .int 3]
def aboutOver (below : List Frame) : State where
  vm := { classes := classes, interned := interned.toArray }
  heap := heap
  slotsUsed := slotsUsed
  threads := #[{ frames := .invoking theMethod args0 :: below }]
def below0 : List Frame := [.native { method := ⟨0, 0⟩, args := #[] }]
def about1 : State := aboutOver below0
def p0 : Program := .bare "" "" ""
def e0 : Env := launch0.env 0 0 0
theorem w_frames : about1.frames = Frame.invoking theMethod args0 :: below0 := rfl
set_option maxRecDepth 65536 in
theorem w_args : argsFit about1.vm theMethod args0 = true := by decide +kernel
set_option maxRecDepth 65536 in
theorem w_heap : heapFits about1 = true := by decide +kernel
set_option maxRecDepth 65536 in
theorem w_runnable : about1.curStatus? = some .runnable := by decide +kernel
set_option maxRecDepth 65536 in
theorem w_alone : about1.alone = true := by decide +kernel
set_option maxRecDepth 65536 in
theorem w_named : about1.methodNamed? x = some theMethod := by decide +kernel
set_option maxRecDepth 65536 in
theorem w_hears : about1.hears theMethod below0 = true := by decide +kernel
set_option maxRecDepth 65536 in
theorem w_ripe : about1.ripe theMethod args0 below0 = true := by decide +kernel
theorem w_running : about1.status = .running := rfl
set_option maxRecDepth 65536 in
theorem w_room : about1.hasRoom e0.platform room_1 = true :=
  launch0.hasRoom_least _ room_1 (by decide +kernel) (by decide +kernel) (by decide +kernel) (by decide +kernel) (by decide +kernel) (by decide +kernel)
theorem allAtoms_all (ts : List Jvm.Cond) (a : Array Jvm.Value) (st : Jvm.State) : (allAtoms ts).before a st = ts.all (fun c => c.before a st) := by
  induction ts with
  | nil => rfl
  | cons c t ih =>
    show (Jvm.Cond.and c (allAtoms t)).before a st = _
    rw [Jvm.Cond.before_and, ih, List.all_cons]
def words1 : List Jvm.Cond := Jvm.Cond.code x code maxLocals ret :: tables_1
/-- a 'code' word, met by the world's own term for the bytes: nothing is compared byte by byte -/
theorem code_word {y : MethodName} {bytes : ByteArray} {mx : Nat} {rt : Option FieldType} {a : Array Value} {s : State} {m : MethodId} {meth : Method} {c : Code} (h1 : s.methodNamed? y = some m) (h2 : s.vm.method? m = some meth) (h3 : meth.code = some c) (h4 : c.code = bytes)
    (h5 : (c.maxLocals == mx && c.exceptionTable.isEmpty && decide (c.maxStack ≤ mostOperands) && decide (meth.sig.returnType = rt) && !meth.locks && decide (parseMethodDescriptor y.desc = some meth.sig)) = true) : (Jvm.Cond.code y bytes mx rt).before a s = true := by
  simp only [Bool.and_eq_true, beq_iff_eq, Bool.not_eq_true', decide_eq_true_eq] at h5
  obtain ⟨⟨⟨⟨⟨g1, g2⟩, g3⟩, g4⟩, g5⟩, g6⟩ := h5
  simp [Cond.before, Cond.holds, Cond.value, h1, h2, h3, h4, g1, g2, g3, g4, g5, g6]
def isCode : Jvm.Cond → Bool
  | .code _ _ _ _ => true
  | _ => false
theorem all_split {L : List Jvm.Cond} {P : Jvm.Cond → Bool} (h1 : L.all (fun c => isCode c || P c) = true) (h2 : ∀ c ∈ L.filter isCode, P c = true) : L.all P = true := by
  refine List.all_eq_true.mpr fun c hc => ?_
  have h := List.all_eq_true.mp h1 c hc
  rcases Bool.eq_false_or_eq_true (isCode c) with hi | hi
  · exact h2 c (List.mem_filter.mpr ⟨hc, hi⟩)
  · simpa [hi] using h
set_option maxRecDepth 65536 in
theorem w_c0 : (Jvm.Cond.code x code maxLocals ret).before args0 about1 = true := code_word (m := ⟨1, 1⟩) (meth := k1m1) (c := k1c1) (by decide +kernel) rfl rfl rfl (by decide +kernel)
set_option maxRecDepth 65536 in
theorem w_c1 : (Jvm.Cond.code ({ cls := "com/example/dovetail/dovetail/xml/XmlNames", name := "mayStart", desc := "(I)Z" } : Jvm.MethodName) prog_121_method_5_code (1 : Nat) (Option.some Jvm.ClassFile.FieldType.boolean)).before args0 about1 = true := code_word (m := ⟨2, 1⟩) (meth := k2m1) (c := k2c1) (by decide +kernel) rfl rfl rfl (by decide +kernel)
set_option maxRecDepth 65536 in
theorem w_c2 : (Jvm.Cond.code ({ cls := "com/example/dovetail/dovetail/xml/XmlNamesMayStartPinLaw", name := "expected", desc := "(I)Z" } : Jvm.MethodName) method_3_code (1 : Nat) (Option.some Jvm.ClassFile.FieldType.boolean)).before args0 about1 = true := code_word (m := ⟨1, 2⟩) (meth := k1m2) (c := k1c2) (by decide +kernel) rfl rfl rfl (by decide +kernel)
def codes1 : List Jvm.Cond := [Jvm.Cond.code x code maxLocals ret, Jvm.Cond.code ({ cls := "com/example/dovetail/dovetail/xml/XmlNames", name := "mayStart", desc := "(I)Z" } : Jvm.MethodName) prog_121_method_5_code (1 : Nat) (Option.some Jvm.ClassFile.FieldType.boolean), Jvm.Cond.code ({ cls := "com/example/dovetail/dovetail/xml/XmlNamesMayStartPinLaw", name := "expected", desc := "(I)Z" } : Jvm.MethodName) method_3_code (1 : Nat) (Option.some Jvm.ClassFile.FieldType.boolean)]
set_option maxRecDepth 65536 in
theorem codes_eq : words1.filter isCode = codes1 := rfl
theorem w_codes : ∀ c ∈ words1.filter isCode, c.before args0 about1 = true := by
  rw [codes_eq]
  intro c hc
  simp only [codes1, List.mem_cons, List.not_mem_nil, or_false] at hc
  rcases hc with rfl | rfl | rfl
  · exact w_c0
  · exact w_c1
  · exact w_c2
set_option maxRecDepth 65536 in
theorem w_t1 : (words1.take 24).all (fun c => isCode c || c.before args0 about1) = true := by decide +kernel
set_option maxRecDepth 65536 in
theorem w_t2 : (words1.drop 24).all (fun c => isCode c || c.before args0 about1) = true := by decide +kernel
theorem w_tables : (allAtoms (Jvm.Cond.code x code maxLocals ret :: tables_1)).before args0 about1 = true := by
  rw [allAtoms_all]
  show words1.all (fun c => c.before args0 about1) = true
  refine all_split ?_ w_codes
  rw [← List.take_append_drop 24 words1, List.all_append, w_t1, w_t2]
  rfl
set_option maxRecDepth 65536 in
theorem w_case : (Jvm.Cond.and given_1 narrow_1).before args0 about1 = true := by decide +kernel
theorem w_applies : (headSpec (Jvm.Cond.code x code maxLocals ret :: tables_1) room_1).applies x e0.platform about1 = true :=
  (Spec.applies_iff w_frames).mpr ⟨w_running, w_runnable, w_alone, w_named, w_hears, w_ripe, w_room, w_tables⟩
theorem atStart : AtStart classFile x code maxLocals ret World_1 tables_1 room_1 Calls_1 rest_1 Pre_1 launch0 p0 e0 about1 theMethod args0 below0 :=
  ⟨lists_1, trivial, launch0.admits_env _ _ _, launch0.least_env, fairChoices_fair.cas, fairChoices_fair.clock, w_frames, w_args, w_heap, w_applies, trivial, trivial, w_case⟩
end start1
theorem witness_1 : WitnessClaimed_1 := ⟨start1.p0, start1.e0, start1.about1, start1.theMethod, start1.args0, start1.below0, start1.atStart⟩
end Jvm.Pilot.@@N@@
