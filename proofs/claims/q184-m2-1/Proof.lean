import JvmDerived
import JvmDerived.Pilot.@@N@@Statement
import JvmDerived.Pilot.@@N@@Code
set_option linter.unusedVariables false
set_option linter.unusedSimpArgs false
namespace Jvm.RoadKit
open Sem ClassFile Op Lib Jvm.Stand Jvm.Free Jvm.LawKit
section OwnKit
variable {p : Program} {l : Launch} {e : Env} {R : Room} {s : State} {m : MethodId} {args : Array Value} {below : List Frame} {meth : Method} {c : Code} {T : State} {locs : List Loc} {cells slots : Nat} {Z : State} {a0 : Array Value} {Q : Option Value → Heap → List Loc → Prop} {kc ks : Nat}
/-- the run from A ends, returns, and leaves what Q says -/
def own_Fin (p : Program) (e : Env) (below : List Frame) (s : State) (Q : Option Value → Heap → List Loc → Prop) (kc ks : Nat) (A : State) : Prop :=
  ∃ s₂ o, Steps p.tables e below A s₂ ∧ s₂.status = .running ∧ Ended s₂ below o ∧ ∃ v L, o = .returned v ∧ Q v s₂.heap L ∧ FrameEnd s o s₂ L kc ks
theorem own_go {A A' : State} (h : ∀ t, Steps p.tables e below A' t → Steps p.tables e below A t) (k : own_Fin p e below s Q kc ks A') : own_Fin p e below s Q kc ks A := by
  obtain ⟨s₂, o, h1, r⟩ := k
  exact ⟨s₂, o, h _ h1, r⟩
theorem own_to {A A' : State} (h : Steps p.tables e below A A') (k : own_Fin p e below s Q kc ks A') : own_Fin p e below s Q kc ks A := own_go (fun _ q => h.trans q) k
theorem own_mono {A : State} {Q' : Option Value → Heap → List Loc → Prop} (k : own_Fin p e below s Q kc ks A) (q : ∀ v h L, Q v h L → Q' v h L) : own_Fin p e below s Q' kc ks A := by
  obtain ⟨s₂, o, h1, h2, h3, v, L, h4, h5, h6⟩ := k
  exact ⟨s₂, o, h1, h2, h3, v, L, h4, q _ _ _ h5, h6⟩
/-- what a body knows of itself -/
def own_Ctx (p : Program) (s : State) (m : MethodId) (meth : Method) (c : Code) (Z : State) (a0 : Array Value) (tb : List Cond) (y : MethodName) (bytes : ByteArray) (maxL : Nat) (ret : Option FieldType) : Prop :=
  p.tables.exec = Jvm.exec ∧ c.code = bytes ∧ c.maxLocals = maxL ∧ Z.Warmed39 s.vm ∧ s.vm.findClass y.cls = some m.cls ∧ meth.name = y.name ∧ meth.sig.returnType = ret ∧ meth.locks = false ∧ (∀ d ∈ tb, d.before a0 Z = true)
/-- a contract -/
def own_Met (l : Launch) (Z : State) (y : MethodName) (bytes : ByteArray) (maxL : Nat) (ret : Option FieldType) (ws : List Cond) (rm : Room) (as' : Array Value) (h0 : Heap) (Q : Option Value → Heap → List Loc → Prop) : Prop :=
  MetFree l y (head1 (Cond.code y bytes maxL ret :: ws) rm) (fun a U => a = as' ∧ Z.Warmed39 U.vm ∧ U.heap = h0) (fun _ _ _ _ _ => True) (fun _ U o U' => ∃ v L, o = .returned v ∧ Q v U'.heap L ∧ FrameEnd U o U' L rm.cells rm.slots)
theorem own_enter {y : MethodName} {bytes : ByteArray} {maxL : Nat} {ret : Option FieldType} {rm : Room} {as' : Array Value} {h0 : Heap} {ws tb : List Cond} {Ls : Array Slot} (hp : plainFor y = true) (hef : ∀ m, entryFrame m as' maxL = mkF m 0 Ls []) (hw : ∀ d ∈ tb, d.before a0 Z = true)
    (body : ∀ (p : Program) (e : Env) (s : State) (m : MethodId) (below : List Frame) (meth : Method) (c : Code) (T : State), Stand p l e rm s m as' below meth c T [] 0 0 → own_Ctx p s m meth c Z a0 tb y bytes maxL ret → T.heap = h0 → own_Fin p e below s Q rm.cells rm.slots (T.setTop (mkF m 0 Ls []))) :
    own_Met l Z y bytes maxL ret ws rm as' h0 Q := by
  refine MetFree.of_bodySF hp hisR ?_
  intro p e s m args below meth c s₁ Bd hml0 hP hK
  obtain ⟨rfl, hZ, hh⟩ := hP
  have e0 : s₁.heap = h0 := by rw [← hh, Bd.state]; rfl
  obtain ⟨s₂, o, h1, r⟩ := body p e s m below meth c s₁ (Stand.of_body Bd) ⟨Bd.exec, Bd.bytes, hml0, hZ, findClass_of_methodNamed Bd.named, (name_of_methodNamed Bd.named Bd.method).1, Bd.returns, Bd.notSynchronized, hw⟩ e0
  exact ⟨s₂, o, castTop (hef m) h1, r⟩
/-- a return of a value -/
theorem own_ret (X : Stand p l e R s m args below meth c T locs cells slots) (hlk : meth.locks = false) (hx : p.tables.exec = Jvm.exec) {pc : Nat} {Ls : Array Slot} {w : Value} {t : FieldType} {i : Instr} {rest : List Value} (hret : meth.sig.returnType = some t) (hn : narrow t w = w)
    (hi : (i = .ireturn ∧ (t = .int ∨ t = .boolean ∨ t = .byte ∨ t = .char ∨ t = .short) ∧ ∃ z, w = .int z) ∨ (i = .lreturn ∧ t = .long ∧ ∃ z, w = .long z) ∨ (i = .dreturn ∧ t = .double ∧ ∃ z, w = .double z) ∨ (i = .freturn ∧ t = .float ∧ ∃ z, w = .float z) ∨ (i = .areturn ∧ t.isReference = true ∧ w.isRef = true))
    (hd : decode c.code pc = .ok (i, 1)) (hq : Q (some w) T.heap locs) (hc : cells ≤ kc) (hs : slots ≤ ks) : own_Fin p e below s Q kc ks (T.setTop (mkF m pc Ls (w :: rest))) := by
  obtain ⟨fs, hr, hrun, hended, hW, hsame⟩ := X.leave (v := some w) (fun h => by rw [hret] at h; cases h) hlk
  exact ⟨_, _, retOut X hx hret hn hi hd hr, hrun, hended, _, _, rfl, hq, ⟨_, rfl⟩, hW, hsame.mono hc hs⟩
/-- a return of a boolean, byte, char, short that may be narrowed -/
theorem own_retN (X : Stand p l e R s m args below meth c T locs cells slots) (hlk : meth.locks = false) (hx : p.tables.exec = Jvm.exec) {pc : Nat} {Ls : Array Slot} {z : Int32} {t : FieldType} {rest : List Value} (hret : meth.sig.returnType = some t) (ht : t = .boolean ∨ t = .byte ∨ t = .char ∨ t = .short)
    (hd : decode c.code pc = .ok (.ireturn, 1)) (hq : Q (some (.int (nar t z))) T.heap locs) (hc : cells ≤ kc) (hs : slots ≤ ks) : own_Fin p e below s Q kc ks (T.setTop (mkF m pc Ls (.int z :: rest))) := by
  obtain ⟨fs, hr, hrun, hended, hW, hsame⟩ := X.leave (v := some (.int (nar t z))) (fun h => by rw [hret] at h; cases h) hlk
  exact ⟨_, _, retN X hx hret ht hd hr, hrun, hended, _, _, rfl, hq, ⟨_, rfl⟩, hW, hsame.mono hc hs⟩
/-- a return of nothing -/
theorem own_ret0 (X : Stand p l e R s m args below meth c T locs cells slots) (hlk : meth.locks = false) (hx : p.tables.exec = Jvm.exec) {pc : Nat} {Ls : Array Slot} (hret : meth.sig.returnType = none)
    (hd : decode c.code pc = .ok (.return_, 1)) (hq : Q none T.heap locs) (hc : cells ≤ kc) (hs : slots ≤ ks) : own_Fin p e below s Q kc ks (T.setTop (mkF m pc Ls [])) := by
  obtain ⟨fs, hr, hrun, hended, hW, hsame⟩ := X.leave (v := none) (fun _ => rfl) hlk
  exact ⟨_, _, X.returnOut hx hret hd hr, hrun, hended, _, _, rfl, hq, ⟨_, rfl⟩, hW, hsame.mono hc hs⟩
/-- calls by contract -/
theorem own_callS (X : Stand p l e R s m args below meth c T locs cells slots) (hx : p.tables.exec = Jvm.exec) (hZ : Z.Warmed39 s.vm) {h : Heap} (eT : T.heap = h) {own : String} {index : Nat} {y : MethodName} {bytes : ByteArray} {maxL : Nat} {ret : Option FieldType} (hown : s.vm.findClass own = some m.cls)
    (w1 : (Cond.methodLink own index y).before a0 Z = true) (w2 : (Cond.static y).before a0 Z = true) (w3 : (Cond.initialized y.cls).before a0 Z = true) (w4 : (Cond.code y bytes maxL ret).before a0 Z = true) (hy : y.cls ≠ "java/lang/invoke/MethodHandle" ∧ y.cls ≠ "java/lang/invoke/VarHandle")
    {rm : Room} {argsL rest : List Value} (hM : own_Met l Z y bytes maxL ret [] rm argsL.toArray h Q) (hf : rm.frames + 1 ≤ R.frames) (W : Nat) (hl : W + (maxL + 11) + rm.locals ≤ R.locals) (hcR : cells + rm.cells ≤ R.cells) (hsR : slots + rm.slots ≤ R.slots)
    {g : JFrame} (hg : g.method = m) (hsize : g.locals.size = c.maxLocals) (hlen : ∀ sig, parseMethodDescriptor y.desc = some sig → argsL.length = sig.parameters.length) (hstack : g.stack = argsL.reverse ++ rest) (hW : 2 * g.monitorRoom + (rest.map fun v => v.category).sum ≤ W) (hdg : decode c.code g.pc = .ok (.invokestatic index, 3)) :
    ∃ v T' L, Stand p l e R s m args below meth c T' (locs ++ L) (cells + rm.cells) (slots + rm.slots) ∧ Q v T'.heap L ∧ ∀ target, Steps p.tables e below (T'.setTop { g with pc := g.pc + 3, stack := v.toList ++ rest }) target → Steps p.tables e below (T.setTop g) target := by
  obtain ⟨v, _, ⟨T', L', k', n'⟩, -, X', ⟨L, hQ, l1, y1, z1⟩, st⟩ := Jvm.LawKit.callS X hx hown (mvT hZ w1) (mvT hZ w2) (mvT hZ w3) (mvT hZ w4) hy (backOf (W := W) hM hZ w4 w3 hf hl) hg hsize hlen hstack hW hdg (fun _ _ => ⟨rfl, eT, hcR, hsR⟩)
  dsimp only [Pt.U, Pt.locs, Pt.cells, Pt.slots] at X' l1 y1 z1 st hQ
  subst l1 y1 z1
  exact ⟨v, T', L, X', hQ, st⟩
/-- a result, and nothing else -/
def own_QP (r : Option Value) (h0 : Heap) (v : Option Value) (h : Heap) (L : List Loc) : Prop := v = r ∧ L = [] ∧ h = h0
theorem own_callP (X : Stand p l e R s m args below meth c T locs cells slots) (hx : p.tables.exec = Jvm.exec) (hZ : Z.Warmed39 s.vm) {h : Heap} (eT : T.heap = h) {own : String} {index : Nat} {y : MethodName} {bytes : ByteArray} {maxL : Nat} {ret : Option FieldType} (hown : s.vm.findClass own = some m.cls)
    (w1 : (Cond.methodLink own index y).before a0 Z = true) (w2 : (Cond.static y).before a0 Z = true) (w3 : (Cond.initialized y.cls).before a0 Z = true) (w4 : (Cond.code y bytes maxL ret).before a0 Z = true) (hy : y.cls ≠ "java/lang/invoke/MethodHandle" ∧ y.cls ≠ "java/lang/invoke/VarHandle")
    {fr lo : Nat} {r : Option Value} {argsL rest : List Value} (hM : own_Met l Z y bytes maxL ret [] { frames := fr, cells := 0, slots := 0, locals := lo } argsL.toArray h (own_QP r h)) (hf : fr + 1 ≤ R.frames) (W : Nat) (hl : W + (maxL + 11) + lo ≤ R.locals) (hcR : cells ≤ R.cells) (hsR : slots ≤ R.slots)
    {g : JFrame} (hg : g.method = m) (hsize : g.locals.size = c.maxLocals) (hlen : ∀ sig, parseMethodDescriptor y.desc = some sig → argsL.length = sig.parameters.length) (hstack : g.stack = argsL.reverse ++ rest) (hW : 2 * g.monitorRoom + (rest.map fun v => v.category).sum ≤ W) (hdg : decode c.code g.pc = .ok (.invokestatic index, 3)) :
    ∃ T', Stand p l e R s m args below meth c T' locs cells slots ∧ T'.heap = h ∧ ∀ target, Steps p.tables e below (T'.setTop { g with pc := g.pc + 3, stack := r.toList ++ rest }) target → Steps p.tables e below (T.setTop g) target := by
  obtain ⟨v, T', L, X', ⟨rfl, rfl, e1⟩, st⟩ := own_callS X hx hZ eT hown w1 w2 w3 w4 hy hM hf W hl hcR hsR hg hsize hlen hstack hW hdg
  rw [List.append_nil] at X'
  exact ⟨T', X', e1, st⟩
theorem own_callI (X : Stand p l e R s m args below meth c T locs cells slots) (hx : p.tables.exec = Jvm.exec) (hZ : Z.Warmed39 s.vm) {h : Heap} (eT : T.heap = h) {own : String} {index : Nat} {y : MethodName} {bytes : ByteArray} {maxL : Nat} (hy1 : y.name = "<init>") (hown : s.vm.findClass own = some m.cls)
    (w1 : (Cond.methodLink own index y).before a0 Z = true) (w2 : (Cond.instanceMethod y).before a0 Z = true) (w3 : (Cond.initialized y.cls).before a0 Z = true) (w4 : (Cond.code y bytes maxL none).before a0 Z = true) (hy : y.cls ≠ "java/lang/invoke/MethodHandle" ∧ y.cls ≠ "java/lang/invoke/VarHandle")
    {rm : Room} {a : Addr} {argsL rest : List Value} (hM : own_Met l Z y bytes maxL none [] rm (.ref a :: argsL).toArray h Q) (hf : rm.frames + 1 ≤ R.frames) (W : Nat) (hl : W + (maxL + 11) + rm.locals ≤ R.locals) (hcR : cells + rm.cells ≤ R.cells) (hsR : slots + rm.slots ≤ R.slots)
    {g : JFrame} (hg : g.method = m) (hsize : g.locals.size = c.maxLocals) (hlen : ∀ sig, parseMethodDescriptor y.desc = some sig → argsL.length = sig.parameters.length) (hstack : g.stack = argsL.reverse ++ .ref a :: rest) (hW : 2 * g.monitorRoom + (rest.map fun v => v.category).sum ≤ W) (hdg : decode c.code g.pc = .ok (.invokespecial index, 3)) :
    ∃ v T' L, Stand p l e R s m args below meth c T' (locs ++ L) (cells + rm.cells) (slots + rm.slots) ∧ Q v T'.heap L ∧ ∀ target, Steps p.tables e below (T'.setTop { g with pc := g.pc + 3, stack := v.toList ++ rest }) target → Steps p.tables e below (T.setTop g) target := by
  obtain ⟨v, _, ⟨T', L', k', n'⟩, -, X', ⟨L, hQ, l1, y1, z1⟩, st⟩ := X.specialBack hx hy1 hown (mvT hZ w1) (mvT hZ w2) (mvT hZ w4) hy (backOf (W := W) hM hZ w4 w3 hf hl) hg hsize (Steps.refl _) hlen hstack hW hdg (fun _ _ => ⟨rfl, eT, hcR, hsR⟩)
  dsimp only [Pt.U, Pt.locs, Pt.cells, Pt.slots] at X' l1 y1 z1 st hQ
  subst l1 y1 z1
  exact ⟨v, T', L, X', hQ, fun _ q => st.trans q⟩
theorem own_callIP (X : Stand p l e R s m args below meth c T locs cells slots) (hx : p.tables.exec = Jvm.exec) (hZ : Z.Warmed39 s.vm) {h : Heap} (eT : T.heap = h) {own : String} {index : Nat} {y : MethodName} {bytes : ByteArray} {maxL : Nat} (hy1 : y.name = "<init>") (hown : s.vm.findClass own = some m.cls)
    (w1 : (Cond.methodLink own index y).before a0 Z = true) (w2 : (Cond.instanceMethod y).before a0 Z = true) (w3 : (Cond.initialized y.cls).before a0 Z = true) (w4 : (Cond.code y bytes maxL none).before a0 Z = true) (hy : y.cls ≠ "java/lang/invoke/MethodHandle" ∧ y.cls ≠ "java/lang/invoke/VarHandle")
    {fr lo : Nat} {a : Addr} {argsL rest : List Value} (hM : own_Met l Z y bytes maxL none [] { frames := fr, cells := 0, slots := 0, locals := lo } (.ref a :: argsL).toArray h (own_QP none h)) (hf : fr + 1 ≤ R.frames) (W : Nat) (hl : W + (maxL + 11) + lo ≤ R.locals) (hcR : cells ≤ R.cells) (hsR : slots ≤ R.slots)
    {g : JFrame} (hg : g.method = m) (hsize : g.locals.size = c.maxLocals) (hlen : ∀ sig, parseMethodDescriptor y.desc = some sig → argsL.length = sig.parameters.length) (hstack : g.stack = argsL.reverse ++ .ref a :: rest) (hW : 2 * g.monitorRoom + (rest.map fun v => v.category).sum ≤ W) (hdg : decode c.code g.pc = .ok (.invokespecial index, 3)) :
    ∃ T', Stand p l e R s m args below meth c T' locs cells slots ∧ T'.heap = h ∧ ∀ target, Steps p.tables e below (T'.setTop { g with pc := g.pc + 3, stack := rest }) target → Steps p.tables e below (T.setTop g) target := by
  obtain ⟨v, T', L, X', ⟨rfl, rfl, e1⟩, st⟩ := own_callI X hx hZ eT hy1 hown w1 w2 w3 w4 hy hM hf W hl hcR hsR hg hsize hlen hstack hW hdg
  rw [List.append_nil] at X'
  exact ⟨T', X', e1, st⟩
theorem own_callV (X : Stand p l e R s m args below meth c T locs cells slots) (hx : p.tables.exec = Jvm.exec) (hZ : Z.Warmed39 s.vm) {h : Heap} (eT : T.heap = h) {own C : String} {index : Nat} {y : MethodName} {bytes : ByteArray} {maxL : Nat} {ret : Option FieldType} (hown : s.vm.findClass own = some m.cls)
    (w1 : (Cond.methodLink own index y).before a0 Z = true) (wd : (Cond.declares y).before a0 Z = true) (ws : (Cond.selects C y y).before a0 Z = true) (w2 : (Cond.instanceMethod y).before a0 Z = true) (w3 : (Cond.initialized y.cls).before a0 Z = true) (w4 : (Cond.code y bytes maxL ret).before a0 Z = true) (hy : y.cls ≠ "java/lang/invoke/MethodHandle" ∧ y.cls ≠ "java/lang/invoke/VarHandle")
    {rm : Room} {a : Addr} (hE : Exa Z h a C) {argsL rest : List Value} (hM : own_Met l Z y bytes maxL ret [] rm (.ref a :: argsL).toArray h Q) (hf : rm.frames + 1 ≤ R.frames) (W : Nat) (hl : W + (maxL + 11) + rm.locals ≤ R.locals) (hcR : cells + rm.cells ≤ R.cells) (hsR : slots + rm.slots ≤ R.slots)
    {g : JFrame} (hg : g.method = m) (hsize : g.locals.size = c.maxLocals) (hlen : ∀ sig, parseMethodDescriptor y.desc = some sig → argsL.length = sig.parameters.length) (hstack : g.stack = argsL.reverse ++ .ref a :: rest) (hW : 2 * g.monitorRoom + (rest.map fun v => v.category).sum ≤ W) (hdg : decode c.code g.pc = .ok (.invokevirtual index, 3)) :
    ∃ v T' L, Stand p l e R s m args below meth c T' (locs ++ L) (cells + rm.cells) (slots + rm.slots) ∧ Q v T'.heap L ∧ ∀ target, Steps p.tables e below (T'.setTop { g with pc := g.pc + 3, stack := v.toList ++ rest }) target → Steps p.tables e below (T.setTop g) target := by
  obtain ⟨cq, kq, qa, qb, qc⟩ := isOf hZ eT hE
  obtain ⟨v, _, ⟨T', L', k', n'⟩, -, X', ⟨L, hQ, l1, y1, z1⟩, st⟩ := X.virtualBack hx hown (mvT hZ w1) (mvT hZ wd) (notFace_of_selects (args := #[]) (mvT hZ ws)) (mvT hZ ws) (mvT hZ w2) hy (backOf (W := W) hM hZ w4 w3 hf hl) qa qc hg hsize (Steps.refl _) hlen hstack hW hdg (fun _ _ => ⟨rfl, eT, hcR, hsR⟩)
  dsimp only [Pt.U, Pt.locs, Pt.cells, Pt.slots] at X' l1 y1 z1 st hQ
  subst l1 y1 z1
  exact ⟨v, T', L, X', hQ, fun _ q => st.trans q⟩
/-- a virtual call that only reads -/
theorem own_callVP (X : Stand p l e R s m args below meth c T locs cells slots) (hx : p.tables.exec = Jvm.exec) (hZ : Z.Warmed39 s.vm) {h : Heap} (eT : T.heap = h) {own C : String} {index : Nat} {y : MethodName} {bytes : ByteArray} {maxL : Nat} {ret : Option FieldType} (hown : s.vm.findClass own = some m.cls)
    (w1 : (Cond.methodLink own index y).before a0 Z = true) (wd : (Cond.declares y).before a0 Z = true) (ws : (Cond.selects C y y).before a0 Z = true) (w2 : (Cond.instanceMethod y).before a0 Z = true) (w3 : (Cond.initialized y.cls).before a0 Z = true) (w4 : (Cond.code y bytes maxL ret).before a0 Z = true) (hy : y.cls ≠ "java/lang/invoke/MethodHandle" ∧ y.cls ≠ "java/lang/invoke/VarHandle")
    {fr lo : Nat} {r : Option Value} {a : Addr} (hE : Exa Z h a C) {argsL rest : List Value} (hM : own_Met l Z y bytes maxL ret [] { frames := fr, cells := 0, slots := 0, locals := lo } (.ref a :: argsL).toArray h (own_QP r h)) (hf : fr + 1 ≤ R.frames) (W : Nat) (hl : W + (maxL + 11) + lo ≤ R.locals) (hcR : cells ≤ R.cells) (hsR : slots ≤ R.slots)
    {g : JFrame} (hg : g.method = m) (hsize : g.locals.size = c.maxLocals) (hlen : ∀ sig, parseMethodDescriptor y.desc = some sig → argsL.length = sig.parameters.length) (hstack : g.stack = argsL.reverse ++ .ref a :: rest) (hW : 2 * g.monitorRoom + (rest.map fun v => v.category).sum ≤ W) (hdg : decode c.code g.pc = .ok (.invokevirtual index, 3)) :
    ∃ T', Stand p l e R s m args below meth c T' locs cells slots ∧ T'.heap = h ∧ ∀ target, Steps p.tables e below (T'.setTop { g with pc := g.pc + 3, stack := r.toList ++ rest }) target → Steps p.tables e below (T.setTop g) target := by
  obtain ⟨v, T', L, X', ⟨rfl, rfl, e1⟩, st⟩ := own_callV X hx hZ eT hown w1 wd ws w2 w3 w4 hy hE hM hf W hl hcR hsR hg hsize hlen hstack hW hdg
  rw [List.append_nil] at X'
  exact ⟨T', X', e1, st⟩
/-- an array of ints or bytes, its elements by a function -/
def own_A (Z : State) (h : Heap) (a : Addr) (ty : FieldType) (z : Int32) (f : Int32 → Int32) : Prop :=
  ∃ cl : Cell, Arr Z h a cl ty ∧ cl.slots.size = z.toNatClampNeg ∧ ¬ z < 0 ∧ ∀ j : Int32, ¬ j < 0 → j < z → cl.slots[j.toNatClampNeg]? = some (.int (f j))
section A
variable {h h' : Heap} {a b : Addr} {ty : FieldType} {z : Int32} {f : Int32 → Int32} {ws : List Addr} {sl : Nat} {v : Value}
theorem own_A.lt (F : own_A Z h a ty z f) : a < h.size := by obtain ⟨cl, A, -⟩ := F; exact A.lt
theorem own_A.ext (F : own_A Z h a ty z f) (E : Ext h h') : own_A Z h' a ty z f := by obtain ⟨cl, A, r⟩ := F; exact ⟨cl, A.ext E, r⟩
theorem own_A.other (F : own_A Z h a ty z f) (W : Wr h h' b sl v) (q : a ≠ b) : own_A Z h' a ty z f := by obtain ⟨cl, A, r⟩ := F; exact ⟨cl, A.other W q, r⟩
theorem own_A.keep (F : own_A Z h a ty z f) (K : Keep h h' ws) (q : a ∉ ws) : own_A Z h' a ty z f := by obtain ⟨cl, A, r⟩ := F; exact ⟨cl, ⟨K.2.1 a cl A.1 q, A.2⟩, r⟩
theorem own_A.cong (F : own_A Z h a ty z f) {f' : Int32 → Int32} (q : ∀ j : Int32, ¬ j < 0 → j < z → f j = f' j) : own_A Z h a ty z f' := by
  obtain ⟨cl, A, S, n, H⟩ := F
  exact ⟨cl, A, S, n, fun j h1 h2 => by rw [← q j h1 h2]; exact H j h1 h2⟩
theorem own_A.set (F : own_A Z h a ty z f) {j w : Int32} (h0 : ¬ j < 0) (hj : j < z) (W : Wr h h' a j.toNatClampNeg (.int w)) : own_A Z h' a ty z (fun i => if i = j then w else f i) := by
  obtain ⟨cl, A, S, n, H⟩ := F
  refine ⟨_, A.same W, by rw [sz_set]; exact S, n, fun i h1 h2 => ?_⟩
  by_cases q : i = j
  · rw [get_hit (inb_of S ⟨h0, hj⟩) q]; show _ = some (Value.int (if i = j then w else f i)); rw [if_pos q]
  · rw [get_miss h0 h1 q, H i h1 h2]; show _ = some (Value.int (if i = j then w else f i)); rw [if_neg q]
theorem own_A.new {k : ClassId} (A : Arr Z h a (newA k ty z) ty) (q : ¬ z < 0) (d : defaultValue ty = .int 0) : own_A Z h a ty z (fun _ => 0) :=
  ⟨_, A, sz_new _ _ _, q, fun j h1 h2 => by rw [get_new (by have := inb_of (sz_new k ty z) ⟨h1, h2⟩; rw [sz_new] at this; exact this), d]⟩
theorem own_A.nn (F : own_A Z h a ty z f) : ¬ z < 0 := by obtain ⟨cl, A, S, n, H⟩ := F; exact n
end A
theorem own_newI (X : Stand p l e R s m args below meth c T locs cells slots) (hx : p.tables.exec = Jvm.exec) (hZ : Z.Warmed39 s.vm) {h : Heap} (eT : T.heap = h) (w : (Cond.arrayClass .int).before a0 Z = true) {g : JFrame} (hg : g.method = m) (hd : decode c.code g.pc = .ok (.newarray .int, 2)) {n : Int32} {rest : List Value} (hs : g.stack = .int n :: rest)
    (hn : ¬ n < 0) (cap : Nat) (hcap : n.toNatClampNeg ≤ cap) (hb : cap * 8 ≤ 536870912) (hc : cells + 1 ≤ R.cells) (hl : slots + cap ≤ R.slots) :
    ∃ T' a, Stand p l e R s m args below meth c T' locs (cells + 1) (slots + cap) ∧ Ext h T'.heap ∧ a = h.size ∧ own_A Z T'.heap a .int n (fun _ => 0) ∧ ∀ target, Steps p.tables e below (T'.setTop { g with pc := g.pc + 2, stack := .ref a :: rest }) target → Steps p.tables e below (T.setTop g) target := by
  obtain ⟨T', h', cA, X', e1, E, A, st⟩ := newP (aty := .int) X hx hZ w eT hg hd hs hn hcap hb hc hl
  subst e1
  exact ⟨T', _, X', E, rfl, own_A.new A hn rfl, st⟩
theorem own_newB (X : Stand p l e R s m args below meth c T locs cells slots) (hx : p.tables.exec = Jvm.exec) (hZ : Z.Warmed39 s.vm) {h : Heap} (eT : T.heap = h) (w : (Cond.arrayClass .byte).before a0 Z = true) {g : JFrame} (hg : g.method = m) (hd : decode c.code g.pc = .ok (.newarray .byte, 2)) {n : Int32} {rest : List Value} (hs : g.stack = .int n :: rest)
    (hn : ¬ n < 0) (cap : Nat) (hcap : n.toNatClampNeg ≤ cap) (hb : cap * 8 ≤ 536870912) (hc : cells + 1 ≤ R.cells) (hl : slots + cap ≤ R.slots) :
    ∃ T' a, Stand p l e R s m args below meth c T' locs (cells + 1) (slots + cap) ∧ Ext h T'.heap ∧ a = h.size ∧ own_A Z T'.heap a .byte n (fun _ => 0) ∧ ∀ target, Steps p.tables e below (T'.setTop { g with pc := g.pc + 2, stack := .ref a :: rest }) target → Steps p.tables e below (T.setTop g) target := by
  obtain ⟨T', h', cA, X', e1, E, A, st⟩ := newP (aty := .byte) X hx hZ w eT hg hd hs hn hcap hb hc hl
  subst e1
  exact ⟨T', _, X', E, rfl, own_A.new A hn rfl, st⟩
theorem own_stI (X : Stand p l e R s m args below meth c T locs cells slots) (hx : p.tables.exec = Jvm.exec) (hZ : Z.Warmed39 s.vm) {h : Heap} (eT : T.heap = h) {a : Addr} {z : Int32} {f : Int32 → Int32} (F : own_A Z h a .int z f) {j x : Int32} (h0 : ¬ j < 0) (hj : j < z) {g : JFrame} (hg : g.method = m) {rest : List Value} (hs : g.stack = .int x :: .int j :: .ref a :: rest) (hd : decode c.code g.pc = .ok (.iastore, 1)) :
    ∃ T', Stand p l e R s m args below meth c T' (locs ++ [⟨a, j.toNatClampNeg⟩]) cells slots ∧ Wr h T'.heap a j.toNatClampNeg (.int x) ∧ own_A Z T'.heap a .int z (fun i => if i = j then x else f i) ∧ ∀ target, Steps p.tables e below (T'.setTop { g with pc := g.pc + 1, stack := rest }) target → Steps p.tables e below (T.setTop g) target := by
  obtain ⟨cl, A, S, n, H⟩ := id F
  obtain ⟨T', h', X', e1, W, st⟩ := stI X hx hZ eT A (inb_of S ⟨h0, hj⟩) hg hs hd
  subst e1
  exact ⟨T', X', W, F.set h0 hj W, st⟩
theorem own_stB (X : Stand p l e R s m args below meth c T locs cells slots) (hx : p.tables.exec = Jvm.exec) (hZ : Z.Warmed39 s.vm) {h : Heap} (eT : T.heap = h) {a : Addr} {z : Int32} {f : Int32 → Int32} (F : own_A Z h a .byte z f) {j x : Int32} (h0 : ¬ j < 0) (hj : j < z) {g : JFrame} (hg : g.method = m) {rest : List Value} (hs : g.stack = .int x :: .int j :: .ref a :: rest) (hd : decode c.code g.pc = .ok (.bastore, 1)) :
    ∃ T', Stand p l e R s m args below meth c T' (locs ++ [⟨a, j.toNatClampNeg⟩]) cells slots ∧ Wr h T'.heap a j.toNatClampNeg (.int x.toInt8.toInt32) ∧ own_A Z T'.heap a .byte z (fun i => if i = j then x.toInt8.toInt32 else f i) ∧ ∀ target, Steps p.tables e below (T'.setTop { g with pc := g.pc + 1, stack := rest }) target → Steps p.tables e below (T.setTop g) target := by
  obtain ⟨cl, A, S, n, H⟩ := id F
  obtain ⟨T', h', X', e1, W, st⟩ := stB X hx hZ eT A (inb_of S ⟨h0, hj⟩) hg hs hd
  subst e1
  exact ⟨T', X', W, F.set h0 hj W, st⟩
theorem own_ldI (X : Stand p l e R s m args below meth c T locs cells slots) (hx : p.tables.exec = Jvm.exec) (hZ : Z.Warmed39 s.vm) {h : Heap} (eT : T.heap = h) {a : Addr} {z : Int32} {f : Int32 → Int32} (F : own_A Z h a .int z f) {j : Int32} (h0 : ¬ j < 0) (hj : j < z) {g : JFrame} (hg : g.method = m) {rest : List Value} (hs : g.stack = .int j :: .ref a :: rest) (hd : decode c.code g.pc = .ok (.iaload, 1)) :
    ∀ target, Steps p.tables e below (T.setTop { g with pc := g.pc + 1, stack := .int (f j) :: rest }) target → Steps p.tables e below (T.setTop g) target := by
  obtain ⟨cl, A, S, n, H⟩ := id F
  exact fun target q => X.iaload hx (by rw [eT]; exact A.1) (State.isArrayOf_alike hZ.alike A.2.1) A.2.2 (inb_of S ⟨h0, hj⟩) (H j h0 hj) hg hs hd target q
theorem own_ldB (X : Stand p l e R s m args below meth c T locs cells slots) (hx : p.tables.exec = Jvm.exec) (hZ : Z.Warmed39 s.vm) {h : Heap} (eT : T.heap = h) {a : Addr} {z : Int32} {f : Int32 → Int32} (F : own_A Z h a .byte z f) {j : Int32} (h0 : ¬ j < 0) (hj : j < z) {g : JFrame} (hg : g.method = m) {rest : List Value} (hs : g.stack = .int j :: .ref a :: rest) (hd : decode c.code g.pc = .ok (.baload, 1)) :
    ∀ target, Steps p.tables e below (T.setTop { g with pc := g.pc + 1, stack := .int (f j) :: rest }) target → Steps p.tables e below (T.setTop g) target := by
  obtain ⟨cl, A, S, n, H⟩ := id F
  exact fun target q => X.baloadBytes hx (by rw [eT]; exact A.1) (State.isArrayOf_alike hZ.alike A.2.1) A.2.2 (inb_of S ⟨h0, hj⟩) (H j h0 hj) hg hs hd target q
theorem own_len (X : Stand p l e R s m args below meth c T locs cells slots) (hx : p.tables.exec = Jvm.exec) (hZ : Z.Warmed39 s.vm) {h : Heap} (eT : T.heap = h) {a : Addr} {ty : FieldType} {z : Int32} {f : Int32 → Int32} (F : own_A Z h a ty z f) {g : JFrame} (hg : g.method = m) {rest : List Value} (hs : g.stack = .ref a :: rest) (hd : decode c.code g.pc = .ok (.arraylength, 1)) :
    ∀ target, Steps p.tables e below (T.setTop { g with pc := g.pc + 1, stack := .int z :: rest }) target → Steps p.tables e below (T.setTop g) target := by
  obtain ⟨cl, A, S, n, H⟩ := id F
  exact fun target q => X.arraylength hx (by rw [eT]; exact A.1) (State.isArrayOf_alike hZ.alike A.2.1) hg hs hd target (by rw [len_of S n]; exact q)
/-- fields -/
theorem own_getF (X : Stand p l e R s m args below meth c T locs cells slots) (hx : p.tables.exec = Jvm.exec) (hZ : Z.Warmed39 s.vm) {h : Heap} (eT : T.heap = h) {own O n d : String} {index : Nat} (hown : s.vm.findClass own = some m.cls) (w : (Cond.fieldLink own index O n d).before a0 Z = true)
    {a : Addr} {v : Value} (F : Fld Z h a O n d v) {g : JFrame} (hg : g.method = m) {rest : List Value} (hs : g.stack = .ref a :: rest) (hd : decode c.code g.pc = .ok (.getfield index, 3)) :
    ∃ T', Stand p l e R s m args below meth c T' locs cells slots ∧ T'.heap = h ∧ ∀ target, Steps p.tables e below (T'.setTop { g with pc := g.pc + 3, stack := v :: rest }) target → Steps p.tables e below (T.setTop g) target :=
  getF X hx hZ hown (host := "") (Or.inl w) Via.refl eT F hg hs hd
theorem own_putF (X : Stand p l e R s m args below meth c T locs cells slots) (hx : p.tables.exec = Jvm.exec) (hZ : Z.Warmed39 s.vm) {h : Heap} (eT : T.heap = h) {own O n d C : String} {index kk : Nat} {ty : FieldType} (hown : s.vm.findClass own = some m.cls) (w : (Cond.fieldLink own index O n d).before a0 Z = true)
    {a : Addr} {v old : Value} (F : Fld Z h a O n d old) (E : Exa Z h a C) (L : (Cond.lays C O n d).before a0 Z = true ∨ ((Cond.laysFinal C O n d).before a0 Z = true ∧ own = O ∧ meth.name = "<init>")) (wi : (Cond.instantiable C kk).before a0 Z = true)
    (hty : parseFieldDescriptor d = some ty) (hn : narrow ty v = v) (hf : fits ty v = true) {g : JFrame} (hg : g.method = m) {rest : List Value} (hs : g.stack = v :: .ref a :: rest) (hd : decode c.code g.pc = .ok (.putfield index, 3)) :
    ∃ T', Stand p l e R s m args below meth c T' (locs ++ [⟨a, slotOf Z O n d⟩]) cells slots ∧ Wr h T'.heap a (slotOf Z O n d) v ∧ ∀ target, Steps p.tables e below (T'.setTop { g with pc := g.pc + 3, stack := rest }) target → Steps p.tables e below (T.setTop g) target := by
  obtain ⟨T', h', X', e1, W, st⟩ := putF X hx hZ hown (host := "") (Or.inl w) Via.refl eT F E L wi hty hn hf hg hs hd
  subst e1
  exact ⟨T', X', W, st⟩
/-- comparisons with literals, through Int -/
theorem own_lt {x k : Int32} (K : Int) (hk : k.toInt = K) (h : x.toInt < K) : x < k := by rw [Int32.lt_iff_toInt_lt, hk]; exact h
theorem own_nlt {x k : Int32} (K : Int) (hk : k.toInt = K) (h : K ≤ x.toInt) : ¬ x < k := by rw [Int32.lt_iff_toInt_lt, hk]; omega
theorem own_gt {x k : Int32} (K : Int) (hk : k.toInt = K) (h : K < x.toInt) : k < x := by rw [Int32.lt_iff_toInt_lt, hk]; exact h
theorem own_ngt {x k : Int32} (K : Int) (hk : k.toInt = K) (h : x.toInt ≤ K) : ¬ k < x := by rw [Int32.lt_iff_toInt_lt, hk]; omega
theorem own_ieq {x k : Int32} (K : Int) (hk : k.toInt = K) (h : x.toInt = K) : x = k := Int32.toInt_inj.mp (by rw [hk]; exact h)
theorem own_ineq {x k : Int32} (K : Int) (hk : k.toInt = K) (h : x.toInt < K ∨ K < x.toInt) : ¬ x = k := fun q => by subst q; omega
end OwnKit
end Jvm.RoadKit
namespace Jvm.RoadKit
open Sem ClassFile Op Lib Jvm.Stand Jvm.Free Jvm.LawKit
theorem own_mask31 (b : Int32) : 0 ≤ (b &&& 2147483647).toInt := by
  have h := c_mask b 2147483647 31 (by decide) (by decide)
  rw [h]; exact Int.emod_nonneg _ (by decide)
theorem own_modpos (b k : Int32) (K : Int) (hk : k.toInt = K) (h0 : 0 < K) : 0 ≤ ((b &&& 2147483647) % k).toInt ∧ ((b &&& 2147483647) % k).toInt < K := by
  rw [(c_irem (b &&& 2147483647) k K hk).1 (own_mask31 b)]
  exact ⟨Int.emod_nonneg _ (by omega), Int.emod_lt_of_pos _ h0⟩
theorem own_maskpos (b m : Int32) (k : Nat) (hk : k ≤ 31) (hm : m.toBitVec.toNat = 2 ^ k - 1) (K : Int) (hK : K = ((2 ^ k : Nat) : Int)) (h0 : 0 < K) : 0 ≤ (b &&& m).toInt ∧ (b &&& m).toInt < K := by
  rw [c_mask b m k hk hm, ← hK]
  exact ⟨Int.emod_nonneg _ (by omega), Int.emod_lt_of_pos _ h0⟩
end Jvm.RoadKit
namespace Jvm.RoadKit
open Sem ClassFile Op Lib Jvm.Stand Jvm.Free Jvm.LawKit
theorem own_clamp (n : Int32) (k : Nat) (h : n.toInt ≤ k) : n.toNatClampNeg ≤ k := by
  show n.toInt.toNat ≤ k
  omega
theorem own_bb (x : Int32) : x.toInt8.toInt32.toInt8.toInt32 = x.toInt8.toInt32 := by rw [Int8.toInt8_toInt32]
theorem own_ltT {x y : Int32} (h : x < y) : x.toInt < y.toInt := Int32.lt_iff_toInt_lt.mp h
theorem own_nltT {x y : Int32} (h : ¬ x < y) : y.toInt ≤ x.toInt := by rw [Int32.lt_iff_toInt_lt] at h; omega
theorem own_Tlt {x y : Int32} (h : x.toInt < y.toInt) : x < y := Int32.lt_iff_toInt_lt.mpr h
theorem own_Tnlt {x y : Int32} (h : y.toInt ≤ x.toInt) : ¬ x < y := by rw [Int32.lt_iff_toInt_lt]; omega
theorem own_neT {x y : Int32} (h : ¬ x = y) : ¬ x.toInt = y.toInt := fun q => h (Int32.toInt_inj.mp q)
end Jvm.RoadKit
namespace Jvm.Pilot.@@N@@
open Jvm Jvm.ClassFile Sem Op Lib Jvm.Free Jvm.Stand Jvm.LawKit Jvm.RoadKit Bundle Jvm.Pilot.@@N@@.Jvm.D
theorem own_d1_0 : decode method_2_code 0 = .ok (.iload_n 0, 1) := by decide +kernel
theorem own_d1_1 : decode method_2_code 1 = .ok (.ifCond .ne 6, 3) := by decide +kernel
theorem own_d1_4 : decode method_2_code 4 = .ok (.bipush 45, 2) := by decide +kernel
theorem own_d1_6 : decode method_2_code 6 = .ok (.ireturn, 1) := by decide +kernel
theorem own_d1_7 : decode method_2_code 7 = .ok (.iload_n 0, 1) := by decide +kernel
theorem own_d1_8 : decode method_2_code 8 = .ok (.iconst 1, 1) := by decide +kernel
theorem own_d1_9 : decode method_2_code 9 = .ok (.if_icmp .ne 6, 3) := by decide +kernel
theorem own_d1_12 : decode method_2_code 12 = .ok (.bipush 48, 2) := by decide +kernel
theorem own_d1_14 : decode method_2_code 14 = .ok (.ireturn, 1) := by decide +kernel
theorem own_d1_15 : decode method_2_code 15 = .ok (.iload_n 0, 1) := by decide +kernel
theorem own_d1_16 : decode method_2_code 16 = .ok (.iconst 2, 1) := by decide +kernel
theorem own_d1_17 : decode method_2_code 17 = .ok (.if_icmp .ne 7, 3) := by decide +kernel
theorem own_d1_20 : decode method_2_code 20 = .ok (.sipush 183, 3) := by decide +kernel
theorem own_d1_23 : decode method_2_code 23 = .ok (.ireturn, 1) := by decide +kernel
theorem own_d1_24 : decode method_2_code 24 = .ok (.iload_n 0, 1) := by decide +kernel
theorem own_d1_25 : decode method_2_code 25 = .ok (.iconst 3, 1) := by decide +kernel
theorem own_d1_26 : decode method_2_code 26 = .ok (.if_icmp .ne 7, 3) := by decide +kernel
theorem own_d1_29 : decode method_2_code 29 = .ok (.sipush 768, 3) := by decide +kernel
theorem own_d1_32 : decode method_2_code 32 = .ok (.ireturn, 1) := by decide +kernel
theorem own_d1_33 : decode method_2_code 33 = .ok (.sipush 8255, 3) := by decide +kernel
theorem own_d1_36 : decode method_2_code 36 = .ok (.ireturn, 1) := by decide +kernel
theorem own_ef1 (x0 : Int32) : ∀ m, entryFrame m #[(.int x0)] 1 = mkF m 0 #[.val (.int x0)] [] := fun m => by first | (simp [entryFrame, mkF, argsToLocals, Value.category]; done) | rfl
def own_f1_33 (v0 : Int32) : Int32 := (8255 : Int32)
set_option maxRecDepth 65536 in
theorem own_b1_33 {l : Launch} {p : Program} {e : Env} {below : List Frame} {s : State} {m : MethodId} {meth : Method} {c : Code} {Z : State} {a0 args : Array Value} {T : State} {h0 : Heap} (X : Stand p l e ({ frames := 0, cells := 0, slots := 0, locals := 0 } : Room) s m args below meth c T [] 0 0) (C : own_Ctx p s m meth c Z a0 tables_1 (⟨"com/example/dovetail/dovetail/xml/XmlNamesMayGoOnPinLaw", "lowOf", "(I)I"⟩ : MethodName) method_2_code 1 (some .int)) (hh : T.heap = h0) (v0 : Int32) :
    own_Fin p e below s (own_QP (some (.int (own_f1_33 v0))) h0) 0 0 (T.setTop (mkF m 33 #[.val (.int v0)] [])) := by
  obtain ⟨hx, hby, hml, hZ, hown, hnm, hret, hlk, hw⟩ := id C
  refine own_go (fun t => XS.sipush X.here hx rfl (hb hby own_d1_33)) ?_
  show own_Fin p e below s (own_QP (some (.int (own_f1_33 v0))) h0) 0 0 (T.setTop (mkF m 36 #[.val (.int v0)] [(.int (8255 : Int32))]))
  exact own_ret X hlk hx (t := .int) hret rfl (Or.inl ⟨rfl, by simp, _, rfl⟩) (hb hby own_d1_36) ⟨rfl, rfl, hh⟩ (by decide) (by decide)
def own_f1_29 (v0 : Int32) : Int32 := (768 : Int32)
set_option maxRecDepth 65536 in
theorem own_b1_29 {l : Launch} {p : Program} {e : Env} {below : List Frame} {s : State} {m : MethodId} {meth : Method} {c : Code} {Z : State} {a0 args : Array Value} {T : State} {h0 : Heap} (X : Stand p l e ({ frames := 0, cells := 0, slots := 0, locals := 0 } : Room) s m args below meth c T [] 0 0) (C : own_Ctx p s m meth c Z a0 tables_1 (⟨"com/example/dovetail/dovetail/xml/XmlNamesMayGoOnPinLaw", "lowOf", "(I)I"⟩ : MethodName) method_2_code 1 (some .int)) (hh : T.heap = h0) (v0 : Int32) :
    own_Fin p e below s (own_QP (some (.int (own_f1_29 v0))) h0) 0 0 (T.setTop (mkF m 29 #[.val (.int v0)] [])) := by
  obtain ⟨hx, hby, hml, hZ, hown, hnm, hret, hlk, hw⟩ := id C
  refine own_go (fun t => XS.sipush X.here hx rfl (hb hby own_d1_29)) ?_
  show own_Fin p e below s (own_QP (some (.int (own_f1_29 v0))) h0) 0 0 (T.setTop (mkF m 32 #[.val (.int v0)] [(.int (768 : Int32))]))
  exact own_ret X hlk hx (t := .int) hret rfl (Or.inl ⟨rfl, by simp, _, rfl⟩) (hb hby own_d1_32) ⟨rfl, rfl, hh⟩ (by decide) (by decide)
def own_f1_24 (v0 : Int32) : Int32 := if v0 = (3 : Int32) then (own_f1_29 v0) else (own_f1_33 v0)
set_option maxRecDepth 65536 in
theorem own_b1_24 {l : Launch} {p : Program} {e : Env} {below : List Frame} {s : State} {m : MethodId} {meth : Method} {c : Code} {Z : State} {a0 args : Array Value} {T : State} {h0 : Heap} (X : Stand p l e ({ frames := 0, cells := 0, slots := 0, locals := 0 } : Room) s m args below meth c T [] 0 0) (C : own_Ctx p s m meth c Z a0 tables_1 (⟨"com/example/dovetail/dovetail/xml/XmlNamesMayGoOnPinLaw", "lowOf", "(I)I"⟩ : MethodName) method_2_code 1 (some .int)) (hh : T.heap = h0) (v0 : Int32) :
    own_Fin p e below s (own_QP (some (.int (own_f1_24 v0))) h0) 0 0 (T.setTop (mkF m 24 #[.val (.int v0)] [])) := by
  obtain ⟨hx, hby, hml, hZ, hown, hnm, hret, hlk, hw⟩ := id C
  refine own_go (fun t => XS.iloadN X.here hx rfl (hb hby own_d1_24) rfl) ?_
  show own_Fin p e below s (own_QP (some (.int (own_f1_24 v0))) h0) 0 0 (T.setTop (mkF m 25 #[.val (.int v0)] [(.int v0)]))
  refine own_go (fun t => XS.iconst X.here hx rfl (hb hby own_d1_25)) ?_
  show own_Fin p e below s (own_QP (some (.int (own_f1_24 v0))) h0) 0 0 (T.setTop (mkF m 26 #[.val (.int v0)] [(.int (3 : Int32)), (.int v0)]))
  by_cases hq : v0 = (3 : Int32)
  · show own_Fin p e below s (own_QP (some (.int (own_f1_24 v0))) h0) 0 0 _
    rw [show (own_f1_24 v0) = (own_f1_29 v0) from if_pos hq]
    refine own_go (fun t => XS.icmpNo X.here hx rfl (hb hby own_d1_26) rfl (teq hq).2) ?_
    show own_Fin p e below s (own_QP (some (.int (own_f1_29 v0))) h0) 0 0 (T.setTop (mkF m 29 #[.val (.int v0)] []))
    exact own_b1_29 X C hh v0
  · show own_Fin p e below s (own_QP (some (.int (own_f1_24 v0))) h0) 0 0 _
    rw [show (own_f1_24 v0) = (own_f1_33 v0) from if_neg hq]
    refine own_go (fun t => XS.icmpYes X.here hx rfl (pc0 := 26) (pc' := 33) rfl (hb hby own_d1_26) rfl (feq hq).2 (by decide) (by decide)) ?_
    show own_Fin p e below s (own_QP (some (.int (own_f1_33 v0))) h0) 0 0 (T.setTop (mkF m 33 #[.val (.int v0)] []))
    exact own_b1_33 X C hh v0
def own_f1_20 (v0 : Int32) : Int32 := (183 : Int32)
set_option maxRecDepth 65536 in
theorem own_b1_20 {l : Launch} {p : Program} {e : Env} {below : List Frame} {s : State} {m : MethodId} {meth : Method} {c : Code} {Z : State} {a0 args : Array Value} {T : State} {h0 : Heap} (X : Stand p l e ({ frames := 0, cells := 0, slots := 0, locals := 0 } : Room) s m args below meth c T [] 0 0) (C : own_Ctx p s m meth c Z a0 tables_1 (⟨"com/example/dovetail/dovetail/xml/XmlNamesMayGoOnPinLaw", "lowOf", "(I)I"⟩ : MethodName) method_2_code 1 (some .int)) (hh : T.heap = h0) (v0 : Int32) :
    own_Fin p e below s (own_QP (some (.int (own_f1_20 v0))) h0) 0 0 (T.setTop (mkF m 20 #[.val (.int v0)] [])) := by
  obtain ⟨hx, hby, hml, hZ, hown, hnm, hret, hlk, hw⟩ := id C
  refine own_go (fun t => XS.sipush X.here hx rfl (hb hby own_d1_20)) ?_
  show own_Fin p e below s (own_QP (some (.int (own_f1_20 v0))) h0) 0 0 (T.setTop (mkF m 23 #[.val (.int v0)] [(.int (183 : Int32))]))
  exact own_ret X hlk hx (t := .int) hret rfl (Or.inl ⟨rfl, by simp, _, rfl⟩) (hb hby own_d1_23) ⟨rfl, rfl, hh⟩ (by decide) (by decide)
def own_f1_15 (v0 : Int32) : Int32 := if v0 = (2 : Int32) then (own_f1_20 v0) else (own_f1_24 v0)
set_option maxRecDepth 65536 in
theorem own_b1_15 {l : Launch} {p : Program} {e : Env} {below : List Frame} {s : State} {m : MethodId} {meth : Method} {c : Code} {Z : State} {a0 args : Array Value} {T : State} {h0 : Heap} (X : Stand p l e ({ frames := 0, cells := 0, slots := 0, locals := 0 } : Room) s m args below meth c T [] 0 0) (C : own_Ctx p s m meth c Z a0 tables_1 (⟨"com/example/dovetail/dovetail/xml/XmlNamesMayGoOnPinLaw", "lowOf", "(I)I"⟩ : MethodName) method_2_code 1 (some .int)) (hh : T.heap = h0) (v0 : Int32) :
    own_Fin p e below s (own_QP (some (.int (own_f1_15 v0))) h0) 0 0 (T.setTop (mkF m 15 #[.val (.int v0)] [])) := by
  obtain ⟨hx, hby, hml, hZ, hown, hnm, hret, hlk, hw⟩ := id C
  refine own_go (fun t => XS.iloadN X.here hx rfl (hb hby own_d1_15) rfl) ?_
  show own_Fin p e below s (own_QP (some (.int (own_f1_15 v0))) h0) 0 0 (T.setTop (mkF m 16 #[.val (.int v0)] [(.int v0)]))
  refine own_go (fun t => XS.iconst X.here hx rfl (hb hby own_d1_16)) ?_
  show own_Fin p e below s (own_QP (some (.int (own_f1_15 v0))) h0) 0 0 (T.setTop (mkF m 17 #[.val (.int v0)] [(.int (2 : Int32)), (.int v0)]))
  by_cases hq : v0 = (2 : Int32)
  · show own_Fin p e below s (own_QP (some (.int (own_f1_15 v0))) h0) 0 0 _
    rw [show (own_f1_15 v0) = (own_f1_20 v0) from if_pos hq]
    refine own_go (fun t => XS.icmpNo X.here hx rfl (hb hby own_d1_17) rfl (teq hq).2) ?_
    show own_Fin p e below s (own_QP (some (.int (own_f1_20 v0))) h0) 0 0 (T.setTop (mkF m 20 #[.val (.int v0)] []))
    exact own_b1_20 X C hh v0
  · show own_Fin p e below s (own_QP (some (.int (own_f1_15 v0))) h0) 0 0 _
    rw [show (own_f1_15 v0) = (own_f1_24 v0) from if_neg hq]
    refine own_go (fun t => XS.icmpYes X.here hx rfl (pc0 := 17) (pc' := 24) rfl (hb hby own_d1_17) rfl (feq hq).2 (by decide) (by decide)) ?_
    show own_Fin p e below s (own_QP (some (.int (own_f1_24 v0))) h0) 0 0 (T.setTop (mkF m 24 #[.val (.int v0)] []))
    exact own_b1_24 X C hh v0
def own_f1_12 (v0 : Int32) : Int32 := (48 : Int32)
set_option maxRecDepth 65536 in
theorem own_b1_12 {l : Launch} {p : Program} {e : Env} {below : List Frame} {s : State} {m : MethodId} {meth : Method} {c : Code} {Z : State} {a0 args : Array Value} {T : State} {h0 : Heap} (X : Stand p l e ({ frames := 0, cells := 0, slots := 0, locals := 0 } : Room) s m args below meth c T [] 0 0) (C : own_Ctx p s m meth c Z a0 tables_1 (⟨"com/example/dovetail/dovetail/xml/XmlNamesMayGoOnPinLaw", "lowOf", "(I)I"⟩ : MethodName) method_2_code 1 (some .int)) (hh : T.heap = h0) (v0 : Int32) :
    own_Fin p e below s (own_QP (some (.int (own_f1_12 v0))) h0) 0 0 (T.setTop (mkF m 12 #[.val (.int v0)] [])) := by
  obtain ⟨hx, hby, hml, hZ, hown, hnm, hret, hlk, hw⟩ := id C
  refine own_go (fun t => XS.bipush X.here hx rfl (hb hby own_d1_12)) ?_
  show own_Fin p e below s (own_QP (some (.int (own_f1_12 v0))) h0) 0 0 (T.setTop (mkF m 14 #[.val (.int v0)] [(.int (48 : Int32))]))
  exact own_ret X hlk hx (t := .int) hret rfl (Or.inl ⟨rfl, by simp, _, rfl⟩) (hb hby own_d1_14) ⟨rfl, rfl, hh⟩ (by decide) (by decide)
def own_f1_7 (v0 : Int32) : Int32 := if v0 = (1 : Int32) then (own_f1_12 v0) else (own_f1_15 v0)
set_option maxRecDepth 65536 in
theorem own_b1_7 {l : Launch} {p : Program} {e : Env} {below : List Frame} {s : State} {m : MethodId} {meth : Method} {c : Code} {Z : State} {a0 args : Array Value} {T : State} {h0 : Heap} (X : Stand p l e ({ frames := 0, cells := 0, slots := 0, locals := 0 } : Room) s m args below meth c T [] 0 0) (C : own_Ctx p s m meth c Z a0 tables_1 (⟨"com/example/dovetail/dovetail/xml/XmlNamesMayGoOnPinLaw", "lowOf", "(I)I"⟩ : MethodName) method_2_code 1 (some .int)) (hh : T.heap = h0) (v0 : Int32) :
    own_Fin p e below s (own_QP (some (.int (own_f1_7 v0))) h0) 0 0 (T.setTop (mkF m 7 #[.val (.int v0)] [])) := by
  obtain ⟨hx, hby, hml, hZ, hown, hnm, hret, hlk, hw⟩ := id C
  refine own_go (fun t => XS.iloadN X.here hx rfl (hb hby own_d1_7) rfl) ?_
  show own_Fin p e below s (own_QP (some (.int (own_f1_7 v0))) h0) 0 0 (T.setTop (mkF m 8 #[.val (.int v0)] [(.int v0)]))
  refine own_go (fun t => XS.iconst X.here hx rfl (hb hby own_d1_8)) ?_
  show own_Fin p e below s (own_QP (some (.int (own_f1_7 v0))) h0) 0 0 (T.setTop (mkF m 9 #[.val (.int v0)] [(.int (1 : Int32)), (.int v0)]))
  by_cases hq : v0 = (1 : Int32)
  · show own_Fin p e below s (own_QP (some (.int (own_f1_7 v0))) h0) 0 0 _
    rw [show (own_f1_7 v0) = (own_f1_12 v0) from if_pos hq]
    refine own_go (fun t => XS.icmpNo X.here hx rfl (hb hby own_d1_9) rfl (teq hq).2) ?_
    show own_Fin p e below s (own_QP (some (.int (own_f1_12 v0))) h0) 0 0 (T.setTop (mkF m 12 #[.val (.int v0)] []))
    exact own_b1_12 X C hh v0
  · show own_Fin p e below s (own_QP (some (.int (own_f1_7 v0))) h0) 0 0 _
    rw [show (own_f1_7 v0) = (own_f1_15 v0) from if_neg hq]
    refine own_go (fun t => XS.icmpYes X.here hx rfl (pc0 := 9) (pc' := 15) rfl (hb hby own_d1_9) rfl (feq hq).2 (by decide) (by decide)) ?_
    show own_Fin p e below s (own_QP (some (.int (own_f1_15 v0))) h0) 0 0 (T.setTop (mkF m 15 #[.val (.int v0)] []))
    exact own_b1_15 X C hh v0
def own_f1_4 (v0 : Int32) : Int32 := (45 : Int32)
set_option maxRecDepth 65536 in
theorem own_b1_4 {l : Launch} {p : Program} {e : Env} {below : List Frame} {s : State} {m : MethodId} {meth : Method} {c : Code} {Z : State} {a0 args : Array Value} {T : State} {h0 : Heap} (X : Stand p l e ({ frames := 0, cells := 0, slots := 0, locals := 0 } : Room) s m args below meth c T [] 0 0) (C : own_Ctx p s m meth c Z a0 tables_1 (⟨"com/example/dovetail/dovetail/xml/XmlNamesMayGoOnPinLaw", "lowOf", "(I)I"⟩ : MethodName) method_2_code 1 (some .int)) (hh : T.heap = h0) (v0 : Int32) :
    own_Fin p e below s (own_QP (some (.int (own_f1_4 v0))) h0) 0 0 (T.setTop (mkF m 4 #[.val (.int v0)] [])) := by
  obtain ⟨hx, hby, hml, hZ, hown, hnm, hret, hlk, hw⟩ := id C
  refine own_go (fun t => XS.bipush X.here hx rfl (hb hby own_d1_4)) ?_
  show own_Fin p e below s (own_QP (some (.int (own_f1_4 v0))) h0) 0 0 (T.setTop (mkF m 6 #[.val (.int v0)] [(.int (45 : Int32))]))
  exact own_ret X hlk hx (t := .int) hret rfl (Or.inl ⟨rfl, by simp, _, rfl⟩) (hb hby own_d1_6) ⟨rfl, rfl, hh⟩ (by decide) (by decide)
def own_f1_0 (v0 : Int32) : Int32 := if v0 = (0 : Int32) then (own_f1_4 v0) else (own_f1_7 v0)
set_option maxRecDepth 65536 in
theorem own_b1_0 {l : Launch} {p : Program} {e : Env} {below : List Frame} {s : State} {m : MethodId} {meth : Method} {c : Code} {Z : State} {a0 args : Array Value} {T : State} {h0 : Heap} (X : Stand p l e ({ frames := 0, cells := 0, slots := 0, locals := 0 } : Room) s m args below meth c T [] 0 0) (C : own_Ctx p s m meth c Z a0 tables_1 (⟨"com/example/dovetail/dovetail/xml/XmlNamesMayGoOnPinLaw", "lowOf", "(I)I"⟩ : MethodName) method_2_code 1 (some .int)) (hh : T.heap = h0) (v0 : Int32) :
    own_Fin p e below s (own_QP (some (.int (own_f1_0 v0))) h0) 0 0 (T.setTop (mkF m 0 #[.val (.int v0)] [])) := by
  obtain ⟨hx, hby, hml, hZ, hown, hnm, hret, hlk, hw⟩ := id C
  refine own_go (fun t => XS.iloadN X.here hx rfl (hb hby own_d1_0) rfl) ?_
  show own_Fin p e below s (own_QP (some (.int (own_f1_0 v0))) h0) 0 0 (T.setTop (mkF m 1 #[.val (.int v0)] [(.int v0)]))
  by_cases hq : v0 = (0 : Int32)
  · show own_Fin p e below s (own_QP (some (.int (own_f1_0 v0))) h0) 0 0 _
    rw [show (own_f1_0 v0) = (own_f1_4 v0) from if_pos hq]
    refine own_go (fun t => XS.ifNo X.here hx rfl (hb hby own_d1_1) rfl ((if0 _ _).trans (teq hq).2)) ?_
    show own_Fin p e below s (own_QP (some (.int (own_f1_4 v0))) h0) 0 0 (T.setTop (mkF m 4 #[.val (.int v0)] []))
    exact own_b1_4 X C hh v0
  · show own_Fin p e below s (own_QP (some (.int (own_f1_0 v0))) h0) 0 0 _
    rw [show (own_f1_0 v0) = (own_f1_7 v0) from if_neg hq]
    refine own_go (fun t => XS.ifYes X.here hx rfl (pc0 := 1) (pc' := 7) rfl (hb hby own_d1_1) rfl ((if0 _ _).trans (feq hq).2) (by decide) (by decide)) ?_
    show own_Fin p e below s (own_QP (some (.int (own_f1_7 v0))) h0) 0 0 (T.setTop (mkF m 7 #[.val (.int v0)] []))
    exact own_b1_7 X C hh v0
theorem own_pn0 : plainName "com/example/dovetail/dovetail/xml/XmlNamesMayGoOnPinLaw" = true := by first | (simp [plainName, overriddenIn]; done) | decide +kernel
theorem own_c1 (l : Launch) (Z : State) (a0 : Array Value) (hw : ∀ d ∈ tables_1, d.before a0 Z = true) (x0 : Int32) (h0 : Heap) : own_Met l Z (⟨"com/example/dovetail/dovetail/xml/XmlNamesMayGoOnPinLaw", "lowOf", "(I)I"⟩ : MethodName) method_2_code 1 (some .int) [] ({ frames := 0, cells := 0, slots := 0, locals := 0 } : Room) #[(.int x0)] h0 (own_QP (some (.int (own_f1_0 x0))) h0) :=
  own_enter (plainFor_of_name own_pn0) (own_ef1 x0) hw (fun p e s m below meth c T X C hh => own_b1_0 X C hh x0)
theorem own_d2_0 : decode method_3_code 0 = .ok (.iload_n 0, 1) := by decide +kernel
theorem own_d2_1 : decode method_3_code 1 = .ok (.ifCond .ne 6, 3) := by decide +kernel
theorem own_d2_4 : decode method_3_code 4 = .ok (.bipush 46, 2) := by decide +kernel
theorem own_d2_6 : decode method_3_code 6 = .ok (.ireturn, 1) := by decide +kernel
theorem own_d2_7 : decode method_3_code 7 = .ok (.iload_n 0, 1) := by decide +kernel
theorem own_d2_8 : decode method_3_code 8 = .ok (.iconst 1, 1) := by decide +kernel
theorem own_d2_9 : decode method_3_code 9 = .ok (.if_icmp .ne 6, 3) := by decide +kernel
theorem own_d2_12 : decode method_3_code 12 = .ok (.bipush 57, 2) := by decide +kernel
theorem own_d2_14 : decode method_3_code 14 = .ok (.ireturn, 1) := by decide +kernel
theorem own_d2_15 : decode method_3_code 15 = .ok (.iload_n 0, 1) := by decide +kernel
theorem own_d2_16 : decode method_3_code 16 = .ok (.iconst 2, 1) := by decide +kernel
theorem own_d2_17 : decode method_3_code 17 = .ok (.if_icmp .ne 7, 3) := by decide +kernel
theorem own_d2_20 : decode method_3_code 20 = .ok (.sipush 183, 3) := by decide +kernel
theorem own_d2_23 : decode method_3_code 23 = .ok (.ireturn, 1) := by decide +kernel
theorem own_d2_24 : decode method_3_code 24 = .ok (.iload_n 0, 1) := by decide +kernel
theorem own_d2_25 : decode method_3_code 25 = .ok (.iconst 3, 1) := by decide +kernel
theorem own_d2_26 : decode method_3_code 26 = .ok (.if_icmp .ne 7, 3) := by decide +kernel
theorem own_d2_29 : decode method_3_code 29 = .ok (.sipush 879, 3) := by decide +kernel
theorem own_d2_32 : decode method_3_code 32 = .ok (.ireturn, 1) := by decide +kernel
theorem own_d2_33 : decode method_3_code 33 = .ok (.sipush 8256, 3) := by decide +kernel
theorem own_d2_36 : decode method_3_code 36 = .ok (.ireturn, 1) := by decide +kernel
theorem own_ef2 (x0 : Int32) : ∀ m, entryFrame m #[(.int x0)] 1 = mkF m 0 #[.val (.int x0)] [] := fun m => by first | (simp [entryFrame, mkF, argsToLocals, Value.category]; done) | rfl
def own_f2_33 (v0 : Int32) : Int32 := (8256 : Int32)
set_option maxRecDepth 65536 in
theorem own_b2_33 {l : Launch} {p : Program} {e : Env} {below : List Frame} {s : State} {m : MethodId} {meth : Method} {c : Code} {Z : State} {a0 args : Array Value} {T : State} {h0 : Heap} (X : Stand p l e ({ frames := 0, cells := 0, slots := 0, locals := 0 } : Room) s m args below meth c T [] 0 0) (C : own_Ctx p s m meth c Z a0 tables_1 (⟨"com/example/dovetail/dovetail/xml/XmlNamesMayGoOnPinLaw", "highOf", "(I)I"⟩ : MethodName) method_3_code 1 (some .int)) (hh : T.heap = h0) (v0 : Int32) :
    own_Fin p e below s (own_QP (some (.int (own_f2_33 v0))) h0) 0 0 (T.setTop (mkF m 33 #[.val (.int v0)] [])) := by
  obtain ⟨hx, hby, hml, hZ, hown, hnm, hret, hlk, hw⟩ := id C
  refine own_go (fun t => XS.sipush X.here hx rfl (hb hby own_d2_33)) ?_
  show own_Fin p e below s (own_QP (some (.int (own_f2_33 v0))) h0) 0 0 (T.setTop (mkF m 36 #[.val (.int v0)] [(.int (8256 : Int32))]))
  exact own_ret X hlk hx (t := .int) hret rfl (Or.inl ⟨rfl, by simp, _, rfl⟩) (hb hby own_d2_36) ⟨rfl, rfl, hh⟩ (by decide) (by decide)
def own_f2_29 (v0 : Int32) : Int32 := (879 : Int32)
set_option maxRecDepth 65536 in
theorem own_b2_29 {l : Launch} {p : Program} {e : Env} {below : List Frame} {s : State} {m : MethodId} {meth : Method} {c : Code} {Z : State} {a0 args : Array Value} {T : State} {h0 : Heap} (X : Stand p l e ({ frames := 0, cells := 0, slots := 0, locals := 0 } : Room) s m args below meth c T [] 0 0) (C : own_Ctx p s m meth c Z a0 tables_1 (⟨"com/example/dovetail/dovetail/xml/XmlNamesMayGoOnPinLaw", "highOf", "(I)I"⟩ : MethodName) method_3_code 1 (some .int)) (hh : T.heap = h0) (v0 : Int32) :
    own_Fin p e below s (own_QP (some (.int (own_f2_29 v0))) h0) 0 0 (T.setTop (mkF m 29 #[.val (.int v0)] [])) := by
  obtain ⟨hx, hby, hml, hZ, hown, hnm, hret, hlk, hw⟩ := id C
  refine own_go (fun t => XS.sipush X.here hx rfl (hb hby own_d2_29)) ?_
  show own_Fin p e below s (own_QP (some (.int (own_f2_29 v0))) h0) 0 0 (T.setTop (mkF m 32 #[.val (.int v0)] [(.int (879 : Int32))]))
  exact own_ret X hlk hx (t := .int) hret rfl (Or.inl ⟨rfl, by simp, _, rfl⟩) (hb hby own_d2_32) ⟨rfl, rfl, hh⟩ (by decide) (by decide)
def own_f2_24 (v0 : Int32) : Int32 := if v0 = (3 : Int32) then (own_f2_29 v0) else (own_f2_33 v0)
set_option maxRecDepth 65536 in
theorem own_b2_24 {l : Launch} {p : Program} {e : Env} {below : List Frame} {s : State} {m : MethodId} {meth : Method} {c : Code} {Z : State} {a0 args : Array Value} {T : State} {h0 : Heap} (X : Stand p l e ({ frames := 0, cells := 0, slots := 0, locals := 0 } : Room) s m args below meth c T [] 0 0) (C : own_Ctx p s m meth c Z a0 tables_1 (⟨"com/example/dovetail/dovetail/xml/XmlNamesMayGoOnPinLaw", "highOf", "(I)I"⟩ : MethodName) method_3_code 1 (some .int)) (hh : T.heap = h0) (v0 : Int32) :
    own_Fin p e below s (own_QP (some (.int (own_f2_24 v0))) h0) 0 0 (T.setTop (mkF m 24 #[.val (.int v0)] [])) := by
  obtain ⟨hx, hby, hml, hZ, hown, hnm, hret, hlk, hw⟩ := id C
  refine own_go (fun t => XS.iloadN X.here hx rfl (hb hby own_d2_24) rfl) ?_
  show own_Fin p e below s (own_QP (some (.int (own_f2_24 v0))) h0) 0 0 (T.setTop (mkF m 25 #[.val (.int v0)] [(.int v0)]))
  refine own_go (fun t => XS.iconst X.here hx rfl (hb hby own_d2_25)) ?_
  show own_Fin p e below s (own_QP (some (.int (own_f2_24 v0))) h0) 0 0 (T.setTop (mkF m 26 #[.val (.int v0)] [(.int (3 : Int32)), (.int v0)]))
  by_cases hq : v0 = (3 : Int32)
  · show own_Fin p e below s (own_QP (some (.int (own_f2_24 v0))) h0) 0 0 _
    rw [show (own_f2_24 v0) = (own_f2_29 v0) from if_pos hq]
    refine own_go (fun t => XS.icmpNo X.here hx rfl (hb hby own_d2_26) rfl (teq hq).2) ?_
    show own_Fin p e below s (own_QP (some (.int (own_f2_29 v0))) h0) 0 0 (T.setTop (mkF m 29 #[.val (.int v0)] []))
    exact own_b2_29 X C hh v0
  · show own_Fin p e below s (own_QP (some (.int (own_f2_24 v0))) h0) 0 0 _
    rw [show (own_f2_24 v0) = (own_f2_33 v0) from if_neg hq]
    refine own_go (fun t => XS.icmpYes X.here hx rfl (pc0 := 26) (pc' := 33) rfl (hb hby own_d2_26) rfl (feq hq).2 (by decide) (by decide)) ?_
    show own_Fin p e below s (own_QP (some (.int (own_f2_33 v0))) h0) 0 0 (T.setTop (mkF m 33 #[.val (.int v0)] []))
    exact own_b2_33 X C hh v0
def own_f2_20 (v0 : Int32) : Int32 := (183 : Int32)
set_option maxRecDepth 65536 in
theorem own_b2_20 {l : Launch} {p : Program} {e : Env} {below : List Frame} {s : State} {m : MethodId} {meth : Method} {c : Code} {Z : State} {a0 args : Array Value} {T : State} {h0 : Heap} (X : Stand p l e ({ frames := 0, cells := 0, slots := 0, locals := 0 } : Room) s m args below meth c T [] 0 0) (C : own_Ctx p s m meth c Z a0 tables_1 (⟨"com/example/dovetail/dovetail/xml/XmlNamesMayGoOnPinLaw", "highOf", "(I)I"⟩ : MethodName) method_3_code 1 (some .int)) (hh : T.heap = h0) (v0 : Int32) :
    own_Fin p e below s (own_QP (some (.int (own_f2_20 v0))) h0) 0 0 (T.setTop (mkF m 20 #[.val (.int v0)] [])) := by
  obtain ⟨hx, hby, hml, hZ, hown, hnm, hret, hlk, hw⟩ := id C
  refine own_go (fun t => XS.sipush X.here hx rfl (hb hby own_d2_20)) ?_
  show own_Fin p e below s (own_QP (some (.int (own_f2_20 v0))) h0) 0 0 (T.setTop (mkF m 23 #[.val (.int v0)] [(.int (183 : Int32))]))
  exact own_ret X hlk hx (t := .int) hret rfl (Or.inl ⟨rfl, by simp, _, rfl⟩) (hb hby own_d2_23) ⟨rfl, rfl, hh⟩ (by decide) (by decide)
def own_f2_15 (v0 : Int32) : Int32 := if v0 = (2 : Int32) then (own_f2_20 v0) else (own_f2_24 v0)
set_option maxRecDepth 65536 in
theorem own_b2_15 {l : Launch} {p : Program} {e : Env} {below : List Frame} {s : State} {m : MethodId} {meth : Method} {c : Code} {Z : State} {a0 args : Array Value} {T : State} {h0 : Heap} (X : Stand p l e ({ frames := 0, cells := 0, slots := 0, locals := 0 } : Room) s m args below meth c T [] 0 0) (C : own_Ctx p s m meth c Z a0 tables_1 (⟨"com/example/dovetail/dovetail/xml/XmlNamesMayGoOnPinLaw", "highOf", "(I)I"⟩ : MethodName) method_3_code 1 (some .int)) (hh : T.heap = h0) (v0 : Int32) :
    own_Fin p e below s (own_QP (some (.int (own_f2_15 v0))) h0) 0 0 (T.setTop (mkF m 15 #[.val (.int v0)] [])) := by
  obtain ⟨hx, hby, hml, hZ, hown, hnm, hret, hlk, hw⟩ := id C
  refine own_go (fun t => XS.iloadN X.here hx rfl (hb hby own_d2_15) rfl) ?_
  show own_Fin p e below s (own_QP (some (.int (own_f2_15 v0))) h0) 0 0 (T.setTop (mkF m 16 #[.val (.int v0)] [(.int v0)]))
  refine own_go (fun t => XS.iconst X.here hx rfl (hb hby own_d2_16)) ?_
  show own_Fin p e below s (own_QP (some (.int (own_f2_15 v0))) h0) 0 0 (T.setTop (mkF m 17 #[.val (.int v0)] [(.int (2 : Int32)), (.int v0)]))
  by_cases hq : v0 = (2 : Int32)
  · show own_Fin p e below s (own_QP (some (.int (own_f2_15 v0))) h0) 0 0 _
    rw [show (own_f2_15 v0) = (own_f2_20 v0) from if_pos hq]
    refine own_go (fun t => XS.icmpNo X.here hx rfl (hb hby own_d2_17) rfl (teq hq).2) ?_
    show own_Fin p e below s (own_QP (some (.int (own_f2_20 v0))) h0) 0 0 (T.setTop (mkF m 20 #[.val (.int v0)] []))
    exact own_b2_20 X C hh v0
  · show own_Fin p e below s (own_QP (some (.int (own_f2_15 v0))) h0) 0 0 _
    rw [show (own_f2_15 v0) = (own_f2_24 v0) from if_neg hq]
    refine own_go (fun t => XS.icmpYes X.here hx rfl (pc0 := 17) (pc' := 24) rfl (hb hby own_d2_17) rfl (feq hq).2 (by decide) (by decide)) ?_
    show own_Fin p e below s (own_QP (some (.int (own_f2_24 v0))) h0) 0 0 (T.setTop (mkF m 24 #[.val (.int v0)] []))
    exact own_b2_24 X C hh v0
def own_f2_12 (v0 : Int32) : Int32 := (57 : Int32)
set_option maxRecDepth 65536 in
theorem own_b2_12 {l : Launch} {p : Program} {e : Env} {below : List Frame} {s : State} {m : MethodId} {meth : Method} {c : Code} {Z : State} {a0 args : Array Value} {T : State} {h0 : Heap} (X : Stand p l e ({ frames := 0, cells := 0, slots := 0, locals := 0 } : Room) s m args below meth c T [] 0 0) (C : own_Ctx p s m meth c Z a0 tables_1 (⟨"com/example/dovetail/dovetail/xml/XmlNamesMayGoOnPinLaw", "highOf", "(I)I"⟩ : MethodName) method_3_code 1 (some .int)) (hh : T.heap = h0) (v0 : Int32) :
    own_Fin p e below s (own_QP (some (.int (own_f2_12 v0))) h0) 0 0 (T.setTop (mkF m 12 #[.val (.int v0)] [])) := by
  obtain ⟨hx, hby, hml, hZ, hown, hnm, hret, hlk, hw⟩ := id C
  refine own_go (fun t => XS.bipush X.here hx rfl (hb hby own_d2_12)) ?_
  show own_Fin p e below s (own_QP (some (.int (own_f2_12 v0))) h0) 0 0 (T.setTop (mkF m 14 #[.val (.int v0)] [(.int (57 : Int32))]))
  exact own_ret X hlk hx (t := .int) hret rfl (Or.inl ⟨rfl, by simp, _, rfl⟩) (hb hby own_d2_14) ⟨rfl, rfl, hh⟩ (by decide) (by decide)
def own_f2_7 (v0 : Int32) : Int32 := if v0 = (1 : Int32) then (own_f2_12 v0) else (own_f2_15 v0)
set_option maxRecDepth 65536 in
theorem own_b2_7 {l : Launch} {p : Program} {e : Env} {below : List Frame} {s : State} {m : MethodId} {meth : Method} {c : Code} {Z : State} {a0 args : Array Value} {T : State} {h0 : Heap} (X : Stand p l e ({ frames := 0, cells := 0, slots := 0, locals := 0 } : Room) s m args below meth c T [] 0 0) (C : own_Ctx p s m meth c Z a0 tables_1 (⟨"com/example/dovetail/dovetail/xml/XmlNamesMayGoOnPinLaw", "highOf", "(I)I"⟩ : MethodName) method_3_code 1 (some .int)) (hh : T.heap = h0) (v0 : Int32) :
    own_Fin p e below s (own_QP (some (.int (own_f2_7 v0))) h0) 0 0 (T.setTop (mkF m 7 #[.val (.int v0)] [])) := by
  obtain ⟨hx, hby, hml, hZ, hown, hnm, hret, hlk, hw⟩ := id C
  refine own_go (fun t => XS.iloadN X.here hx rfl (hb hby own_d2_7) rfl) ?_
  show own_Fin p e below s (own_QP (some (.int (own_f2_7 v0))) h0) 0 0 (T.setTop (mkF m 8 #[.val (.int v0)] [(.int v0)]))
  refine own_go (fun t => XS.iconst X.here hx rfl (hb hby own_d2_8)) ?_
  show own_Fin p e below s (own_QP (some (.int (own_f2_7 v0))) h0) 0 0 (T.setTop (mkF m 9 #[.val (.int v0)] [(.int (1 : Int32)), (.int v0)]))
  by_cases hq : v0 = (1 : Int32)
  · show own_Fin p e below s (own_QP (some (.int (own_f2_7 v0))) h0) 0 0 _
    rw [show (own_f2_7 v0) = (own_f2_12 v0) from if_pos hq]
    refine own_go (fun t => XS.icmpNo X.here hx rfl (hb hby own_d2_9) rfl (teq hq).2) ?_
    show own_Fin p e below s (own_QP (some (.int (own_f2_12 v0))) h0) 0 0 (T.setTop (mkF m 12 #[.val (.int v0)] []))
    exact own_b2_12 X C hh v0
  · show own_Fin p e below s (own_QP (some (.int (own_f2_7 v0))) h0) 0 0 _
    rw [show (own_f2_7 v0) = (own_f2_15 v0) from if_neg hq]
    refine own_go (fun t => XS.icmpYes X.here hx rfl (pc0 := 9) (pc' := 15) rfl (hb hby own_d2_9) rfl (feq hq).2 (by decide) (by decide)) ?_
    show own_Fin p e below s (own_QP (some (.int (own_f2_15 v0))) h0) 0 0 (T.setTop (mkF m 15 #[.val (.int v0)] []))
    exact own_b2_15 X C hh v0
def own_f2_4 (v0 : Int32) : Int32 := (46 : Int32)
set_option maxRecDepth 65536 in
theorem own_b2_4 {l : Launch} {p : Program} {e : Env} {below : List Frame} {s : State} {m : MethodId} {meth : Method} {c : Code} {Z : State} {a0 args : Array Value} {T : State} {h0 : Heap} (X : Stand p l e ({ frames := 0, cells := 0, slots := 0, locals := 0 } : Room) s m args below meth c T [] 0 0) (C : own_Ctx p s m meth c Z a0 tables_1 (⟨"com/example/dovetail/dovetail/xml/XmlNamesMayGoOnPinLaw", "highOf", "(I)I"⟩ : MethodName) method_3_code 1 (some .int)) (hh : T.heap = h0) (v0 : Int32) :
    own_Fin p e below s (own_QP (some (.int (own_f2_4 v0))) h0) 0 0 (T.setTop (mkF m 4 #[.val (.int v0)] [])) := by
  obtain ⟨hx, hby, hml, hZ, hown, hnm, hret, hlk, hw⟩ := id C
  refine own_go (fun t => XS.bipush X.here hx rfl (hb hby own_d2_4)) ?_
  show own_Fin p e below s (own_QP (some (.int (own_f2_4 v0))) h0) 0 0 (T.setTop (mkF m 6 #[.val (.int v0)] [(.int (46 : Int32))]))
  exact own_ret X hlk hx (t := .int) hret rfl (Or.inl ⟨rfl, by simp, _, rfl⟩) (hb hby own_d2_6) ⟨rfl, rfl, hh⟩ (by decide) (by decide)
def own_f2_0 (v0 : Int32) : Int32 := if v0 = (0 : Int32) then (own_f2_4 v0) else (own_f2_7 v0)
set_option maxRecDepth 65536 in
theorem own_b2_0 {l : Launch} {p : Program} {e : Env} {below : List Frame} {s : State} {m : MethodId} {meth : Method} {c : Code} {Z : State} {a0 args : Array Value} {T : State} {h0 : Heap} (X : Stand p l e ({ frames := 0, cells := 0, slots := 0, locals := 0 } : Room) s m args below meth c T [] 0 0) (C : own_Ctx p s m meth c Z a0 tables_1 (⟨"com/example/dovetail/dovetail/xml/XmlNamesMayGoOnPinLaw", "highOf", "(I)I"⟩ : MethodName) method_3_code 1 (some .int)) (hh : T.heap = h0) (v0 : Int32) :
    own_Fin p e below s (own_QP (some (.int (own_f2_0 v0))) h0) 0 0 (T.setTop (mkF m 0 #[.val (.int v0)] [])) := by
  obtain ⟨hx, hby, hml, hZ, hown, hnm, hret, hlk, hw⟩ := id C
  refine own_go (fun t => XS.iloadN X.here hx rfl (hb hby own_d2_0) rfl) ?_
  show own_Fin p e below s (own_QP (some (.int (own_f2_0 v0))) h0) 0 0 (T.setTop (mkF m 1 #[.val (.int v0)] [(.int v0)]))
  by_cases hq : v0 = (0 : Int32)
  · show own_Fin p e below s (own_QP (some (.int (own_f2_0 v0))) h0) 0 0 _
    rw [show (own_f2_0 v0) = (own_f2_4 v0) from if_pos hq]
    refine own_go (fun t => XS.ifNo X.here hx rfl (hb hby own_d2_1) rfl ((if0 _ _).trans (teq hq).2)) ?_
    show own_Fin p e below s (own_QP (some (.int (own_f2_4 v0))) h0) 0 0 (T.setTop (mkF m 4 #[.val (.int v0)] []))
    exact own_b2_4 X C hh v0
  · show own_Fin p e below s (own_QP (some (.int (own_f2_0 v0))) h0) 0 0 _
    rw [show (own_f2_0 v0) = (own_f2_7 v0) from if_neg hq]
    refine own_go (fun t => XS.ifYes X.here hx rfl (pc0 := 1) (pc' := 7) rfl (hb hby own_d2_1) rfl ((if0 _ _).trans (feq hq).2) (by decide) (by decide)) ?_
    show own_Fin p e below s (own_QP (some (.int (own_f2_7 v0))) h0) 0 0 (T.setTop (mkF m 7 #[.val (.int v0)] []))
    exact own_b2_7 X C hh v0
theorem own_c2 (l : Launch) (Z : State) (a0 : Array Value) (hw : ∀ d ∈ tables_1, d.before a0 Z = true) (x0 : Int32) (h0 : Heap) : own_Met l Z (⟨"com/example/dovetail/dovetail/xml/XmlNamesMayGoOnPinLaw", "highOf", "(I)I"⟩ : MethodName) method_3_code 1 (some .int) [] ({ frames := 0, cells := 0, slots := 0, locals := 0 } : Room) #[(.int x0)] h0 (own_QP (some (.int (own_f2_0 x0))) h0) :=
  own_enter (plainFor_of_name own_pn0) (own_ef2 x0) hw (fun p e s m below meth c T X C hh => own_b2_0 X C hh x0)
theorem own_d3_0 : decode prog_121_method_6_code 0 = .ok (.iload_n 0, 1) := by decide +kernel
theorem own_d3_1 : decode prog_121_method_6_code 1 = .ok (.bipush 45, 2) := by decide +kernel
theorem own_d3_3 : decode prog_121_method_6_code 3 = .ok (.if_icmp .eq 56, 3) := by decide +kernel
theorem own_d3_6 : decode prog_121_method_6_code 6 = .ok (.iload_n 0, 1) := by decide +kernel
theorem own_d3_7 : decode prog_121_method_6_code 7 = .ok (.bipush 46, 2) := by decide +kernel
theorem own_d3_9 : decode prog_121_method_6_code 9 = .ok (.if_icmp .eq 50, 3) := by decide +kernel
theorem own_d3_12 : decode prog_121_method_6_code 12 = .ok (.iload_n 0, 1) := by decide +kernel
theorem own_d3_13 : decode prog_121_method_6_code 13 = .ok (.bipush 48, 2) := by decide +kernel
theorem own_d3_15 : decode prog_121_method_6_code 15 = .ok (.if_icmp .lt 9, 3) := by decide +kernel
theorem own_d3_18 : decode prog_121_method_6_code 18 = .ok (.iload_n 0, 1) := by decide +kernel
theorem own_d3_19 : decode prog_121_method_6_code 19 = .ok (.bipush 57, 2) := by decide +kernel
theorem own_d3_21 : decode prog_121_method_6_code 21 = .ok (.if_icmp .le 38, 3) := by decide +kernel
theorem own_d3_24 : decode prog_121_method_6_code 24 = .ok (.iload_n 0, 1) := by decide +kernel
theorem own_d3_25 : decode prog_121_method_6_code 25 = .ok (.sipush 183, 3) := by decide +kernel
theorem own_d3_28 : decode prog_121_method_6_code 28 = .ok (.if_icmp .eq 31, 3) := by decide +kernel
theorem own_d3_31 : decode prog_121_method_6_code 31 = .ok (.iload_n 0, 1) := by decide +kernel
theorem own_d3_32 : decode prog_121_method_6_code 32 = .ok (.sipush 768, 3) := by decide +kernel
theorem own_d3_35 : decode prog_121_method_6_code 35 = .ok (.if_icmp .lt 10, 3) := by decide +kernel
theorem own_d3_38 : decode prog_121_method_6_code 38 = .ok (.iload_n 0, 1) := by decide +kernel
theorem own_d3_39 : decode prog_121_method_6_code 39 = .ok (.sipush 879, 3) := by decide +kernel
theorem own_d3_42 : decode prog_121_method_6_code 42 = .ok (.if_icmp .le 17, 3) := by decide +kernel
theorem own_d3_45 : decode prog_121_method_6_code 45 = .ok (.iload_n 0, 1) := by decide +kernel
theorem own_d3_46 : decode prog_121_method_6_code 46 = .ok (.sipush 8255, 3) := by decide +kernel
theorem own_d3_49 : decode prog_121_method_6_code 49 = .ok (.if_icmp .lt 14, 3) := by decide +kernel
theorem own_d3_52 : decode prog_121_method_6_code 52 = .ok (.iload_n 0, 1) := by decide +kernel
theorem own_d3_53 : decode prog_121_method_6_code 53 = .ok (.sipush 8256, 3) := by decide +kernel
theorem own_d3_56 : decode prog_121_method_6_code 56 = .ok (.if_icmp .gt 7, 3) := by decide +kernel
theorem own_d3_59 : decode prog_121_method_6_code 59 = .ok (.iconst 1, 1) := by decide +kernel
theorem own_d3_60 : decode prog_121_method_6_code 60 = .ok (.goto 4, 3) := by decide +kernel
theorem own_d3_63 : decode prog_121_method_6_code 63 = .ok (.iconst 0, 1) := by decide +kernel
theorem own_d3_64 : decode prog_121_method_6_code 64 = .ok (.ireturn, 1) := by decide +kernel
theorem own_ef3 (x0 : Int32) : ∀ m, entryFrame m #[(.int x0)] 1 = mkF m 0 #[.val (.int x0)] [] := fun m => by first | (simp [entryFrame, mkF, argsToLocals, Value.category]; done) | rfl
def own_f3_59 (v0 : Int32) : Int32 := (1 : Int32)
set_option maxRecDepth 65536 in
theorem own_b3_59 {l : Launch} {p : Program} {e : Env} {below : List Frame} {s : State} {m : MethodId} {meth : Method} {c : Code} {Z : State} {a0 args : Array Value} {T : State} {h0 : Heap} (X : Stand p l e ({ frames := 0, cells := 0, slots := 0, locals := 0 } : Room) s m args below meth c T [] 0 0) (C : own_Ctx p s m meth c Z a0 tables_1 (⟨"com/example/dovetail/dovetail/xml/XmlNames", "mayGoOn", "(I)Z"⟩ : MethodName) prog_121_method_6_code 1 (some .boolean)) (hh : T.heap = h0) (v0 : Int32) :
    own_Fin p e below s (own_QP (some (.int (own_f3_59 v0))) h0) 0 0 (T.setTop (mkF m 59 #[.val (.int v0)] [])) := by
  obtain ⟨hx, hby, hml, hZ, hown, hnm, hret, hlk, hw⟩ := id C
  refine own_go (fun t => XS.iconst X.here hx rfl (hb hby own_d3_59)) ?_
  show own_Fin p e below s (own_QP (some (.int (own_f3_59 v0))) h0) 0 0 (T.setTop (mkF m 60 #[.val (.int v0)] [(.int (1 : Int32))]))
  refine own_go (fun t => XS.goto X.here hx rfl (pc0 := 60) (pc' := 64) rfl (hb hby own_d3_60) (by decide) (by decide)) ?_
  show own_Fin p e below s (own_QP (some (.int (own_f3_59 v0))) h0) 0 0 (T.setTop (mkF m 64 #[.val (.int v0)] [(.int (1 : Int32))]))
  exact own_ret X hlk hx (t := .boolean) hret rfl (Or.inl ⟨rfl, by simp, _, rfl⟩) (hb hby own_d3_64) ⟨rfl, rfl, hh⟩ (by decide) (by decide)
def own_f3_63 (v0 : Int32) : Int32 := (0 : Int32)
set_option maxRecDepth 65536 in
theorem own_b3_63 {l : Launch} {p : Program} {e : Env} {below : List Frame} {s : State} {m : MethodId} {meth : Method} {c : Code} {Z : State} {a0 args : Array Value} {T : State} {h0 : Heap} (X : Stand p l e ({ frames := 0, cells := 0, slots := 0, locals := 0 } : Room) s m args below meth c T [] 0 0) (C : own_Ctx p s m meth c Z a0 tables_1 (⟨"com/example/dovetail/dovetail/xml/XmlNames", "mayGoOn", "(I)Z"⟩ : MethodName) prog_121_method_6_code 1 (some .boolean)) (hh : T.heap = h0) (v0 : Int32) :
    own_Fin p e below s (own_QP (some (.int (own_f3_63 v0))) h0) 0 0 (T.setTop (mkF m 63 #[.val (.int v0)] [])) := by
  obtain ⟨hx, hby, hml, hZ, hown, hnm, hret, hlk, hw⟩ := id C
  refine own_go (fun t => XS.iconst X.here hx rfl (hb hby own_d3_63)) ?_
  show own_Fin p e below s (own_QP (some (.int (own_f3_63 v0))) h0) 0 0 (T.setTop (mkF m 64 #[.val (.int v0)] [(.int (0 : Int32))]))
  exact own_ret X hlk hx (t := .boolean) hret rfl (Or.inl ⟨rfl, by simp, _, rfl⟩) (hb hby own_d3_64) ⟨rfl, rfl, hh⟩ (by decide) (by decide)
def own_f3_52 (v0 : Int32) : Int32 := if (8256 : Int32) < v0 then (own_f3_63 v0) else (own_f3_59 v0)
set_option maxRecDepth 65536 in
theorem own_b3_52 {l : Launch} {p : Program} {e : Env} {below : List Frame} {s : State} {m : MethodId} {meth : Method} {c : Code} {Z : State} {a0 args : Array Value} {T : State} {h0 : Heap} (X : Stand p l e ({ frames := 0, cells := 0, slots := 0, locals := 0 } : Room) s m args below meth c T [] 0 0) (C : own_Ctx p s m meth c Z a0 tables_1 (⟨"com/example/dovetail/dovetail/xml/XmlNames", "mayGoOn", "(I)Z"⟩ : MethodName) prog_121_method_6_code 1 (some .boolean)) (hh : T.heap = h0) (v0 : Int32) :
    own_Fin p e below s (own_QP (some (.int (own_f3_52 v0))) h0) 0 0 (T.setTop (mkF m 52 #[.val (.int v0)] [])) := by
  obtain ⟨hx, hby, hml, hZ, hown, hnm, hret, hlk, hw⟩ := id C
  refine own_go (fun t => XS.iloadN X.here hx rfl (hb hby own_d3_52) rfl) ?_
  show own_Fin p e below s (own_QP (some (.int (own_f3_52 v0))) h0) 0 0 (T.setTop (mkF m 53 #[.val (.int v0)] [(.int v0)]))
  refine own_go (fun t => XS.sipush X.here hx rfl (hb hby own_d3_53)) ?_
  show own_Fin p e below s (own_QP (some (.int (own_f3_52 v0))) h0) 0 0 (T.setTop (mkF m 56 #[.val (.int v0)] [(.int (8256 : Int32)), (.int v0)]))
  by_cases hq : (8256 : Int32) < v0
  · show own_Fin p e below s (own_QP (some (.int (own_f3_52 v0))) h0) 0 0 _
    rw [show (own_f3_52 v0) = (own_f3_63 v0) from if_pos hq]
    refine own_go (fun t => XS.icmpYes X.here hx rfl (pc0 := 56) (pc' := 63) rfl (hb hby own_d3_56) rfl (tlt hq).2.2.1 (by decide) (by decide)) ?_
    show own_Fin p e below s (own_QP (some (.int (own_f3_63 v0))) h0) 0 0 (T.setTop (mkF m 63 #[.val (.int v0)] []))
    exact own_b3_63 X C hh v0
  · show own_Fin p e below s (own_QP (some (.int (own_f3_52 v0))) h0) 0 0 _
    rw [show (own_f3_52 v0) = (own_f3_59 v0) from if_neg hq]
    refine own_go (fun t => XS.icmpNo X.here hx rfl (hb hby own_d3_56) rfl (flt hq).2.2.1) ?_
    show own_Fin p e below s (own_QP (some (.int (own_f3_59 v0))) h0) 0 0 (T.setTop (mkF m 59 #[.val (.int v0)] []))
    exact own_b3_59 X C hh v0
def own_f3_45 (v0 : Int32) : Int32 := if v0 < (8255 : Int32) then (own_f3_63 v0) else (own_f3_52 v0)
set_option maxRecDepth 65536 in
theorem own_b3_45 {l : Launch} {p : Program} {e : Env} {below : List Frame} {s : State} {m : MethodId} {meth : Method} {c : Code} {Z : State} {a0 args : Array Value} {T : State} {h0 : Heap} (X : Stand p l e ({ frames := 0, cells := 0, slots := 0, locals := 0 } : Room) s m args below meth c T [] 0 0) (C : own_Ctx p s m meth c Z a0 tables_1 (⟨"com/example/dovetail/dovetail/xml/XmlNames", "mayGoOn", "(I)Z"⟩ : MethodName) prog_121_method_6_code 1 (some .boolean)) (hh : T.heap = h0) (v0 : Int32) :
    own_Fin p e below s (own_QP (some (.int (own_f3_45 v0))) h0) 0 0 (T.setTop (mkF m 45 #[.val (.int v0)] [])) := by
  obtain ⟨hx, hby, hml, hZ, hown, hnm, hret, hlk, hw⟩ := id C
  refine own_go (fun t => XS.iloadN X.here hx rfl (hb hby own_d3_45) rfl) ?_
  show own_Fin p e below s (own_QP (some (.int (own_f3_45 v0))) h0) 0 0 (T.setTop (mkF m 46 #[.val (.int v0)] [(.int v0)]))
  refine own_go (fun t => XS.sipush X.here hx rfl (hb hby own_d3_46)) ?_
  show own_Fin p e below s (own_QP (some (.int (own_f3_45 v0))) h0) 0 0 (T.setTop (mkF m 49 #[.val (.int v0)] [(.int (8255 : Int32)), (.int v0)]))
  by_cases hq : v0 < (8255 : Int32)
  · show own_Fin p e below s (own_QP (some (.int (own_f3_45 v0))) h0) 0 0 _
    rw [show (own_f3_45 v0) = (own_f3_63 v0) from if_pos hq]
    refine own_go (fun t => XS.icmpYes X.here hx rfl (pc0 := 49) (pc' := 63) rfl (hb hby own_d3_49) rfl (tlt hq).1 (by decide) (by decide)) ?_
    show own_Fin p e below s (own_QP (some (.int (own_f3_63 v0))) h0) 0 0 (T.setTop (mkF m 63 #[.val (.int v0)] []))
    exact own_b3_63 X C hh v0
  · show own_Fin p e below s (own_QP (some (.int (own_f3_45 v0))) h0) 0 0 _
    rw [show (own_f3_45 v0) = (own_f3_52 v0) from if_neg hq]
    refine own_go (fun t => XS.icmpNo X.here hx rfl (hb hby own_d3_49) rfl (flt hq).1) ?_
    show own_Fin p e below s (own_QP (some (.int (own_f3_52 v0))) h0) 0 0 (T.setTop (mkF m 52 #[.val (.int v0)] []))
    exact own_b3_52 X C hh v0
def own_f3_38 (v0 : Int32) : Int32 := if (879 : Int32) < v0 then (own_f3_45 v0) else (own_f3_59 v0)
set_option maxRecDepth 65536 in
theorem own_b3_38 {l : Launch} {p : Program} {e : Env} {below : List Frame} {s : State} {m : MethodId} {meth : Method} {c : Code} {Z : State} {a0 args : Array Value} {T : State} {h0 : Heap} (X : Stand p l e ({ frames := 0, cells := 0, slots := 0, locals := 0 } : Room) s m args below meth c T [] 0 0) (C : own_Ctx p s m meth c Z a0 tables_1 (⟨"com/example/dovetail/dovetail/xml/XmlNames", "mayGoOn", "(I)Z"⟩ : MethodName) prog_121_method_6_code 1 (some .boolean)) (hh : T.heap = h0) (v0 : Int32) :
    own_Fin p e below s (own_QP (some (.int (own_f3_38 v0))) h0) 0 0 (T.setTop (mkF m 38 #[.val (.int v0)] [])) := by
  obtain ⟨hx, hby, hml, hZ, hown, hnm, hret, hlk, hw⟩ := id C
  refine own_go (fun t => XS.iloadN X.here hx rfl (hb hby own_d3_38) rfl) ?_
  show own_Fin p e below s (own_QP (some (.int (own_f3_38 v0))) h0) 0 0 (T.setTop (mkF m 39 #[.val (.int v0)] [(.int v0)]))
  refine own_go (fun t => XS.sipush X.here hx rfl (hb hby own_d3_39)) ?_
  show own_Fin p e below s (own_QP (some (.int (own_f3_38 v0))) h0) 0 0 (T.setTop (mkF m 42 #[.val (.int v0)] [(.int (879 : Int32)), (.int v0)]))
  by_cases hq : (879 : Int32) < v0
  · show own_Fin p e below s (own_QP (some (.int (own_f3_38 v0))) h0) 0 0 _
    rw [show (own_f3_38 v0) = (own_f3_45 v0) from if_pos hq]
    refine own_go (fun t => XS.icmpNo X.here hx rfl (hb hby own_d3_42) rfl (tlt hq).2.2.2) ?_
    show own_Fin p e below s (own_QP (some (.int (own_f3_45 v0))) h0) 0 0 (T.setTop (mkF m 45 #[.val (.int v0)] []))
    exact own_b3_45 X C hh v0
  · show own_Fin p e below s (own_QP (some (.int (own_f3_38 v0))) h0) 0 0 _
    rw [show (own_f3_38 v0) = (own_f3_59 v0) from if_neg hq]
    refine own_go (fun t => XS.icmpYes X.here hx rfl (pc0 := 42) (pc' := 59) rfl (hb hby own_d3_42) rfl (flt hq).2.2.2 (by decide) (by decide)) ?_
    show own_Fin p e below s (own_QP (some (.int (own_f3_59 v0))) h0) 0 0 (T.setTop (mkF m 59 #[.val (.int v0)] []))
    exact own_b3_59 X C hh v0
def own_f3_31 (v0 : Int32) : Int32 := if v0 < (768 : Int32) then (own_f3_45 v0) else (own_f3_38 v0)
set_option maxRecDepth 65536 in
theorem own_b3_31 {l : Launch} {p : Program} {e : Env} {below : List Frame} {s : State} {m : MethodId} {meth : Method} {c : Code} {Z : State} {a0 args : Array Value} {T : State} {h0 : Heap} (X : Stand p l e ({ frames := 0, cells := 0, slots := 0, locals := 0 } : Room) s m args below meth c T [] 0 0) (C : own_Ctx p s m meth c Z a0 tables_1 (⟨"com/example/dovetail/dovetail/xml/XmlNames", "mayGoOn", "(I)Z"⟩ : MethodName) prog_121_method_6_code 1 (some .boolean)) (hh : T.heap = h0) (v0 : Int32) :
    own_Fin p e below s (own_QP (some (.int (own_f3_31 v0))) h0) 0 0 (T.setTop (mkF m 31 #[.val (.int v0)] [])) := by
  obtain ⟨hx, hby, hml, hZ, hown, hnm, hret, hlk, hw⟩ := id C
  refine own_go (fun t => XS.iloadN X.here hx rfl (hb hby own_d3_31) rfl) ?_
  show own_Fin p e below s (own_QP (some (.int (own_f3_31 v0))) h0) 0 0 (T.setTop (mkF m 32 #[.val (.int v0)] [(.int v0)]))
  refine own_go (fun t => XS.sipush X.here hx rfl (hb hby own_d3_32)) ?_
  show own_Fin p e below s (own_QP (some (.int (own_f3_31 v0))) h0) 0 0 (T.setTop (mkF m 35 #[.val (.int v0)] [(.int (768 : Int32)), (.int v0)]))
  by_cases hq : v0 < (768 : Int32)
  · show own_Fin p e below s (own_QP (some (.int (own_f3_31 v0))) h0) 0 0 _
    rw [show (own_f3_31 v0) = (own_f3_45 v0) from if_pos hq]
    refine own_go (fun t => XS.icmpYes X.here hx rfl (pc0 := 35) (pc' := 45) rfl (hb hby own_d3_35) rfl (tlt hq).1 (by decide) (by decide)) ?_
    show own_Fin p e below s (own_QP (some (.int (own_f3_45 v0))) h0) 0 0 (T.setTop (mkF m 45 #[.val (.int v0)] []))
    exact own_b3_45 X C hh v0
  · show own_Fin p e below s (own_QP (some (.int (own_f3_31 v0))) h0) 0 0 _
    rw [show (own_f3_31 v0) = (own_f3_38 v0) from if_neg hq]
    refine own_go (fun t => XS.icmpNo X.here hx rfl (hb hby own_d3_35) rfl (flt hq).1) ?_
    show own_Fin p e below s (own_QP (some (.int (own_f3_38 v0))) h0) 0 0 (T.setTop (mkF m 38 #[.val (.int v0)] []))
    exact own_b3_38 X C hh v0
def own_f3_24 (v0 : Int32) : Int32 := if v0 = (183 : Int32) then (own_f3_59 v0) else (own_f3_31 v0)
set_option maxRecDepth 65536 in
theorem own_b3_24 {l : Launch} {p : Program} {e : Env} {below : List Frame} {s : State} {m : MethodId} {meth : Method} {c : Code} {Z : State} {a0 args : Array Value} {T : State} {h0 : Heap} (X : Stand p l e ({ frames := 0, cells := 0, slots := 0, locals := 0 } : Room) s m args below meth c T [] 0 0) (C : own_Ctx p s m meth c Z a0 tables_1 (⟨"com/example/dovetail/dovetail/xml/XmlNames", "mayGoOn", "(I)Z"⟩ : MethodName) prog_121_method_6_code 1 (some .boolean)) (hh : T.heap = h0) (v0 : Int32) :
    own_Fin p e below s (own_QP (some (.int (own_f3_24 v0))) h0) 0 0 (T.setTop (mkF m 24 #[.val (.int v0)] [])) := by
  obtain ⟨hx, hby, hml, hZ, hown, hnm, hret, hlk, hw⟩ := id C
  refine own_go (fun t => XS.iloadN X.here hx rfl (hb hby own_d3_24) rfl) ?_
  show own_Fin p e below s (own_QP (some (.int (own_f3_24 v0))) h0) 0 0 (T.setTop (mkF m 25 #[.val (.int v0)] [(.int v0)]))
  refine own_go (fun t => XS.sipush X.here hx rfl (hb hby own_d3_25)) ?_
  show own_Fin p e below s (own_QP (some (.int (own_f3_24 v0))) h0) 0 0 (T.setTop (mkF m 28 #[.val (.int v0)] [(.int (183 : Int32)), (.int v0)]))
  by_cases hq : v0 = (183 : Int32)
  · show own_Fin p e below s (own_QP (some (.int (own_f3_24 v0))) h0) 0 0 _
    rw [show (own_f3_24 v0) = (own_f3_59 v0) from if_pos hq]
    refine own_go (fun t => XS.icmpYes X.here hx rfl (pc0 := 28) (pc' := 59) rfl (hb hby own_d3_28) rfl (teq hq).1 (by decide) (by decide)) ?_
    show own_Fin p e below s (own_QP (some (.int (own_f3_59 v0))) h0) 0 0 (T.setTop (mkF m 59 #[.val (.int v0)] []))
    exact own_b3_59 X C hh v0
  · show own_Fin p e below s (own_QP (some (.int (own_f3_24 v0))) h0) 0 0 _
    rw [show (own_f3_24 v0) = (own_f3_31 v0) from if_neg hq]
    refine own_go (fun t => XS.icmpNo X.here hx rfl (hb hby own_d3_28) rfl (feq hq).1) ?_
    show own_Fin p e below s (own_QP (some (.int (own_f3_31 v0))) h0) 0 0 (T.setTop (mkF m 31 #[.val (.int v0)] []))
    exact own_b3_31 X C hh v0
def own_f3_18 (v0 : Int32) : Int32 := if (57 : Int32) < v0 then (own_f3_24 v0) else (own_f3_59 v0)
set_option maxRecDepth 65536 in
theorem own_b3_18 {l : Launch} {p : Program} {e : Env} {below : List Frame} {s : State} {m : MethodId} {meth : Method} {c : Code} {Z : State} {a0 args : Array Value} {T : State} {h0 : Heap} (X : Stand p l e ({ frames := 0, cells := 0, slots := 0, locals := 0 } : Room) s m args below meth c T [] 0 0) (C : own_Ctx p s m meth c Z a0 tables_1 (⟨"com/example/dovetail/dovetail/xml/XmlNames", "mayGoOn", "(I)Z"⟩ : MethodName) prog_121_method_6_code 1 (some .boolean)) (hh : T.heap = h0) (v0 : Int32) :
    own_Fin p e below s (own_QP (some (.int (own_f3_18 v0))) h0) 0 0 (T.setTop (mkF m 18 #[.val (.int v0)] [])) := by
  obtain ⟨hx, hby, hml, hZ, hown, hnm, hret, hlk, hw⟩ := id C
  refine own_go (fun t => XS.iloadN X.here hx rfl (hb hby own_d3_18) rfl) ?_
  show own_Fin p e below s (own_QP (some (.int (own_f3_18 v0))) h0) 0 0 (T.setTop (mkF m 19 #[.val (.int v0)] [(.int v0)]))
  refine own_go (fun t => XS.bipush X.here hx rfl (hb hby own_d3_19)) ?_
  show own_Fin p e below s (own_QP (some (.int (own_f3_18 v0))) h0) 0 0 (T.setTop (mkF m 21 #[.val (.int v0)] [(.int (57 : Int32)), (.int v0)]))
  by_cases hq : (57 : Int32) < v0
  · show own_Fin p e below s (own_QP (some (.int (own_f3_18 v0))) h0) 0 0 _
    rw [show (own_f3_18 v0) = (own_f3_24 v0) from if_pos hq]
    refine own_go (fun t => XS.icmpNo X.here hx rfl (hb hby own_d3_21) rfl (tlt hq).2.2.2) ?_
    show own_Fin p e below s (own_QP (some (.int (own_f3_24 v0))) h0) 0 0 (T.setTop (mkF m 24 #[.val (.int v0)] []))
    exact own_b3_24 X C hh v0
  · show own_Fin p e below s (own_QP (some (.int (own_f3_18 v0))) h0) 0 0 _
    rw [show (own_f3_18 v0) = (own_f3_59 v0) from if_neg hq]
    refine own_go (fun t => XS.icmpYes X.here hx rfl (pc0 := 21) (pc' := 59) rfl (hb hby own_d3_21) rfl (flt hq).2.2.2 (by decide) (by decide)) ?_
    show own_Fin p e below s (own_QP (some (.int (own_f3_59 v0))) h0) 0 0 (T.setTop (mkF m 59 #[.val (.int v0)] []))
    exact own_b3_59 X C hh v0
def own_f3_12 (v0 : Int32) : Int32 := if v0 < (48 : Int32) then (own_f3_24 v0) else (own_f3_18 v0)
set_option maxRecDepth 65536 in
theorem own_b3_12 {l : Launch} {p : Program} {e : Env} {below : List Frame} {s : State} {m : MethodId} {meth : Method} {c : Code} {Z : State} {a0 args : Array Value} {T : State} {h0 : Heap} (X : Stand p l e ({ frames := 0, cells := 0, slots := 0, locals := 0 } : Room) s m args below meth c T [] 0 0) (C : own_Ctx p s m meth c Z a0 tables_1 (⟨"com/example/dovetail/dovetail/xml/XmlNames", "mayGoOn", "(I)Z"⟩ : MethodName) prog_121_method_6_code 1 (some .boolean)) (hh : T.heap = h0) (v0 : Int32) :
    own_Fin p e below s (own_QP (some (.int (own_f3_12 v0))) h0) 0 0 (T.setTop (mkF m 12 #[.val (.int v0)] [])) := by
  obtain ⟨hx, hby, hml, hZ, hown, hnm, hret, hlk, hw⟩ := id C
  refine own_go (fun t => XS.iloadN X.here hx rfl (hb hby own_d3_12) rfl) ?_
  show own_Fin p e below s (own_QP (some (.int (own_f3_12 v0))) h0) 0 0 (T.setTop (mkF m 13 #[.val (.int v0)] [(.int v0)]))
  refine own_go (fun t => XS.bipush X.here hx rfl (hb hby own_d3_13)) ?_
  show own_Fin p e below s (own_QP (some (.int (own_f3_12 v0))) h0) 0 0 (T.setTop (mkF m 15 #[.val (.int v0)] [(.int (48 : Int32)), (.int v0)]))
  by_cases hq : v0 < (48 : Int32)
  · show own_Fin p e below s (own_QP (some (.int (own_f3_12 v0))) h0) 0 0 _
    rw [show (own_f3_12 v0) = (own_f3_24 v0) from if_pos hq]
    refine own_go (fun t => XS.icmpYes X.here hx rfl (pc0 := 15) (pc' := 24) rfl (hb hby own_d3_15) rfl (tlt hq).1 (by decide) (by decide)) ?_
    show own_Fin p e below s (own_QP (some (.int (own_f3_24 v0))) h0) 0 0 (T.setTop (mkF m 24 #[.val (.int v0)] []))
    exact own_b3_24 X C hh v0
  · show own_Fin p e below s (own_QP (some (.int (own_f3_12 v0))) h0) 0 0 _
    rw [show (own_f3_12 v0) = (own_f3_18 v0) from if_neg hq]
    refine own_go (fun t => XS.icmpNo X.here hx rfl (hb hby own_d3_15) rfl (flt hq).1) ?_
    show own_Fin p e below s (own_QP (some (.int (own_f3_18 v0))) h0) 0 0 (T.setTop (mkF m 18 #[.val (.int v0)] []))
    exact own_b3_18 X C hh v0
def own_f3_6 (v0 : Int32) : Int32 := if v0 = (46 : Int32) then (own_f3_59 v0) else (own_f3_12 v0)
set_option maxRecDepth 65536 in
theorem own_b3_6 {l : Launch} {p : Program} {e : Env} {below : List Frame} {s : State} {m : MethodId} {meth : Method} {c : Code} {Z : State} {a0 args : Array Value} {T : State} {h0 : Heap} (X : Stand p l e ({ frames := 0, cells := 0, slots := 0, locals := 0 } : Room) s m args below meth c T [] 0 0) (C : own_Ctx p s m meth c Z a0 tables_1 (⟨"com/example/dovetail/dovetail/xml/XmlNames", "mayGoOn", "(I)Z"⟩ : MethodName) prog_121_method_6_code 1 (some .boolean)) (hh : T.heap = h0) (v0 : Int32) :
    own_Fin p e below s (own_QP (some (.int (own_f3_6 v0))) h0) 0 0 (T.setTop (mkF m 6 #[.val (.int v0)] [])) := by
  obtain ⟨hx, hby, hml, hZ, hown, hnm, hret, hlk, hw⟩ := id C
  refine own_go (fun t => XS.iloadN X.here hx rfl (hb hby own_d3_6) rfl) ?_
  show own_Fin p e below s (own_QP (some (.int (own_f3_6 v0))) h0) 0 0 (T.setTop (mkF m 7 #[.val (.int v0)] [(.int v0)]))
  refine own_go (fun t => XS.bipush X.here hx rfl (hb hby own_d3_7)) ?_
  show own_Fin p e below s (own_QP (some (.int (own_f3_6 v0))) h0) 0 0 (T.setTop (mkF m 9 #[.val (.int v0)] [(.int (46 : Int32)), (.int v0)]))
  by_cases hq : v0 = (46 : Int32)
  · show own_Fin p e below s (own_QP (some (.int (own_f3_6 v0))) h0) 0 0 _
    rw [show (own_f3_6 v0) = (own_f3_59 v0) from if_pos hq]
    refine own_go (fun t => XS.icmpYes X.here hx rfl (pc0 := 9) (pc' := 59) rfl (hb hby own_d3_9) rfl (teq hq).1 (by decide) (by decide)) ?_
    show own_Fin p e below s (own_QP (some (.int (own_f3_59 v0))) h0) 0 0 (T.setTop (mkF m 59 #[.val (.int v0)] []))
    exact own_b3_59 X C hh v0
  · show own_Fin p e below s (own_QP (some (.int (own_f3_6 v0))) h0) 0 0 _
    rw [show (own_f3_6 v0) = (own_f3_12 v0) from if_neg hq]
    refine own_go (fun t => XS.icmpNo X.here hx rfl (hb hby own_d3_9) rfl (feq hq).1) ?_
    show own_Fin p e below s (own_QP (some (.int (own_f3_12 v0))) h0) 0 0 (T.setTop (mkF m 12 #[.val (.int v0)] []))
    exact own_b3_12 X C hh v0
def own_f3_0 (v0 : Int32) : Int32 := if v0 = (45 : Int32) then (own_f3_59 v0) else (own_f3_6 v0)
set_option maxRecDepth 65536 in
theorem own_b3_0 {l : Launch} {p : Program} {e : Env} {below : List Frame} {s : State} {m : MethodId} {meth : Method} {c : Code} {Z : State} {a0 args : Array Value} {T : State} {h0 : Heap} (X : Stand p l e ({ frames := 0, cells := 0, slots := 0, locals := 0 } : Room) s m args below meth c T [] 0 0) (C : own_Ctx p s m meth c Z a0 tables_1 (⟨"com/example/dovetail/dovetail/xml/XmlNames", "mayGoOn", "(I)Z"⟩ : MethodName) prog_121_method_6_code 1 (some .boolean)) (hh : T.heap = h0) (v0 : Int32) :
    own_Fin p e below s (own_QP (some (.int (own_f3_0 v0))) h0) 0 0 (T.setTop (mkF m 0 #[.val (.int v0)] [])) := by
  obtain ⟨hx, hby, hml, hZ, hown, hnm, hret, hlk, hw⟩ := id C
  refine own_go (fun t => XS.iloadN X.here hx rfl (hb hby own_d3_0) rfl) ?_
  show own_Fin p e below s (own_QP (some (.int (own_f3_0 v0))) h0) 0 0 (T.setTop (mkF m 1 #[.val (.int v0)] [(.int v0)]))
  refine own_go (fun t => XS.bipush X.here hx rfl (hb hby own_d3_1)) ?_
  show own_Fin p e below s (own_QP (some (.int (own_f3_0 v0))) h0) 0 0 (T.setTop (mkF m 3 #[.val (.int v0)] [(.int (45 : Int32)), (.int v0)]))
  by_cases hq : v0 = (45 : Int32)
  · show own_Fin p e below s (own_QP (some (.int (own_f3_0 v0))) h0) 0 0 _
    rw [show (own_f3_0 v0) = (own_f3_59 v0) from if_pos hq]
    refine own_go (fun t => XS.icmpYes X.here hx rfl (pc0 := 3) (pc' := 59) rfl (hb hby own_d3_3) rfl (teq hq).1 (by decide) (by decide)) ?_
    show own_Fin p e below s (own_QP (some (.int (own_f3_59 v0))) h0) 0 0 (T.setTop (mkF m 59 #[.val (.int v0)] []))
    exact own_b3_59 X C hh v0
  · show own_Fin p e below s (own_QP (some (.int (own_f3_0 v0))) h0) 0 0 _
    rw [show (own_f3_0 v0) = (own_f3_6 v0) from if_neg hq]
    refine own_go (fun t => XS.icmpNo X.here hx rfl (hb hby own_d3_3) rfl (feq hq).1) ?_
    show own_Fin p e below s (own_QP (some (.int (own_f3_6 v0))) h0) 0 0 (T.setTop (mkF m 6 #[.val (.int v0)] []))
    exact own_b3_6 X C hh v0
theorem own_pn1 : plainName "com/example/dovetail/dovetail/xml/XmlNames" = true := by first | (simp [plainName, overriddenIn]; done) | decide +kernel
theorem own_c3 (l : Launch) (Z : State) (a0 : Array Value) (hw : ∀ d ∈ tables_1, d.before a0 Z = true) (x0 : Int32) (h0 : Heap) : own_Met l Z (⟨"com/example/dovetail/dovetail/xml/XmlNames", "mayGoOn", "(I)Z"⟩ : MethodName) prog_121_method_6_code 1 (some .boolean) [] ({ frames := 0, cells := 0, slots := 0, locals := 0 } : Room) #[(.int x0)] h0 (own_QP (some (.int (own_f3_0 x0))) h0) :=
  own_enter (plainFor_of_name own_pn1) (own_ef3 x0) hw (fun p e s m below meth c T X C hh => own_b3_0 X C hh x0)
theorem own_d6_0 : decode prog_121_method_5_code 0 = .ok (.iload_n 0, 1) := by decide +kernel
theorem own_d6_1 : decode prog_121_method_5_code 1 = .ok (.bipush 65, 2) := by decide +kernel
theorem own_d6_3 : decode prog_121_method_5_code 3 = .ok (.if_icmp .lt 9, 3) := by decide +kernel
theorem own_d6_6 : decode prog_121_method_5_code 6 = .ok (.iload_n 0, 1) := by decide +kernel
theorem own_d6_7 : decode prog_121_method_5_code 7 = .ok (.bipush 90, 2) := by decide +kernel
theorem own_d6_9 : decode prog_121_method_5_code 9 = .ok (.if_icmp .le 182, 3) := by decide +kernel
theorem own_d6_12 : decode prog_121_method_5_code 12 = .ok (.iload_n 0, 1) := by decide +kernel
theorem own_d6_13 : decode prog_121_method_5_code 13 = .ok (.bipush 95, 2) := by decide +kernel
theorem own_d6_15 : decode prog_121_method_5_code 15 = .ok (.if_icmp .eq 176, 3) := by decide +kernel
theorem own_d6_18 : decode prog_121_method_5_code 18 = .ok (.iload_n 0, 1) := by decide +kernel
theorem own_d6_19 : decode prog_121_method_5_code 19 = .ok (.bipush 97, 2) := by decide +kernel
theorem own_d6_21 : decode prog_121_method_5_code 21 = .ok (.if_icmp .lt 9, 3) := by decide +kernel
theorem own_d6_24 : decode prog_121_method_5_code 24 = .ok (.iload_n 0, 1) := by decide +kernel
theorem own_d6_25 : decode prog_121_method_5_code 25 = .ok (.bipush 122, 2) := by decide +kernel
theorem own_d6_27 : decode prog_121_method_5_code 27 = .ok (.if_icmp .le 164, 3) := by decide +kernel
theorem own_d6_30 : decode prog_121_method_5_code 30 = .ok (.iload_n 0, 1) := by decide +kernel
theorem own_d6_31 : decode prog_121_method_5_code 31 = .ok (.sipush 192, 3) := by decide +kernel
theorem own_d6_34 : decode prog_121_method_5_code 34 = .ok (.if_icmp .lt 10, 3) := by decide +kernel
theorem own_d6_37 : decode prog_121_method_5_code 37 = .ok (.iload_n 0, 1) := by decide +kernel
theorem own_d6_38 : decode prog_121_method_5_code 38 = .ok (.sipush 214, 3) := by decide +kernel
theorem own_d6_41 : decode prog_121_method_5_code 41 = .ok (.if_icmp .le 150, 3) := by decide +kernel
theorem own_d6_44 : decode prog_121_method_5_code 44 = .ok (.iload_n 0, 1) := by decide +kernel
theorem own_d6_45 : decode prog_121_method_5_code 45 = .ok (.sipush 216, 3) := by decide +kernel
theorem own_d6_48 : decode prog_121_method_5_code 48 = .ok (.if_icmp .lt 10, 3) := by decide +kernel
theorem own_d6_51 : decode prog_121_method_5_code 51 = .ok (.iload_n 0, 1) := by decide +kernel
theorem own_d6_52 : decode prog_121_method_5_code 52 = .ok (.sipush 246, 3) := by decide +kernel
theorem own_d6_55 : decode prog_121_method_5_code 55 = .ok (.if_icmp .le 136, 3) := by decide +kernel
theorem own_d6_58 : decode prog_121_method_5_code 58 = .ok (.iload_n 0, 1) := by decide +kernel
theorem own_d6_59 : decode prog_121_method_5_code 59 = .ok (.sipush 248, 3) := by decide +kernel
theorem own_d6_62 : decode prog_121_method_5_code 62 = .ok (.if_icmp .lt 10, 3) := by decide +kernel
theorem own_d6_65 : decode prog_121_method_5_code 65 = .ok (.iload_n 0, 1) := by decide +kernel
theorem own_d6_66 : decode prog_121_method_5_code 66 = .ok (.sipush 767, 3) := by decide +kernel
theorem own_d6_69 : decode prog_121_method_5_code 69 = .ok (.if_icmp .le 122, 3) := by decide +kernel
theorem own_d6_72 : decode prog_121_method_5_code 72 = .ok (.iload_n 0, 1) := by decide +kernel
theorem own_d6_73 : decode prog_121_method_5_code 73 = .ok (.sipush 880, 3) := by decide +kernel
theorem own_d6_76 : decode prog_121_method_5_code 76 = .ok (.if_icmp .lt 10, 3) := by decide +kernel
theorem own_d6_79 : decode prog_121_method_5_code 79 = .ok (.iload_n 0, 1) := by decide +kernel
theorem own_d6_80 : decode prog_121_method_5_code 80 = .ok (.sipush 893, 3) := by decide +kernel
theorem own_d6_83 : decode prog_121_method_5_code 83 = .ok (.if_icmp .le 108, 3) := by decide +kernel
theorem own_d6_86 : decode prog_121_method_5_code 86 = .ok (.iload_n 0, 1) := by decide +kernel
theorem own_d6_87 : decode prog_121_method_5_code 87 = .ok (.sipush 895, 3) := by decide +kernel
theorem own_d6_90 : decode prog_121_method_5_code 90 = .ok (.if_icmp .lt 10, 3) := by decide +kernel
theorem own_d6_93 : decode prog_121_method_5_code 93 = .ok (.iload_n 0, 1) := by decide +kernel
theorem own_d6_94 : decode prog_121_method_5_code 94 = .ok (.sipush 8191, 3) := by decide +kernel
theorem own_d6_97 : decode prog_121_method_5_code 97 = .ok (.if_icmp .le 94, 3) := by decide +kernel
theorem own_d6_100 : decode prog_121_method_5_code 100 = .ok (.iload_n 0, 1) := by decide +kernel
theorem own_d6_101 : decode prog_121_method_5_code 101 = .ok (.sipush 8204, 3) := by decide +kernel
theorem own_d6_104 : decode prog_121_method_5_code 104 = .ok (.if_icmp .lt 10, 3) := by decide +kernel
theorem own_d6_107 : decode prog_121_method_5_code 107 = .ok (.iload_n 0, 1) := by decide +kernel
theorem own_d6_108 : decode prog_121_method_5_code 108 = .ok (.sipush 8205, 3) := by decide +kernel
theorem own_d6_111 : decode prog_121_method_5_code 111 = .ok (.if_icmp .le 80, 3) := by decide +kernel
theorem own_d6_114 : decode prog_121_method_5_code 114 = .ok (.iload_n 0, 1) := by decide +kernel
theorem own_d6_115 : decode prog_121_method_5_code 115 = .ok (.sipush 8304, 3) := by decide +kernel
theorem own_d6_118 : decode prog_121_method_5_code 118 = .ok (.if_icmp .lt 10, 3) := by decide +kernel
theorem own_d6_121 : decode prog_121_method_5_code 121 = .ok (.iload_n 0, 1) := by decide +kernel
theorem own_d6_122 : decode prog_121_method_5_code 122 = .ok (.sipush 8591, 3) := by decide +kernel
theorem own_d6_125 : decode prog_121_method_5_code 125 = .ok (.if_icmp .le 66, 3) := by decide +kernel
theorem own_d6_128 : decode prog_121_method_5_code 128 = .ok (.iload_n 0, 1) := by decide +kernel
theorem own_d6_129 : decode prog_121_method_5_code 129 = .ok (.sipush 11264, 3) := by decide +kernel
theorem own_d6_132 : decode prog_121_method_5_code 132 = .ok (.if_icmp .lt 10, 3) := by decide +kernel
theorem own_d6_135 : decode prog_121_method_5_code 135 = .ok (.iload_n 0, 1) := by decide +kernel
theorem own_d6_136 : decode prog_121_method_5_code 136 = .ok (.sipush 12271, 3) := by decide +kernel
theorem own_d6_139 : decode prog_121_method_5_code 139 = .ok (.if_icmp .le 52, 3) := by decide +kernel
theorem own_d6_142 : decode prog_121_method_5_code 142 = .ok (.iload_n 0, 1) := by decide +kernel
theorem own_d6_143 : decode prog_121_method_5_code 143 = .ok (.sipush 12289, 3) := by decide +kernel
theorem own_d6_146 : decode prog_121_method_5_code 146 = .ok (.if_icmp .lt 9, 3) := by decide +kernel
theorem own_d6_149 : decode prog_121_method_5_code 149 = .ok (.iload_n 0, 1) := by decide +kernel
theorem own_d6_150 : decode prog_121_method_5_code 150 = .ok (.ldc 55, 2) := by decide +kernel
theorem own_d6_152 : decode prog_121_method_5_code 152 = .ok (.if_icmp .le 39, 3) := by decide +kernel
theorem own_d6_155 : decode prog_121_method_5_code 155 = .ok (.iload_n 0, 1) := by decide +kernel
theorem own_d6_156 : decode prog_121_method_5_code 156 = .ok (.ldc 56, 2) := by decide +kernel
theorem own_d6_158 : decode prog_121_method_5_code 158 = .ok (.if_icmp .lt 9, 3) := by decide +kernel
theorem own_d6_161 : decode prog_121_method_5_code 161 = .ok (.iload_n 0, 1) := by decide +kernel
theorem own_d6_162 : decode prog_121_method_5_code 162 = .ok (.ldc 57, 2) := by decide +kernel
theorem own_d6_164 : decode prog_121_method_5_code 164 = .ok (.if_icmp .le 27, 3) := by decide +kernel
theorem own_d6_167 : decode prog_121_method_5_code 167 = .ok (.iload_n 0, 1) := by decide +kernel
theorem own_d6_168 : decode prog_121_method_5_code 168 = .ok (.ldc 58, 2) := by decide +kernel
theorem own_d6_170 : decode prog_121_method_5_code 170 = .ok (.if_icmp .lt 9, 3) := by decide +kernel
theorem own_d6_173 : decode prog_121_method_5_code 173 = .ok (.iload_n 0, 1) := by decide +kernel
theorem own_d6_174 : decode prog_121_method_5_code 174 = .ok (.ldc 59, 2) := by decide +kernel
theorem own_d6_176 : decode prog_121_method_5_code 176 = .ok (.if_icmp .le 15, 3) := by decide +kernel
theorem own_d6_179 : decode prog_121_method_5_code 179 = .ok (.iload_n 0, 1) := by decide +kernel
theorem own_d6_180 : decode prog_121_method_5_code 180 = .ok (.ldc 60, 2) := by decide +kernel
theorem own_d6_182 : decode prog_121_method_5_code 182 = .ok (.if_icmp .lt 13, 3) := by decide +kernel
theorem own_d6_185 : decode prog_121_method_5_code 185 = .ok (.iload_n 0, 1) := by decide +kernel
theorem own_d6_186 : decode prog_121_method_5_code 186 = .ok (.ldc 61, 2) := by decide +kernel
theorem own_d6_188 : decode prog_121_method_5_code 188 = .ok (.if_icmp .gt 7, 3) := by decide +kernel
theorem own_d6_191 : decode prog_121_method_5_code 191 = .ok (.iconst 1, 1) := by decide +kernel
theorem own_d6_192 : decode prog_121_method_5_code 192 = .ok (.goto 4, 3) := by decide +kernel
theorem own_d6_195 : decode prog_121_method_5_code 195 = .ok (.iconst 0, 1) := by decide +kernel
theorem own_d6_196 : decode prog_121_method_5_code 196 = .ok (.ireturn, 1) := by decide +kernel
theorem own_ef6 (x0 : Int32) : ∀ m, entryFrame m #[(.int x0)] 1 = mkF m 0 #[.val (.int x0)] [] := fun m => by first | (simp [entryFrame, mkF, argsToLocals, Value.category]; done) | rfl
def own_f6_191 (v0 : Int32) : Int32 := (1 : Int32)
set_option maxRecDepth 65536 in
theorem own_b6_191 {l : Launch} {p : Program} {e : Env} {below : List Frame} {s : State} {m : MethodId} {meth : Method} {c : Code} {Z : State} {a0 args : Array Value} {T : State} {h0 : Heap} (X : Stand p l e ({ frames := 0, cells := 0, slots := 0, locals := 0 } : Room) s m args below meth c T [] 0 0) (C : own_Ctx p s m meth c Z a0 tables_1 (⟨"com/example/dovetail/dovetail/xml/XmlNames", "mayStart", "(I)Z"⟩ : MethodName) prog_121_method_5_code 1 (some .boolean)) (hh : T.heap = h0) (v0 : Int32) :
    own_Fin p e below s (own_QP (some (.int (own_f6_191 v0))) h0) 0 0 (T.setTop (mkF m 191 #[.val (.int v0)] [])) := by
  obtain ⟨hx, hby, hml, hZ, hown, hnm, hret, hlk, hw⟩ := id C
  refine own_go (fun t => XS.iconst X.here hx rfl (hb hby own_d6_191)) ?_
  show own_Fin p e below s (own_QP (some (.int (own_f6_191 v0))) h0) 0 0 (T.setTop (mkF m 192 #[.val (.int v0)] [(.int (1 : Int32))]))
  refine own_go (fun t => XS.goto X.here hx rfl (pc0 := 192) (pc' := 196) rfl (hb hby own_d6_192) (by decide) (by decide)) ?_
  show own_Fin p e below s (own_QP (some (.int (own_f6_191 v0))) h0) 0 0 (T.setTop (mkF m 196 #[.val (.int v0)] [(.int (1 : Int32))]))
  exact own_ret X hlk hx (t := .boolean) hret rfl (Or.inl ⟨rfl, by simp, _, rfl⟩) (hb hby own_d6_196) ⟨rfl, rfl, hh⟩ (by decide) (by decide)
def own_f6_195 (v0 : Int32) : Int32 := (0 : Int32)
set_option maxRecDepth 65536 in
theorem own_b6_195 {l : Launch} {p : Program} {e : Env} {below : List Frame} {s : State} {m : MethodId} {meth : Method} {c : Code} {Z : State} {a0 args : Array Value} {T : State} {h0 : Heap} (X : Stand p l e ({ frames := 0, cells := 0, slots := 0, locals := 0 } : Room) s m args below meth c T [] 0 0) (C : own_Ctx p s m meth c Z a0 tables_1 (⟨"com/example/dovetail/dovetail/xml/XmlNames", "mayStart", "(I)Z"⟩ : MethodName) prog_121_method_5_code 1 (some .boolean)) (hh : T.heap = h0) (v0 : Int32) :
    own_Fin p e below s (own_QP (some (.int (own_f6_195 v0))) h0) 0 0 (T.setTop (mkF m 195 #[.val (.int v0)] [])) := by
  obtain ⟨hx, hby, hml, hZ, hown, hnm, hret, hlk, hw⟩ := id C
  refine own_go (fun t => XS.iconst X.here hx rfl (hb hby own_d6_195)) ?_
  show own_Fin p e below s (own_QP (some (.int (own_f6_195 v0))) h0) 0 0 (T.setTop (mkF m 196 #[.val (.int v0)] [(.int (0 : Int32))]))
  exact own_ret X hlk hx (t := .boolean) hret rfl (Or.inl ⟨rfl, by simp, _, rfl⟩) (hb hby own_d6_196) ⟨rfl, rfl, hh⟩ (by decide) (by decide)
def own_f6_185 (v0 : Int32) : Int32 := if (983039 : Int32) < v0 then (own_f6_195 v0) else (own_f6_191 v0)
set_option maxRecDepth 65536 in
theorem own_b6_185 {l : Launch} {p : Program} {e : Env} {below : List Frame} {s : State} {m : MethodId} {meth : Method} {c : Code} {Z : State} {a0 args : Array Value} {T : State} {h0 : Heap} (X : Stand p l e ({ frames := 0, cells := 0, slots := 0, locals := 0 } : Room) s m args below meth c T [] 0 0) (C : own_Ctx p s m meth c Z a0 tables_1 (⟨"com/example/dovetail/dovetail/xml/XmlNames", "mayStart", "(I)Z"⟩ : MethodName) prog_121_method_5_code 1 (some .boolean)) (hh : T.heap = h0) (v0 : Int32) :
    own_Fin p e below s (own_QP (some (.int (own_f6_185 v0))) h0) 0 0 (T.setTop (mkF m 185 #[.val (.int v0)] [])) := by
  obtain ⟨hx, hby, hml, hZ, hown, hnm, hret, hlk, hw⟩ := id C
  refine own_go (fun t => XS.iloadN X.here hx rfl (hb hby own_d6_185) rfl) ?_
  show own_Fin p e below s (own_QP (some (.int (own_f6_185 v0))) h0) 0 0 (T.setTop (mkF m 186 #[.val (.int v0)] [(.int v0)]))
  refine own_go (fun t => X.ldcInt hx hown (mvT hZ (hw _ (List.mem_of_getElem? (i := 27) rfl))) (g := (mkF m 186 #[.val (.int v0)] [(.int v0)])) rfl (hb hby own_d6_186) t) ?_
  show own_Fin p e below s (own_QP (some (.int (own_f6_185 v0))) h0) 0 0 (T.setTop (mkF m 188 #[.val (.int v0)] [(.int (983039 : Int32)), (.int v0)]))
  by_cases hq : (983039 : Int32) < v0
  · show own_Fin p e below s (own_QP (some (.int (own_f6_185 v0))) h0) 0 0 _
    rw [show (own_f6_185 v0) = (own_f6_195 v0) from if_pos hq]
    refine own_go (fun t => XS.icmpYes X.here hx rfl (pc0 := 188) (pc' := 195) rfl (hb hby own_d6_188) rfl (tlt hq).2.2.1 (by decide) (by decide)) ?_
    show own_Fin p e below s (own_QP (some (.int (own_f6_195 v0))) h0) 0 0 (T.setTop (mkF m 195 #[.val (.int v0)] []))
    exact own_b6_195 X C hh v0
  · show own_Fin p e below s (own_QP (some (.int (own_f6_185 v0))) h0) 0 0 _
    rw [show (own_f6_185 v0) = (own_f6_191 v0) from if_neg hq]
    refine own_go (fun t => XS.icmpNo X.here hx rfl (hb hby own_d6_188) rfl (flt hq).2.2.1) ?_
    show own_Fin p e below s (own_QP (some (.int (own_f6_191 v0))) h0) 0 0 (T.setTop (mkF m 191 #[.val (.int v0)] []))
    exact own_b6_191 X C hh v0
def own_f6_179 (v0 : Int32) : Int32 := if v0 < (65536 : Int32) then (own_f6_195 v0) else (own_f6_185 v0)
set_option maxRecDepth 65536 in
theorem own_b6_179 {l : Launch} {p : Program} {e : Env} {below : List Frame} {s : State} {m : MethodId} {meth : Method} {c : Code} {Z : State} {a0 args : Array Value} {T : State} {h0 : Heap} (X : Stand p l e ({ frames := 0, cells := 0, slots := 0, locals := 0 } : Room) s m args below meth c T [] 0 0) (C : own_Ctx p s m meth c Z a0 tables_1 (⟨"com/example/dovetail/dovetail/xml/XmlNames", "mayStart", "(I)Z"⟩ : MethodName) prog_121_method_5_code 1 (some .boolean)) (hh : T.heap = h0) (v0 : Int32) :
    own_Fin p e below s (own_QP (some (.int (own_f6_179 v0))) h0) 0 0 (T.setTop (mkF m 179 #[.val (.int v0)] [])) := by
  obtain ⟨hx, hby, hml, hZ, hown, hnm, hret, hlk, hw⟩ := id C
  refine own_go (fun t => XS.iloadN X.here hx rfl (hb hby own_d6_179) rfl) ?_
  show own_Fin p e below s (own_QP (some (.int (own_f6_179 v0))) h0) 0 0 (T.setTop (mkF m 180 #[.val (.int v0)] [(.int v0)]))
  refine own_go (fun t => X.ldcInt hx hown (mvT hZ (hw _ (List.mem_of_getElem? (i := 23) rfl))) (g := (mkF m 180 #[.val (.int v0)] [(.int v0)])) rfl (hb hby own_d6_180) t) ?_
  show own_Fin p e below s (own_QP (some (.int (own_f6_179 v0))) h0) 0 0 (T.setTop (mkF m 182 #[.val (.int v0)] [(.int (65536 : Int32)), (.int v0)]))
  by_cases hq : v0 < (65536 : Int32)
  · show own_Fin p e below s (own_QP (some (.int (own_f6_179 v0))) h0) 0 0 _
    rw [show (own_f6_179 v0) = (own_f6_195 v0) from if_pos hq]
    refine own_go (fun t => XS.icmpYes X.here hx rfl (pc0 := 182) (pc' := 195) rfl (hb hby own_d6_182) rfl (tlt hq).1 (by decide) (by decide)) ?_
    show own_Fin p e below s (own_QP (some (.int (own_f6_195 v0))) h0) 0 0 (T.setTop (mkF m 195 #[.val (.int v0)] []))
    exact own_b6_195 X C hh v0
  · show own_Fin p e below s (own_QP (some (.int (own_f6_179 v0))) h0) 0 0 _
    rw [show (own_f6_179 v0) = (own_f6_185 v0) from if_neg hq]
    refine own_go (fun t => XS.icmpNo X.here hx rfl (hb hby own_d6_182) rfl (flt hq).1) ?_
    show own_Fin p e below s (own_QP (some (.int (own_f6_185 v0))) h0) 0 0 (T.setTop (mkF m 185 #[.val (.int v0)] []))
    exact own_b6_185 X C hh v0
def own_f6_173 (v0 : Int32) : Int32 := if (65533 : Int32) < v0 then (own_f6_179 v0) else (own_f6_191 v0)
set_option maxRecDepth 65536 in
theorem own_b6_173 {l : Launch} {p : Program} {e : Env} {below : List Frame} {s : State} {m : MethodId} {meth : Method} {c : Code} {Z : State} {a0 args : Array Value} {T : State} {h0 : Heap} (X : Stand p l e ({ frames := 0, cells := 0, slots := 0, locals := 0 } : Room) s m args below meth c T [] 0 0) (C : own_Ctx p s m meth c Z a0 tables_1 (⟨"com/example/dovetail/dovetail/xml/XmlNames", "mayStart", "(I)Z"⟩ : MethodName) prog_121_method_5_code 1 (some .boolean)) (hh : T.heap = h0) (v0 : Int32) :
    own_Fin p e below s (own_QP (some (.int (own_f6_173 v0))) h0) 0 0 (T.setTop (mkF m 173 #[.val (.int v0)] [])) := by
  obtain ⟨hx, hby, hml, hZ, hown, hnm, hret, hlk, hw⟩ := id C
  refine own_go (fun t => XS.iloadN X.here hx rfl (hb hby own_d6_173) rfl) ?_
  show own_Fin p e below s (own_QP (some (.int (own_f6_173 v0))) h0) 0 0 (T.setTop (mkF m 174 #[.val (.int v0)] [(.int v0)]))
  refine own_go (fun t => X.ldcInt hx hown (mvT hZ (hw _ (List.mem_of_getElem? (i := 26) rfl))) (g := (mkF m 174 #[.val (.int v0)] [(.int v0)])) rfl (hb hby own_d6_174) t) ?_
  show own_Fin p e below s (own_QP (some (.int (own_f6_173 v0))) h0) 0 0 (T.setTop (mkF m 176 #[.val (.int v0)] [(.int (65533 : Int32)), (.int v0)]))
  by_cases hq : (65533 : Int32) < v0
  · show own_Fin p e below s (own_QP (some (.int (own_f6_173 v0))) h0) 0 0 _
    rw [show (own_f6_173 v0) = (own_f6_179 v0) from if_pos hq]
    refine own_go (fun t => XS.icmpNo X.here hx rfl (hb hby own_d6_176) rfl (tlt hq).2.2.2) ?_
    show own_Fin p e below s (own_QP (some (.int (own_f6_179 v0))) h0) 0 0 (T.setTop (mkF m 179 #[.val (.int v0)] []))
    exact own_b6_179 X C hh v0
  · show own_Fin p e below s (own_QP (some (.int (own_f6_173 v0))) h0) 0 0 _
    rw [show (own_f6_173 v0) = (own_f6_191 v0) from if_neg hq]
    refine own_go (fun t => XS.icmpYes X.here hx rfl (pc0 := 176) (pc' := 191) rfl (hb hby own_d6_176) rfl (flt hq).2.2.2 (by decide) (by decide)) ?_
    show own_Fin p e below s (own_QP (some (.int (own_f6_191 v0))) h0) 0 0 (T.setTop (mkF m 191 #[.val (.int v0)] []))
    exact own_b6_191 X C hh v0
def own_f6_167 (v0 : Int32) : Int32 := if v0 < (65008 : Int32) then (own_f6_179 v0) else (own_f6_173 v0)
set_option maxRecDepth 65536 in
theorem own_b6_167 {l : Launch} {p : Program} {e : Env} {below : List Frame} {s : State} {m : MethodId} {meth : Method} {c : Code} {Z : State} {a0 args : Array Value} {T : State} {h0 : Heap} (X : Stand p l e ({ frames := 0, cells := 0, slots := 0, locals := 0 } : Room) s m args below meth c T [] 0 0) (C : own_Ctx p s m meth c Z a0 tables_1 (⟨"com/example/dovetail/dovetail/xml/XmlNames", "mayStart", "(I)Z"⟩ : MethodName) prog_121_method_5_code 1 (some .boolean)) (hh : T.heap = h0) (v0 : Int32) :
    own_Fin p e below s (own_QP (some (.int (own_f6_167 v0))) h0) 0 0 (T.setTop (mkF m 167 #[.val (.int v0)] [])) := by
  obtain ⟨hx, hby, hml, hZ, hown, hnm, hret, hlk, hw⟩ := id C
  refine own_go (fun t => XS.iloadN X.here hx rfl (hb hby own_d6_167) rfl) ?_
  show own_Fin p e below s (own_QP (some (.int (own_f6_167 v0))) h0) 0 0 (T.setTop (mkF m 168 #[.val (.int v0)] [(.int v0)]))
  refine own_go (fun t => X.ldcInt hx hown (mvT hZ (hw _ (List.mem_of_getElem? (i := 22) rfl))) (g := (mkF m 168 #[.val (.int v0)] [(.int v0)])) rfl (hb hby own_d6_168) t) ?_
  show own_Fin p e below s (own_QP (some (.int (own_f6_167 v0))) h0) 0 0 (T.setTop (mkF m 170 #[.val (.int v0)] [(.int (65008 : Int32)), (.int v0)]))
  by_cases hq : v0 < (65008 : Int32)
  · show own_Fin p e below s (own_QP (some (.int (own_f6_167 v0))) h0) 0 0 _
    rw [show (own_f6_167 v0) = (own_f6_179 v0) from if_pos hq]
    refine own_go (fun t => XS.icmpYes X.here hx rfl (pc0 := 170) (pc' := 179) rfl (hb hby own_d6_170) rfl (tlt hq).1 (by decide) (by decide)) ?_
    show own_Fin p e below s (own_QP (some (.int (own_f6_179 v0))) h0) 0 0 (T.setTop (mkF m 179 #[.val (.int v0)] []))
    exact own_b6_179 X C hh v0
  · show own_Fin p e below s (own_QP (some (.int (own_f6_167 v0))) h0) 0 0 _
    rw [show (own_f6_167 v0) = (own_f6_173 v0) from if_neg hq]
    refine own_go (fun t => XS.icmpNo X.here hx rfl (hb hby own_d6_170) rfl (flt hq).1) ?_
    show own_Fin p e below s (own_QP (some (.int (own_f6_173 v0))) h0) 0 0 (T.setTop (mkF m 173 #[.val (.int v0)] []))
    exact own_b6_173 X C hh v0
def own_f6_161 (v0 : Int32) : Int32 := if (64975 : Int32) < v0 then (own_f6_167 v0) else (own_f6_191 v0)
set_option maxRecDepth 65536 in
theorem own_b6_161 {l : Launch} {p : Program} {e : Env} {below : List Frame} {s : State} {m : MethodId} {meth : Method} {c : Code} {Z : State} {a0 args : Array Value} {T : State} {h0 : Heap} (X : Stand p l e ({ frames := 0, cells := 0, slots := 0, locals := 0 } : Room) s m args below meth c T [] 0 0) (C : own_Ctx p s m meth c Z a0 tables_1 (⟨"com/example/dovetail/dovetail/xml/XmlNames", "mayStart", "(I)Z"⟩ : MethodName) prog_121_method_5_code 1 (some .boolean)) (hh : T.heap = h0) (v0 : Int32) :
    own_Fin p e below s (own_QP (some (.int (own_f6_161 v0))) h0) 0 0 (T.setTop (mkF m 161 #[.val (.int v0)] [])) := by
  obtain ⟨hx, hby, hml, hZ, hown, hnm, hret, hlk, hw⟩ := id C
  refine own_go (fun t => XS.iloadN X.here hx rfl (hb hby own_d6_161) rfl) ?_
  show own_Fin p e below s (own_QP (some (.int (own_f6_161 v0))) h0) 0 0 (T.setTop (mkF m 162 #[.val (.int v0)] [(.int v0)]))
  refine own_go (fun t => X.ldcInt hx hown (mvT hZ (hw _ (List.mem_of_getElem? (i := 25) rfl))) (g := (mkF m 162 #[.val (.int v0)] [(.int v0)])) rfl (hb hby own_d6_162) t) ?_
  show own_Fin p e below s (own_QP (some (.int (own_f6_161 v0))) h0) 0 0 (T.setTop (mkF m 164 #[.val (.int v0)] [(.int (64975 : Int32)), (.int v0)]))
  by_cases hq : (64975 : Int32) < v0
  · show own_Fin p e below s (own_QP (some (.int (own_f6_161 v0))) h0) 0 0 _
    rw [show (own_f6_161 v0) = (own_f6_167 v0) from if_pos hq]
    refine own_go (fun t => XS.icmpNo X.here hx rfl (hb hby own_d6_164) rfl (tlt hq).2.2.2) ?_
    show own_Fin p e below s (own_QP (some (.int (own_f6_167 v0))) h0) 0 0 (T.setTop (mkF m 167 #[.val (.int v0)] []))
    exact own_b6_167 X C hh v0
  · show own_Fin p e below s (own_QP (some (.int (own_f6_161 v0))) h0) 0 0 _
    rw [show (own_f6_161 v0) = (own_f6_191 v0) from if_neg hq]
    refine own_go (fun t => XS.icmpYes X.here hx rfl (pc0 := 164) (pc' := 191) rfl (hb hby own_d6_164) rfl (flt hq).2.2.2 (by decide) (by decide)) ?_
    show own_Fin p e below s (own_QP (some (.int (own_f6_191 v0))) h0) 0 0 (T.setTop (mkF m 191 #[.val (.int v0)] []))
    exact own_b6_191 X C hh v0
def own_f6_155 (v0 : Int32) : Int32 := if v0 < (63744 : Int32) then (own_f6_167 v0) else (own_f6_161 v0)
set_option maxRecDepth 65536 in
theorem own_b6_155 {l : Launch} {p : Program} {e : Env} {below : List Frame} {s : State} {m : MethodId} {meth : Method} {c : Code} {Z : State} {a0 args : Array Value} {T : State} {h0 : Heap} (X : Stand p l e ({ frames := 0, cells := 0, slots := 0, locals := 0 } : Room) s m args below meth c T [] 0 0) (C : own_Ctx p s m meth c Z a0 tables_1 (⟨"com/example/dovetail/dovetail/xml/XmlNames", "mayStart", "(I)Z"⟩ : MethodName) prog_121_method_5_code 1 (some .boolean)) (hh : T.heap = h0) (v0 : Int32) :
    own_Fin p e below s (own_QP (some (.int (own_f6_155 v0))) h0) 0 0 (T.setTop (mkF m 155 #[.val (.int v0)] [])) := by
  obtain ⟨hx, hby, hml, hZ, hown, hnm, hret, hlk, hw⟩ := id C
  refine own_go (fun t => XS.iloadN X.here hx rfl (hb hby own_d6_155) rfl) ?_
  show own_Fin p e below s (own_QP (some (.int (own_f6_155 v0))) h0) 0 0 (T.setTop (mkF m 156 #[.val (.int v0)] [(.int v0)]))
  refine own_go (fun t => X.ldcInt hx hown (mvT hZ (hw _ (List.mem_of_getElem? (i := 21) rfl))) (g := (mkF m 156 #[.val (.int v0)] [(.int v0)])) rfl (hb hby own_d6_156) t) ?_
  show own_Fin p e below s (own_QP (some (.int (own_f6_155 v0))) h0) 0 0 (T.setTop (mkF m 158 #[.val (.int v0)] [(.int (63744 : Int32)), (.int v0)]))
  by_cases hq : v0 < (63744 : Int32)
  · show own_Fin p e below s (own_QP (some (.int (own_f6_155 v0))) h0) 0 0 _
    rw [show (own_f6_155 v0) = (own_f6_167 v0) from if_pos hq]
    refine own_go (fun t => XS.icmpYes X.here hx rfl (pc0 := 158) (pc' := 167) rfl (hb hby own_d6_158) rfl (tlt hq).1 (by decide) (by decide)) ?_
    show own_Fin p e below s (own_QP (some (.int (own_f6_167 v0))) h0) 0 0 (T.setTop (mkF m 167 #[.val (.int v0)] []))
    exact own_b6_167 X C hh v0
  · show own_Fin p e below s (own_QP (some (.int (own_f6_155 v0))) h0) 0 0 _
    rw [show (own_f6_155 v0) = (own_f6_161 v0) from if_neg hq]
    refine own_go (fun t => XS.icmpNo X.here hx rfl (hb hby own_d6_158) rfl (flt hq).1) ?_
    show own_Fin p e below s (own_QP (some (.int (own_f6_161 v0))) h0) 0 0 (T.setTop (mkF m 161 #[.val (.int v0)] []))
    exact own_b6_161 X C hh v0
def own_f6_149 (v0 : Int32) : Int32 := if (55295 : Int32) < v0 then (own_f6_155 v0) else (own_f6_191 v0)
set_option maxRecDepth 65536 in
theorem own_b6_149 {l : Launch} {p : Program} {e : Env} {below : List Frame} {s : State} {m : MethodId} {meth : Method} {c : Code} {Z : State} {a0 args : Array Value} {T : State} {h0 : Heap} (X : Stand p l e ({ frames := 0, cells := 0, slots := 0, locals := 0 } : Room) s m args below meth c T [] 0 0) (C : own_Ctx p s m meth c Z a0 tables_1 (⟨"com/example/dovetail/dovetail/xml/XmlNames", "mayStart", "(I)Z"⟩ : MethodName) prog_121_method_5_code 1 (some .boolean)) (hh : T.heap = h0) (v0 : Int32) :
    own_Fin p e below s (own_QP (some (.int (own_f6_149 v0))) h0) 0 0 (T.setTop (mkF m 149 #[.val (.int v0)] [])) := by
  obtain ⟨hx, hby, hml, hZ, hown, hnm, hret, hlk, hw⟩ := id C
  refine own_go (fun t => XS.iloadN X.here hx rfl (hb hby own_d6_149) rfl) ?_
  show own_Fin p e below s (own_QP (some (.int (own_f6_149 v0))) h0) 0 0 (T.setTop (mkF m 150 #[.val (.int v0)] [(.int v0)]))
  refine own_go (fun t => X.ldcInt hx hown (mvT hZ (hw _ (List.mem_of_getElem? (i := 24) rfl))) (g := (mkF m 150 #[.val (.int v0)] [(.int v0)])) rfl (hb hby own_d6_150) t) ?_
  show own_Fin p e below s (own_QP (some (.int (own_f6_149 v0))) h0) 0 0 (T.setTop (mkF m 152 #[.val (.int v0)] [(.int (55295 : Int32)), (.int v0)]))
  by_cases hq : (55295 : Int32) < v0
  · show own_Fin p e below s (own_QP (some (.int (own_f6_149 v0))) h0) 0 0 _
    rw [show (own_f6_149 v0) = (own_f6_155 v0) from if_pos hq]
    refine own_go (fun t => XS.icmpNo X.here hx rfl (hb hby own_d6_152) rfl (tlt hq).2.2.2) ?_
    show own_Fin p e below s (own_QP (some (.int (own_f6_155 v0))) h0) 0 0 (T.setTop (mkF m 155 #[.val (.int v0)] []))
    exact own_b6_155 X C hh v0
  · show own_Fin p e below s (own_QP (some (.int (own_f6_149 v0))) h0) 0 0 _
    rw [show (own_f6_149 v0) = (own_f6_191 v0) from if_neg hq]
    refine own_go (fun t => XS.icmpYes X.here hx rfl (pc0 := 152) (pc' := 191) rfl (hb hby own_d6_152) rfl (flt hq).2.2.2 (by decide) (by decide)) ?_
    show own_Fin p e below s (own_QP (some (.int (own_f6_191 v0))) h0) 0 0 (T.setTop (mkF m 191 #[.val (.int v0)] []))
    exact own_b6_191 X C hh v0
def own_f6_142 (v0 : Int32) : Int32 := if v0 < (12289 : Int32) then (own_f6_155 v0) else (own_f6_149 v0)
set_option maxRecDepth 65536 in
theorem own_b6_142 {l : Launch} {p : Program} {e : Env} {below : List Frame} {s : State} {m : MethodId} {meth : Method} {c : Code} {Z : State} {a0 args : Array Value} {T : State} {h0 : Heap} (X : Stand p l e ({ frames := 0, cells := 0, slots := 0, locals := 0 } : Room) s m args below meth c T [] 0 0) (C : own_Ctx p s m meth c Z a0 tables_1 (⟨"com/example/dovetail/dovetail/xml/XmlNames", "mayStart", "(I)Z"⟩ : MethodName) prog_121_method_5_code 1 (some .boolean)) (hh : T.heap = h0) (v0 : Int32) :
    own_Fin p e below s (own_QP (some (.int (own_f6_142 v0))) h0) 0 0 (T.setTop (mkF m 142 #[.val (.int v0)] [])) := by
  obtain ⟨hx, hby, hml, hZ, hown, hnm, hret, hlk, hw⟩ := id C
  refine own_go (fun t => XS.iloadN X.here hx rfl (hb hby own_d6_142) rfl) ?_
  show own_Fin p e below s (own_QP (some (.int (own_f6_142 v0))) h0) 0 0 (T.setTop (mkF m 143 #[.val (.int v0)] [(.int v0)]))
  refine own_go (fun t => XS.sipush X.here hx rfl (hb hby own_d6_143)) ?_
  show own_Fin p e below s (own_QP (some (.int (own_f6_142 v0))) h0) 0 0 (T.setTop (mkF m 146 #[.val (.int v0)] [(.int (12289 : Int32)), (.int v0)]))
  by_cases hq : v0 < (12289 : Int32)
  · show own_Fin p e below s (own_QP (some (.int (own_f6_142 v0))) h0) 0 0 _
    rw [show (own_f6_142 v0) = (own_f6_155 v0) from if_pos hq]
    refine own_go (fun t => XS.icmpYes X.here hx rfl (pc0 := 146) (pc' := 155) rfl (hb hby own_d6_146) rfl (tlt hq).1 (by decide) (by decide)) ?_
    show own_Fin p e below s (own_QP (some (.int (own_f6_155 v0))) h0) 0 0 (T.setTop (mkF m 155 #[.val (.int v0)] []))
    exact own_b6_155 X C hh v0
  · show own_Fin p e below s (own_QP (some (.int (own_f6_142 v0))) h0) 0 0 _
    rw [show (own_f6_142 v0) = (own_f6_149 v0) from if_neg hq]
    refine own_go (fun t => XS.icmpNo X.here hx rfl (hb hby own_d6_146) rfl (flt hq).1) ?_
    show own_Fin p e below s (own_QP (some (.int (own_f6_149 v0))) h0) 0 0 (T.setTop (mkF m 149 #[.val (.int v0)] []))
    exact own_b6_149 X C hh v0
def own_f6_135 (v0 : Int32) : Int32 := if (12271 : Int32) < v0 then (own_f6_142 v0) else (own_f6_191 v0)
set_option maxRecDepth 65536 in
theorem own_b6_135 {l : Launch} {p : Program} {e : Env} {below : List Frame} {s : State} {m : MethodId} {meth : Method} {c : Code} {Z : State} {a0 args : Array Value} {T : State} {h0 : Heap} (X : Stand p l e ({ frames := 0, cells := 0, slots := 0, locals := 0 } : Room) s m args below meth c T [] 0 0) (C : own_Ctx p s m meth c Z a0 tables_1 (⟨"com/example/dovetail/dovetail/xml/XmlNames", "mayStart", "(I)Z"⟩ : MethodName) prog_121_method_5_code 1 (some .boolean)) (hh : T.heap = h0) (v0 : Int32) :
    own_Fin p e below s (own_QP (some (.int (own_f6_135 v0))) h0) 0 0 (T.setTop (mkF m 135 #[.val (.int v0)] [])) := by
  obtain ⟨hx, hby, hml, hZ, hown, hnm, hret, hlk, hw⟩ := id C
  refine own_go (fun t => XS.iloadN X.here hx rfl (hb hby own_d6_135) rfl) ?_
  show own_Fin p e below s (own_QP (some (.int (own_f6_135 v0))) h0) 0 0 (T.setTop (mkF m 136 #[.val (.int v0)] [(.int v0)]))
  refine own_go (fun t => XS.sipush X.here hx rfl (hb hby own_d6_136)) ?_
  show own_Fin p e below s (own_QP (some (.int (own_f6_135 v0))) h0) 0 0 (T.setTop (mkF m 139 #[.val (.int v0)] [(.int (12271 : Int32)), (.int v0)]))
  by_cases hq : (12271 : Int32) < v0
  · show own_Fin p e below s (own_QP (some (.int (own_f6_135 v0))) h0) 0 0 _
    rw [show (own_f6_135 v0) = (own_f6_142 v0) from if_pos hq]
    refine own_go (fun t => XS.icmpNo X.here hx rfl (hb hby own_d6_139) rfl (tlt hq).2.2.2) ?_
    show own_Fin p e below s (own_QP (some (.int (own_f6_142 v0))) h0) 0 0 (T.setTop (mkF m 142 #[.val (.int v0)] []))
    exact own_b6_142 X C hh v0
  · show own_Fin p e below s (own_QP (some (.int (own_f6_135 v0))) h0) 0 0 _
    rw [show (own_f6_135 v0) = (own_f6_191 v0) from if_neg hq]
    refine own_go (fun t => XS.icmpYes X.here hx rfl (pc0 := 139) (pc' := 191) rfl (hb hby own_d6_139) rfl (flt hq).2.2.2 (by decide) (by decide)) ?_
    show own_Fin p e below s (own_QP (some (.int (own_f6_191 v0))) h0) 0 0 (T.setTop (mkF m 191 #[.val (.int v0)] []))
    exact own_b6_191 X C hh v0
def own_f6_128 (v0 : Int32) : Int32 := if v0 < (11264 : Int32) then (own_f6_142 v0) else (own_f6_135 v0)
set_option maxRecDepth 65536 in
theorem own_b6_128 {l : Launch} {p : Program} {e : Env} {below : List Frame} {s : State} {m : MethodId} {meth : Method} {c : Code} {Z : State} {a0 args : Array Value} {T : State} {h0 : Heap} (X : Stand p l e ({ frames := 0, cells := 0, slots := 0, locals := 0 } : Room) s m args below meth c T [] 0 0) (C : own_Ctx p s m meth c Z a0 tables_1 (⟨"com/example/dovetail/dovetail/xml/XmlNames", "mayStart", "(I)Z"⟩ : MethodName) prog_121_method_5_code 1 (some .boolean)) (hh : T.heap = h0) (v0 : Int32) :
    own_Fin p e below s (own_QP (some (.int (own_f6_128 v0))) h0) 0 0 (T.setTop (mkF m 128 #[.val (.int v0)] [])) := by
  obtain ⟨hx, hby, hml, hZ, hown, hnm, hret, hlk, hw⟩ := id C
  refine own_go (fun t => XS.iloadN X.here hx rfl (hb hby own_d6_128) rfl) ?_
  show own_Fin p e below s (own_QP (some (.int (own_f6_128 v0))) h0) 0 0 (T.setTop (mkF m 129 #[.val (.int v0)] [(.int v0)]))
  refine own_go (fun t => XS.sipush X.here hx rfl (hb hby own_d6_129)) ?_
  show own_Fin p e below s (own_QP (some (.int (own_f6_128 v0))) h0) 0 0 (T.setTop (mkF m 132 #[.val (.int v0)] [(.int (11264 : Int32)), (.int v0)]))
  by_cases hq : v0 < (11264 : Int32)
  · show own_Fin p e below s (own_QP (some (.int (own_f6_128 v0))) h0) 0 0 _
    rw [show (own_f6_128 v0) = (own_f6_142 v0) from if_pos hq]
    refine own_go (fun t => XS.icmpYes X.here hx rfl (pc0 := 132) (pc' := 142) rfl (hb hby own_d6_132) rfl (tlt hq).1 (by decide) (by decide)) ?_
    show own_Fin p e below s (own_QP (some (.int (own_f6_142 v0))) h0) 0 0 (T.setTop (mkF m 142 #[.val (.int v0)] []))
    exact own_b6_142 X C hh v0
  · show own_Fin p e below s (own_QP (some (.int (own_f6_128 v0))) h0) 0 0 _
    rw [show (own_f6_128 v0) = (own_f6_135 v0) from if_neg hq]
    refine own_go (fun t => XS.icmpNo X.here hx rfl (hb hby own_d6_132) rfl (flt hq).1) ?_
    show own_Fin p e below s (own_QP (some (.int (own_f6_135 v0))) h0) 0 0 (T.setTop (mkF m 135 #[.val (.int v0)] []))
    exact own_b6_135 X C hh v0
def own_f6_121 (v0 : Int32) : Int32 := if (8591 : Int32) < v0 then (own_f6_128 v0) else (own_f6_191 v0)
set_option maxRecDepth 65536 in
theorem own_b6_121 {l : Launch} {p : Program} {e : Env} {below : List Frame} {s : State} {m : MethodId} {meth : Method} {c : Code} {Z : State} {a0 args : Array Value} {T : State} {h0 : Heap} (X : Stand p l e ({ frames := 0, cells := 0, slots := 0, locals := 0 } : Room) s m args below meth c T [] 0 0) (C : own_Ctx p s m meth c Z a0 tables_1 (⟨"com/example/dovetail/dovetail/xml/XmlNames", "mayStart", "(I)Z"⟩ : MethodName) prog_121_method_5_code 1 (some .boolean)) (hh : T.heap = h0) (v0 : Int32) :
    own_Fin p e below s (own_QP (some (.int (own_f6_121 v0))) h0) 0 0 (T.setTop (mkF m 121 #[.val (.int v0)] [])) := by
  obtain ⟨hx, hby, hml, hZ, hown, hnm, hret, hlk, hw⟩ := id C
  refine own_go (fun t => XS.iloadN X.here hx rfl (hb hby own_d6_121) rfl) ?_
  show own_Fin p e below s (own_QP (some (.int (own_f6_121 v0))) h0) 0 0 (T.setTop (mkF m 122 #[.val (.int v0)] [(.int v0)]))
  refine own_go (fun t => XS.sipush X.here hx rfl (hb hby own_d6_122)) ?_
  show own_Fin p e below s (own_QP (some (.int (own_f6_121 v0))) h0) 0 0 (T.setTop (mkF m 125 #[.val (.int v0)] [(.int (8591 : Int32)), (.int v0)]))
  by_cases hq : (8591 : Int32) < v0
  · show own_Fin p e below s (own_QP (some (.int (own_f6_121 v0))) h0) 0 0 _
    rw [show (own_f6_121 v0) = (own_f6_128 v0) from if_pos hq]
    refine own_go (fun t => XS.icmpNo X.here hx rfl (hb hby own_d6_125) rfl (tlt hq).2.2.2) ?_
    show own_Fin p e below s (own_QP (some (.int (own_f6_128 v0))) h0) 0 0 (T.setTop (mkF m 128 #[.val (.int v0)] []))
    exact own_b6_128 X C hh v0
  · show own_Fin p e below s (own_QP (some (.int (own_f6_121 v0))) h0) 0 0 _
    rw [show (own_f6_121 v0) = (own_f6_191 v0) from if_neg hq]
    refine own_go (fun t => XS.icmpYes X.here hx rfl (pc0 := 125) (pc' := 191) rfl (hb hby own_d6_125) rfl (flt hq).2.2.2 (by decide) (by decide)) ?_
    show own_Fin p e below s (own_QP (some (.int (own_f6_191 v0))) h0) 0 0 (T.setTop (mkF m 191 #[.val (.int v0)] []))
    exact own_b6_191 X C hh v0
def own_f6_114 (v0 : Int32) : Int32 := if v0 < (8304 : Int32) then (own_f6_128 v0) else (own_f6_121 v0)
set_option maxRecDepth 65536 in
theorem own_b6_114 {l : Launch} {p : Program} {e : Env} {below : List Frame} {s : State} {m : MethodId} {meth : Method} {c : Code} {Z : State} {a0 args : Array Value} {T : State} {h0 : Heap} (X : Stand p l e ({ frames := 0, cells := 0, slots := 0, locals := 0 } : Room) s m args below meth c T [] 0 0) (C : own_Ctx p s m meth c Z a0 tables_1 (⟨"com/example/dovetail/dovetail/xml/XmlNames", "mayStart", "(I)Z"⟩ : MethodName) prog_121_method_5_code 1 (some .boolean)) (hh : T.heap = h0) (v0 : Int32) :
    own_Fin p e below s (own_QP (some (.int (own_f6_114 v0))) h0) 0 0 (T.setTop (mkF m 114 #[.val (.int v0)] [])) := by
  obtain ⟨hx, hby, hml, hZ, hown, hnm, hret, hlk, hw⟩ := id C
  refine own_go (fun t => XS.iloadN X.here hx rfl (hb hby own_d6_114) rfl) ?_
  show own_Fin p e below s (own_QP (some (.int (own_f6_114 v0))) h0) 0 0 (T.setTop (mkF m 115 #[.val (.int v0)] [(.int v0)]))
  refine own_go (fun t => XS.sipush X.here hx rfl (hb hby own_d6_115)) ?_
  show own_Fin p e below s (own_QP (some (.int (own_f6_114 v0))) h0) 0 0 (T.setTop (mkF m 118 #[.val (.int v0)] [(.int (8304 : Int32)), (.int v0)]))
  by_cases hq : v0 < (8304 : Int32)
  · show own_Fin p e below s (own_QP (some (.int (own_f6_114 v0))) h0) 0 0 _
    rw [show (own_f6_114 v0) = (own_f6_128 v0) from if_pos hq]
    refine own_go (fun t => XS.icmpYes X.here hx rfl (pc0 := 118) (pc' := 128) rfl (hb hby own_d6_118) rfl (tlt hq).1 (by decide) (by decide)) ?_
    show own_Fin p e below s (own_QP (some (.int (own_f6_128 v0))) h0) 0 0 (T.setTop (mkF m 128 #[.val (.int v0)] []))
    exact own_b6_128 X C hh v0
  · show own_Fin p e below s (own_QP (some (.int (own_f6_114 v0))) h0) 0 0 _
    rw [show (own_f6_114 v0) = (own_f6_121 v0) from if_neg hq]
    refine own_go (fun t => XS.icmpNo X.here hx rfl (hb hby own_d6_118) rfl (flt hq).1) ?_
    show own_Fin p e below s (own_QP (some (.int (own_f6_121 v0))) h0) 0 0 (T.setTop (mkF m 121 #[.val (.int v0)] []))
    exact own_b6_121 X C hh v0
def own_f6_107 (v0 : Int32) : Int32 := if (8205 : Int32) < v0 then (own_f6_114 v0) else (own_f6_191 v0)
set_option maxRecDepth 65536 in
theorem own_b6_107 {l : Launch} {p : Program} {e : Env} {below : List Frame} {s : State} {m : MethodId} {meth : Method} {c : Code} {Z : State} {a0 args : Array Value} {T : State} {h0 : Heap} (X : Stand p l e ({ frames := 0, cells := 0, slots := 0, locals := 0 } : Room) s m args below meth c T [] 0 0) (C : own_Ctx p s m meth c Z a0 tables_1 (⟨"com/example/dovetail/dovetail/xml/XmlNames", "mayStart", "(I)Z"⟩ : MethodName) prog_121_method_5_code 1 (some .boolean)) (hh : T.heap = h0) (v0 : Int32) :
    own_Fin p e below s (own_QP (some (.int (own_f6_107 v0))) h0) 0 0 (T.setTop (mkF m 107 #[.val (.int v0)] [])) := by
  obtain ⟨hx, hby, hml, hZ, hown, hnm, hret, hlk, hw⟩ := id C
  refine own_go (fun t => XS.iloadN X.here hx rfl (hb hby own_d6_107) rfl) ?_
  show own_Fin p e below s (own_QP (some (.int (own_f6_107 v0))) h0) 0 0 (T.setTop (mkF m 108 #[.val (.int v0)] [(.int v0)]))
  refine own_go (fun t => XS.sipush X.here hx rfl (hb hby own_d6_108)) ?_
  show own_Fin p e below s (own_QP (some (.int (own_f6_107 v0))) h0) 0 0 (T.setTop (mkF m 111 #[.val (.int v0)] [(.int (8205 : Int32)), (.int v0)]))
  by_cases hq : (8205 : Int32) < v0
  · show own_Fin p e below s (own_QP (some (.int (own_f6_107 v0))) h0) 0 0 _
    rw [show (own_f6_107 v0) = (own_f6_114 v0) from if_pos hq]
    refine own_go (fun t => XS.icmpNo X.here hx rfl (hb hby own_d6_111) rfl (tlt hq).2.2.2) ?_
    show own_Fin p e below s (own_QP (some (.int (own_f6_114 v0))) h0) 0 0 (T.setTop (mkF m 114 #[.val (.int v0)] []))
    exact own_b6_114 X C hh v0
  · show own_Fin p e below s (own_QP (some (.int (own_f6_107 v0))) h0) 0 0 _
    rw [show (own_f6_107 v0) = (own_f6_191 v0) from if_neg hq]
    refine own_go (fun t => XS.icmpYes X.here hx rfl (pc0 := 111) (pc' := 191) rfl (hb hby own_d6_111) rfl (flt hq).2.2.2 (by decide) (by decide)) ?_
    show own_Fin p e below s (own_QP (some (.int (own_f6_191 v0))) h0) 0 0 (T.setTop (mkF m 191 #[.val (.int v0)] []))
    exact own_b6_191 X C hh v0
def own_f6_100 (v0 : Int32) : Int32 := if v0 < (8204 : Int32) then (own_f6_114 v0) else (own_f6_107 v0)
set_option maxRecDepth 65536 in
theorem own_b6_100 {l : Launch} {p : Program} {e : Env} {below : List Frame} {s : State} {m : MethodId} {meth : Method} {c : Code} {Z : State} {a0 args : Array Value} {T : State} {h0 : Heap} (X : Stand p l e ({ frames := 0, cells := 0, slots := 0, locals := 0 } : Room) s m args below meth c T [] 0 0) (C : own_Ctx p s m meth c Z a0 tables_1 (⟨"com/example/dovetail/dovetail/xml/XmlNames", "mayStart", "(I)Z"⟩ : MethodName) prog_121_method_5_code 1 (some .boolean)) (hh : T.heap = h0) (v0 : Int32) :
    own_Fin p e below s (own_QP (some (.int (own_f6_100 v0))) h0) 0 0 (T.setTop (mkF m 100 #[.val (.int v0)] [])) := by
  obtain ⟨hx, hby, hml, hZ, hown, hnm, hret, hlk, hw⟩ := id C
  refine own_go (fun t => XS.iloadN X.here hx rfl (hb hby own_d6_100) rfl) ?_
  show own_Fin p e below s (own_QP (some (.int (own_f6_100 v0))) h0) 0 0 (T.setTop (mkF m 101 #[.val (.int v0)] [(.int v0)]))
  refine own_go (fun t => XS.sipush X.here hx rfl (hb hby own_d6_101)) ?_
  show own_Fin p e below s (own_QP (some (.int (own_f6_100 v0))) h0) 0 0 (T.setTop (mkF m 104 #[.val (.int v0)] [(.int (8204 : Int32)), (.int v0)]))
  by_cases hq : v0 < (8204 : Int32)
  · show own_Fin p e below s (own_QP (some (.int (own_f6_100 v0))) h0) 0 0 _
    rw [show (own_f6_100 v0) = (own_f6_114 v0) from if_pos hq]
    refine own_go (fun t => XS.icmpYes X.here hx rfl (pc0 := 104) (pc' := 114) rfl (hb hby own_d6_104) rfl (tlt hq).1 (by decide) (by decide)) ?_
    show own_Fin p e below s (own_QP (some (.int (own_f6_114 v0))) h0) 0 0 (T.setTop (mkF m 114 #[.val (.int v0)] []))
    exact own_b6_114 X C hh v0
  · show own_Fin p e below s (own_QP (some (.int (own_f6_100 v0))) h0) 0 0 _
    rw [show (own_f6_100 v0) = (own_f6_107 v0) from if_neg hq]
    refine own_go (fun t => XS.icmpNo X.here hx rfl (hb hby own_d6_104) rfl (flt hq).1) ?_
    show own_Fin p e below s (own_QP (some (.int (own_f6_107 v0))) h0) 0 0 (T.setTop (mkF m 107 #[.val (.int v0)] []))
    exact own_b6_107 X C hh v0
def own_f6_93 (v0 : Int32) : Int32 := if (8191 : Int32) < v0 then (own_f6_100 v0) else (own_f6_191 v0)
set_option maxRecDepth 65536 in
theorem own_b6_93 {l : Launch} {p : Program} {e : Env} {below : List Frame} {s : State} {m : MethodId} {meth : Method} {c : Code} {Z : State} {a0 args : Array Value} {T : State} {h0 : Heap} (X : Stand p l e ({ frames := 0, cells := 0, slots := 0, locals := 0 } : Room) s m args below meth c T [] 0 0) (C : own_Ctx p s m meth c Z a0 tables_1 (⟨"com/example/dovetail/dovetail/xml/XmlNames", "mayStart", "(I)Z"⟩ : MethodName) prog_121_method_5_code 1 (some .boolean)) (hh : T.heap = h0) (v0 : Int32) :
    own_Fin p e below s (own_QP (some (.int (own_f6_93 v0))) h0) 0 0 (T.setTop (mkF m 93 #[.val (.int v0)] [])) := by
  obtain ⟨hx, hby, hml, hZ, hown, hnm, hret, hlk, hw⟩ := id C
  refine own_go (fun t => XS.iloadN X.here hx rfl (hb hby own_d6_93) rfl) ?_
  show own_Fin p e below s (own_QP (some (.int (own_f6_93 v0))) h0) 0 0 (T.setTop (mkF m 94 #[.val (.int v0)] [(.int v0)]))
  refine own_go (fun t => XS.sipush X.here hx rfl (hb hby own_d6_94)) ?_
  show own_Fin p e below s (own_QP (some (.int (own_f6_93 v0))) h0) 0 0 (T.setTop (mkF m 97 #[.val (.int v0)] [(.int (8191 : Int32)), (.int v0)]))
  by_cases hq : (8191 : Int32) < v0
  · show own_Fin p e below s (own_QP (some (.int (own_f6_93 v0))) h0) 0 0 _
    rw [show (own_f6_93 v0) = (own_f6_100 v0) from if_pos hq]
    refine own_go (fun t => XS.icmpNo X.here hx rfl (hb hby own_d6_97) rfl (tlt hq).2.2.2) ?_
    show own_Fin p e below s (own_QP (some (.int (own_f6_100 v0))) h0) 0 0 (T.setTop (mkF m 100 #[.val (.int v0)] []))
    exact own_b6_100 X C hh v0
  · show own_Fin p e below s (own_QP (some (.int (own_f6_93 v0))) h0) 0 0 _
    rw [show (own_f6_93 v0) = (own_f6_191 v0) from if_neg hq]
    refine own_go (fun t => XS.icmpYes X.here hx rfl (pc0 := 97) (pc' := 191) rfl (hb hby own_d6_97) rfl (flt hq).2.2.2 (by decide) (by decide)) ?_
    show own_Fin p e below s (own_QP (some (.int (own_f6_191 v0))) h0) 0 0 (T.setTop (mkF m 191 #[.val (.int v0)] []))
    exact own_b6_191 X C hh v0
def own_f6_86 (v0 : Int32) : Int32 := if v0 < (895 : Int32) then (own_f6_100 v0) else (own_f6_93 v0)
set_option maxRecDepth 65536 in
theorem own_b6_86 {l : Launch} {p : Program} {e : Env} {below : List Frame} {s : State} {m : MethodId} {meth : Method} {c : Code} {Z : State} {a0 args : Array Value} {T : State} {h0 : Heap} (X : Stand p l e ({ frames := 0, cells := 0, slots := 0, locals := 0 } : Room) s m args below meth c T [] 0 0) (C : own_Ctx p s m meth c Z a0 tables_1 (⟨"com/example/dovetail/dovetail/xml/XmlNames", "mayStart", "(I)Z"⟩ : MethodName) prog_121_method_5_code 1 (some .boolean)) (hh : T.heap = h0) (v0 : Int32) :
    own_Fin p e below s (own_QP (some (.int (own_f6_86 v0))) h0) 0 0 (T.setTop (mkF m 86 #[.val (.int v0)] [])) := by
  obtain ⟨hx, hby, hml, hZ, hown, hnm, hret, hlk, hw⟩ := id C
  refine own_go (fun t => XS.iloadN X.here hx rfl (hb hby own_d6_86) rfl) ?_
  show own_Fin p e below s (own_QP (some (.int (own_f6_86 v0))) h0) 0 0 (T.setTop (mkF m 87 #[.val (.int v0)] [(.int v0)]))
  refine own_go (fun t => XS.sipush X.here hx rfl (hb hby own_d6_87)) ?_
  show own_Fin p e below s (own_QP (some (.int (own_f6_86 v0))) h0) 0 0 (T.setTop (mkF m 90 #[.val (.int v0)] [(.int (895 : Int32)), (.int v0)]))
  by_cases hq : v0 < (895 : Int32)
  · show own_Fin p e below s (own_QP (some (.int (own_f6_86 v0))) h0) 0 0 _
    rw [show (own_f6_86 v0) = (own_f6_100 v0) from if_pos hq]
    refine own_go (fun t => XS.icmpYes X.here hx rfl (pc0 := 90) (pc' := 100) rfl (hb hby own_d6_90) rfl (tlt hq).1 (by decide) (by decide)) ?_
    show own_Fin p e below s (own_QP (some (.int (own_f6_100 v0))) h0) 0 0 (T.setTop (mkF m 100 #[.val (.int v0)] []))
    exact own_b6_100 X C hh v0
  · show own_Fin p e below s (own_QP (some (.int (own_f6_86 v0))) h0) 0 0 _
    rw [show (own_f6_86 v0) = (own_f6_93 v0) from if_neg hq]
    refine own_go (fun t => XS.icmpNo X.here hx rfl (hb hby own_d6_90) rfl (flt hq).1) ?_
    show own_Fin p e below s (own_QP (some (.int (own_f6_93 v0))) h0) 0 0 (T.setTop (mkF m 93 #[.val (.int v0)] []))
    exact own_b6_93 X C hh v0
def own_f6_79 (v0 : Int32) : Int32 := if (893 : Int32) < v0 then (own_f6_86 v0) else (own_f6_191 v0)
set_option maxRecDepth 65536 in
theorem own_b6_79 {l : Launch} {p : Program} {e : Env} {below : List Frame} {s : State} {m : MethodId} {meth : Method} {c : Code} {Z : State} {a0 args : Array Value} {T : State} {h0 : Heap} (X : Stand p l e ({ frames := 0, cells := 0, slots := 0, locals := 0 } : Room) s m args below meth c T [] 0 0) (C : own_Ctx p s m meth c Z a0 tables_1 (⟨"com/example/dovetail/dovetail/xml/XmlNames", "mayStart", "(I)Z"⟩ : MethodName) prog_121_method_5_code 1 (some .boolean)) (hh : T.heap = h0) (v0 : Int32) :
    own_Fin p e below s (own_QP (some (.int (own_f6_79 v0))) h0) 0 0 (T.setTop (mkF m 79 #[.val (.int v0)] [])) := by
  obtain ⟨hx, hby, hml, hZ, hown, hnm, hret, hlk, hw⟩ := id C
  refine own_go (fun t => XS.iloadN X.here hx rfl (hb hby own_d6_79) rfl) ?_
  show own_Fin p e below s (own_QP (some (.int (own_f6_79 v0))) h0) 0 0 (T.setTop (mkF m 80 #[.val (.int v0)] [(.int v0)]))
  refine own_go (fun t => XS.sipush X.here hx rfl (hb hby own_d6_80)) ?_
  show own_Fin p e below s (own_QP (some (.int (own_f6_79 v0))) h0) 0 0 (T.setTop (mkF m 83 #[.val (.int v0)] [(.int (893 : Int32)), (.int v0)]))
  by_cases hq : (893 : Int32) < v0
  · show own_Fin p e below s (own_QP (some (.int (own_f6_79 v0))) h0) 0 0 _
    rw [show (own_f6_79 v0) = (own_f6_86 v0) from if_pos hq]
    refine own_go (fun t => XS.icmpNo X.here hx rfl (hb hby own_d6_83) rfl (tlt hq).2.2.2) ?_
    show own_Fin p e below s (own_QP (some (.int (own_f6_86 v0))) h0) 0 0 (T.setTop (mkF m 86 #[.val (.int v0)] []))
    exact own_b6_86 X C hh v0
  · show own_Fin p e below s (own_QP (some (.int (own_f6_79 v0))) h0) 0 0 _
    rw [show (own_f6_79 v0) = (own_f6_191 v0) from if_neg hq]
    refine own_go (fun t => XS.icmpYes X.here hx rfl (pc0 := 83) (pc' := 191) rfl (hb hby own_d6_83) rfl (flt hq).2.2.2 (by decide) (by decide)) ?_
    show own_Fin p e below s (own_QP (some (.int (own_f6_191 v0))) h0) 0 0 (T.setTop (mkF m 191 #[.val (.int v0)] []))
    exact own_b6_191 X C hh v0
def own_f6_72 (v0 : Int32) : Int32 := if v0 < (880 : Int32) then (own_f6_86 v0) else (own_f6_79 v0)
set_option maxRecDepth 65536 in
theorem own_b6_72 {l : Launch} {p : Program} {e : Env} {below : List Frame} {s : State} {m : MethodId} {meth : Method} {c : Code} {Z : State} {a0 args : Array Value} {T : State} {h0 : Heap} (X : Stand p l e ({ frames := 0, cells := 0, slots := 0, locals := 0 } : Room) s m args below meth c T [] 0 0) (C : own_Ctx p s m meth c Z a0 tables_1 (⟨"com/example/dovetail/dovetail/xml/XmlNames", "mayStart", "(I)Z"⟩ : MethodName) prog_121_method_5_code 1 (some .boolean)) (hh : T.heap = h0) (v0 : Int32) :
    own_Fin p e below s (own_QP (some (.int (own_f6_72 v0))) h0) 0 0 (T.setTop (mkF m 72 #[.val (.int v0)] [])) := by
  obtain ⟨hx, hby, hml, hZ, hown, hnm, hret, hlk, hw⟩ := id C
  refine own_go (fun t => XS.iloadN X.here hx rfl (hb hby own_d6_72) rfl) ?_
  show own_Fin p e below s (own_QP (some (.int (own_f6_72 v0))) h0) 0 0 (T.setTop (mkF m 73 #[.val (.int v0)] [(.int v0)]))
  refine own_go (fun t => XS.sipush X.here hx rfl (hb hby own_d6_73)) ?_
  show own_Fin p e below s (own_QP (some (.int (own_f6_72 v0))) h0) 0 0 (T.setTop (mkF m 76 #[.val (.int v0)] [(.int (880 : Int32)), (.int v0)]))
  by_cases hq : v0 < (880 : Int32)
  · show own_Fin p e below s (own_QP (some (.int (own_f6_72 v0))) h0) 0 0 _
    rw [show (own_f6_72 v0) = (own_f6_86 v0) from if_pos hq]
    refine own_go (fun t => XS.icmpYes X.here hx rfl (pc0 := 76) (pc' := 86) rfl (hb hby own_d6_76) rfl (tlt hq).1 (by decide) (by decide)) ?_
    show own_Fin p e below s (own_QP (some (.int (own_f6_86 v0))) h0) 0 0 (T.setTop (mkF m 86 #[.val (.int v0)] []))
    exact own_b6_86 X C hh v0
  · show own_Fin p e below s (own_QP (some (.int (own_f6_72 v0))) h0) 0 0 _
    rw [show (own_f6_72 v0) = (own_f6_79 v0) from if_neg hq]
    refine own_go (fun t => XS.icmpNo X.here hx rfl (hb hby own_d6_76) rfl (flt hq).1) ?_
    show own_Fin p e below s (own_QP (some (.int (own_f6_79 v0))) h0) 0 0 (T.setTop (mkF m 79 #[.val (.int v0)] []))
    exact own_b6_79 X C hh v0
def own_f6_65 (v0 : Int32) : Int32 := if (767 : Int32) < v0 then (own_f6_72 v0) else (own_f6_191 v0)
set_option maxRecDepth 65536 in
theorem own_b6_65 {l : Launch} {p : Program} {e : Env} {below : List Frame} {s : State} {m : MethodId} {meth : Method} {c : Code} {Z : State} {a0 args : Array Value} {T : State} {h0 : Heap} (X : Stand p l e ({ frames := 0, cells := 0, slots := 0, locals := 0 } : Room) s m args below meth c T [] 0 0) (C : own_Ctx p s m meth c Z a0 tables_1 (⟨"com/example/dovetail/dovetail/xml/XmlNames", "mayStart", "(I)Z"⟩ : MethodName) prog_121_method_5_code 1 (some .boolean)) (hh : T.heap = h0) (v0 : Int32) :
    own_Fin p e below s (own_QP (some (.int (own_f6_65 v0))) h0) 0 0 (T.setTop (mkF m 65 #[.val (.int v0)] [])) := by
  obtain ⟨hx, hby, hml, hZ, hown, hnm, hret, hlk, hw⟩ := id C
  refine own_go (fun t => XS.iloadN X.here hx rfl (hb hby own_d6_65) rfl) ?_
  show own_Fin p e below s (own_QP (some (.int (own_f6_65 v0))) h0) 0 0 (T.setTop (mkF m 66 #[.val (.int v0)] [(.int v0)]))
  refine own_go (fun t => XS.sipush X.here hx rfl (hb hby own_d6_66)) ?_
  show own_Fin p e below s (own_QP (some (.int (own_f6_65 v0))) h0) 0 0 (T.setTop (mkF m 69 #[.val (.int v0)] [(.int (767 : Int32)), (.int v0)]))
  by_cases hq : (767 : Int32) < v0
  · show own_Fin p e below s (own_QP (some (.int (own_f6_65 v0))) h0) 0 0 _
    rw [show (own_f6_65 v0) = (own_f6_72 v0) from if_pos hq]
    refine own_go (fun t => XS.icmpNo X.here hx rfl (hb hby own_d6_69) rfl (tlt hq).2.2.2) ?_
    show own_Fin p e below s (own_QP (some (.int (own_f6_72 v0))) h0) 0 0 (T.setTop (mkF m 72 #[.val (.int v0)] []))
    exact own_b6_72 X C hh v0
  · show own_Fin p e below s (own_QP (some (.int (own_f6_65 v0))) h0) 0 0 _
    rw [show (own_f6_65 v0) = (own_f6_191 v0) from if_neg hq]
    refine own_go (fun t => XS.icmpYes X.here hx rfl (pc0 := 69) (pc' := 191) rfl (hb hby own_d6_69) rfl (flt hq).2.2.2 (by decide) (by decide)) ?_
    show own_Fin p e below s (own_QP (some (.int (own_f6_191 v0))) h0) 0 0 (T.setTop (mkF m 191 #[.val (.int v0)] []))
    exact own_b6_191 X C hh v0
def own_f6_58 (v0 : Int32) : Int32 := if v0 < (248 : Int32) then (own_f6_72 v0) else (own_f6_65 v0)
set_option maxRecDepth 65536 in
theorem own_b6_58 {l : Launch} {p : Program} {e : Env} {below : List Frame} {s : State} {m : MethodId} {meth : Method} {c : Code} {Z : State} {a0 args : Array Value} {T : State} {h0 : Heap} (X : Stand p l e ({ frames := 0, cells := 0, slots := 0, locals := 0 } : Room) s m args below meth c T [] 0 0) (C : own_Ctx p s m meth c Z a0 tables_1 (⟨"com/example/dovetail/dovetail/xml/XmlNames", "mayStart", "(I)Z"⟩ : MethodName) prog_121_method_5_code 1 (some .boolean)) (hh : T.heap = h0) (v0 : Int32) :
    own_Fin p e below s (own_QP (some (.int (own_f6_58 v0))) h0) 0 0 (T.setTop (mkF m 58 #[.val (.int v0)] [])) := by
  obtain ⟨hx, hby, hml, hZ, hown, hnm, hret, hlk, hw⟩ := id C
  refine own_go (fun t => XS.iloadN X.here hx rfl (hb hby own_d6_58) rfl) ?_
  show own_Fin p e below s (own_QP (some (.int (own_f6_58 v0))) h0) 0 0 (T.setTop (mkF m 59 #[.val (.int v0)] [(.int v0)]))
  refine own_go (fun t => XS.sipush X.here hx rfl (hb hby own_d6_59)) ?_
  show own_Fin p e below s (own_QP (some (.int (own_f6_58 v0))) h0) 0 0 (T.setTop (mkF m 62 #[.val (.int v0)] [(.int (248 : Int32)), (.int v0)]))
  by_cases hq : v0 < (248 : Int32)
  · show own_Fin p e below s (own_QP (some (.int (own_f6_58 v0))) h0) 0 0 _
    rw [show (own_f6_58 v0) = (own_f6_72 v0) from if_pos hq]
    refine own_go (fun t => XS.icmpYes X.here hx rfl (pc0 := 62) (pc' := 72) rfl (hb hby own_d6_62) rfl (tlt hq).1 (by decide) (by decide)) ?_
    show own_Fin p e below s (own_QP (some (.int (own_f6_72 v0))) h0) 0 0 (T.setTop (mkF m 72 #[.val (.int v0)] []))
    exact own_b6_72 X C hh v0
  · show own_Fin p e below s (own_QP (some (.int (own_f6_58 v0))) h0) 0 0 _
    rw [show (own_f6_58 v0) = (own_f6_65 v0) from if_neg hq]
    refine own_go (fun t => XS.icmpNo X.here hx rfl (hb hby own_d6_62) rfl (flt hq).1) ?_
    show own_Fin p e below s (own_QP (some (.int (own_f6_65 v0))) h0) 0 0 (T.setTop (mkF m 65 #[.val (.int v0)] []))
    exact own_b6_65 X C hh v0
def own_f6_51 (v0 : Int32) : Int32 := if (246 : Int32) < v0 then (own_f6_58 v0) else (own_f6_191 v0)
set_option maxRecDepth 65536 in
theorem own_b6_51 {l : Launch} {p : Program} {e : Env} {below : List Frame} {s : State} {m : MethodId} {meth : Method} {c : Code} {Z : State} {a0 args : Array Value} {T : State} {h0 : Heap} (X : Stand p l e ({ frames := 0, cells := 0, slots := 0, locals := 0 } : Room) s m args below meth c T [] 0 0) (C : own_Ctx p s m meth c Z a0 tables_1 (⟨"com/example/dovetail/dovetail/xml/XmlNames", "mayStart", "(I)Z"⟩ : MethodName) prog_121_method_5_code 1 (some .boolean)) (hh : T.heap = h0) (v0 : Int32) :
    own_Fin p e below s (own_QP (some (.int (own_f6_51 v0))) h0) 0 0 (T.setTop (mkF m 51 #[.val (.int v0)] [])) := by
  obtain ⟨hx, hby, hml, hZ, hown, hnm, hret, hlk, hw⟩ := id C
  refine own_go (fun t => XS.iloadN X.here hx rfl (hb hby own_d6_51) rfl) ?_
  show own_Fin p e below s (own_QP (some (.int (own_f6_51 v0))) h0) 0 0 (T.setTop (mkF m 52 #[.val (.int v0)] [(.int v0)]))
  refine own_go (fun t => XS.sipush X.here hx rfl (hb hby own_d6_52)) ?_
  show own_Fin p e below s (own_QP (some (.int (own_f6_51 v0))) h0) 0 0 (T.setTop (mkF m 55 #[.val (.int v0)] [(.int (246 : Int32)), (.int v0)]))
  by_cases hq : (246 : Int32) < v0
  · show own_Fin p e below s (own_QP (some (.int (own_f6_51 v0))) h0) 0 0 _
    rw [show (own_f6_51 v0) = (own_f6_58 v0) from if_pos hq]
    refine own_go (fun t => XS.icmpNo X.here hx rfl (hb hby own_d6_55) rfl (tlt hq).2.2.2) ?_
    show own_Fin p e below s (own_QP (some (.int (own_f6_58 v0))) h0) 0 0 (T.setTop (mkF m 58 #[.val (.int v0)] []))
    exact own_b6_58 X C hh v0
  · show own_Fin p e below s (own_QP (some (.int (own_f6_51 v0))) h0) 0 0 _
    rw [show (own_f6_51 v0) = (own_f6_191 v0) from if_neg hq]
    refine own_go (fun t => XS.icmpYes X.here hx rfl (pc0 := 55) (pc' := 191) rfl (hb hby own_d6_55) rfl (flt hq).2.2.2 (by decide) (by decide)) ?_
    show own_Fin p e below s (own_QP (some (.int (own_f6_191 v0))) h0) 0 0 (T.setTop (mkF m 191 #[.val (.int v0)] []))
    exact own_b6_191 X C hh v0
def own_f6_44 (v0 : Int32) : Int32 := if v0 < (216 : Int32) then (own_f6_58 v0) else (own_f6_51 v0)
set_option maxRecDepth 65536 in
theorem own_b6_44 {l : Launch} {p : Program} {e : Env} {below : List Frame} {s : State} {m : MethodId} {meth : Method} {c : Code} {Z : State} {a0 args : Array Value} {T : State} {h0 : Heap} (X : Stand p l e ({ frames := 0, cells := 0, slots := 0, locals := 0 } : Room) s m args below meth c T [] 0 0) (C : own_Ctx p s m meth c Z a0 tables_1 (⟨"com/example/dovetail/dovetail/xml/XmlNames", "mayStart", "(I)Z"⟩ : MethodName) prog_121_method_5_code 1 (some .boolean)) (hh : T.heap = h0) (v0 : Int32) :
    own_Fin p e below s (own_QP (some (.int (own_f6_44 v0))) h0) 0 0 (T.setTop (mkF m 44 #[.val (.int v0)] [])) := by
  obtain ⟨hx, hby, hml, hZ, hown, hnm, hret, hlk, hw⟩ := id C
  refine own_go (fun t => XS.iloadN X.here hx rfl (hb hby own_d6_44) rfl) ?_
  show own_Fin p e below s (own_QP (some (.int (own_f6_44 v0))) h0) 0 0 (T.setTop (mkF m 45 #[.val (.int v0)] [(.int v0)]))
  refine own_go (fun t => XS.sipush X.here hx rfl (hb hby own_d6_45)) ?_
  show own_Fin p e below s (own_QP (some (.int (own_f6_44 v0))) h0) 0 0 (T.setTop (mkF m 48 #[.val (.int v0)] [(.int (216 : Int32)), (.int v0)]))
  by_cases hq : v0 < (216 : Int32)
  · show own_Fin p e below s (own_QP (some (.int (own_f6_44 v0))) h0) 0 0 _
    rw [show (own_f6_44 v0) = (own_f6_58 v0) from if_pos hq]
    refine own_go (fun t => XS.icmpYes X.here hx rfl (pc0 := 48) (pc' := 58) rfl (hb hby own_d6_48) rfl (tlt hq).1 (by decide) (by decide)) ?_
    show own_Fin p e below s (own_QP (some (.int (own_f6_58 v0))) h0) 0 0 (T.setTop (mkF m 58 #[.val (.int v0)] []))
    exact own_b6_58 X C hh v0
  · show own_Fin p e below s (own_QP (some (.int (own_f6_44 v0))) h0) 0 0 _
    rw [show (own_f6_44 v0) = (own_f6_51 v0) from if_neg hq]
    refine own_go (fun t => XS.icmpNo X.here hx rfl (hb hby own_d6_48) rfl (flt hq).1) ?_
    show own_Fin p e below s (own_QP (some (.int (own_f6_51 v0))) h0) 0 0 (T.setTop (mkF m 51 #[.val (.int v0)] []))
    exact own_b6_51 X C hh v0
def own_f6_37 (v0 : Int32) : Int32 := if (214 : Int32) < v0 then (own_f6_44 v0) else (own_f6_191 v0)
set_option maxRecDepth 65536 in
theorem own_b6_37 {l : Launch} {p : Program} {e : Env} {below : List Frame} {s : State} {m : MethodId} {meth : Method} {c : Code} {Z : State} {a0 args : Array Value} {T : State} {h0 : Heap} (X : Stand p l e ({ frames := 0, cells := 0, slots := 0, locals := 0 } : Room) s m args below meth c T [] 0 0) (C : own_Ctx p s m meth c Z a0 tables_1 (⟨"com/example/dovetail/dovetail/xml/XmlNames", "mayStart", "(I)Z"⟩ : MethodName) prog_121_method_5_code 1 (some .boolean)) (hh : T.heap = h0) (v0 : Int32) :
    own_Fin p e below s (own_QP (some (.int (own_f6_37 v0))) h0) 0 0 (T.setTop (mkF m 37 #[.val (.int v0)] [])) := by
  obtain ⟨hx, hby, hml, hZ, hown, hnm, hret, hlk, hw⟩ := id C
  refine own_go (fun t => XS.iloadN X.here hx rfl (hb hby own_d6_37) rfl) ?_
  show own_Fin p e below s (own_QP (some (.int (own_f6_37 v0))) h0) 0 0 (T.setTop (mkF m 38 #[.val (.int v0)] [(.int v0)]))
  refine own_go (fun t => XS.sipush X.here hx rfl (hb hby own_d6_38)) ?_
  show own_Fin p e below s (own_QP (some (.int (own_f6_37 v0))) h0) 0 0 (T.setTop (mkF m 41 #[.val (.int v0)] [(.int (214 : Int32)), (.int v0)]))
  by_cases hq : (214 : Int32) < v0
  · show own_Fin p e below s (own_QP (some (.int (own_f6_37 v0))) h0) 0 0 _
    rw [show (own_f6_37 v0) = (own_f6_44 v0) from if_pos hq]
    refine own_go (fun t => XS.icmpNo X.here hx rfl (hb hby own_d6_41) rfl (tlt hq).2.2.2) ?_
    show own_Fin p e below s (own_QP (some (.int (own_f6_44 v0))) h0) 0 0 (T.setTop (mkF m 44 #[.val (.int v0)] []))
    exact own_b6_44 X C hh v0
  · show own_Fin p e below s (own_QP (some (.int (own_f6_37 v0))) h0) 0 0 _
    rw [show (own_f6_37 v0) = (own_f6_191 v0) from if_neg hq]
    refine own_go (fun t => XS.icmpYes X.here hx rfl (pc0 := 41) (pc' := 191) rfl (hb hby own_d6_41) rfl (flt hq).2.2.2 (by decide) (by decide)) ?_
    show own_Fin p e below s (own_QP (some (.int (own_f6_191 v0))) h0) 0 0 (T.setTop (mkF m 191 #[.val (.int v0)] []))
    exact own_b6_191 X C hh v0
def own_f6_30 (v0 : Int32) : Int32 := if v0 < (192 : Int32) then (own_f6_44 v0) else (own_f6_37 v0)
set_option maxRecDepth 65536 in
theorem own_b6_30 {l : Launch} {p : Program} {e : Env} {below : List Frame} {s : State} {m : MethodId} {meth : Method} {c : Code} {Z : State} {a0 args : Array Value} {T : State} {h0 : Heap} (X : Stand p l e ({ frames := 0, cells := 0, slots := 0, locals := 0 } : Room) s m args below meth c T [] 0 0) (C : own_Ctx p s m meth c Z a0 tables_1 (⟨"com/example/dovetail/dovetail/xml/XmlNames", "mayStart", "(I)Z"⟩ : MethodName) prog_121_method_5_code 1 (some .boolean)) (hh : T.heap = h0) (v0 : Int32) :
    own_Fin p e below s (own_QP (some (.int (own_f6_30 v0))) h0) 0 0 (T.setTop (mkF m 30 #[.val (.int v0)] [])) := by
  obtain ⟨hx, hby, hml, hZ, hown, hnm, hret, hlk, hw⟩ := id C
  refine own_go (fun t => XS.iloadN X.here hx rfl (hb hby own_d6_30) rfl) ?_
  show own_Fin p e below s (own_QP (some (.int (own_f6_30 v0))) h0) 0 0 (T.setTop (mkF m 31 #[.val (.int v0)] [(.int v0)]))
  refine own_go (fun t => XS.sipush X.here hx rfl (hb hby own_d6_31)) ?_
  show own_Fin p e below s (own_QP (some (.int (own_f6_30 v0))) h0) 0 0 (T.setTop (mkF m 34 #[.val (.int v0)] [(.int (192 : Int32)), (.int v0)]))
  by_cases hq : v0 < (192 : Int32)
  · show own_Fin p e below s (own_QP (some (.int (own_f6_30 v0))) h0) 0 0 _
    rw [show (own_f6_30 v0) = (own_f6_44 v0) from if_pos hq]
    refine own_go (fun t => XS.icmpYes X.here hx rfl (pc0 := 34) (pc' := 44) rfl (hb hby own_d6_34) rfl (tlt hq).1 (by decide) (by decide)) ?_
    show own_Fin p e below s (own_QP (some (.int (own_f6_44 v0))) h0) 0 0 (T.setTop (mkF m 44 #[.val (.int v0)] []))
    exact own_b6_44 X C hh v0
  · show own_Fin p e below s (own_QP (some (.int (own_f6_30 v0))) h0) 0 0 _
    rw [show (own_f6_30 v0) = (own_f6_37 v0) from if_neg hq]
    refine own_go (fun t => XS.icmpNo X.here hx rfl (hb hby own_d6_34) rfl (flt hq).1) ?_
    show own_Fin p e below s (own_QP (some (.int (own_f6_37 v0))) h0) 0 0 (T.setTop (mkF m 37 #[.val (.int v0)] []))
    exact own_b6_37 X C hh v0
def own_f6_24 (v0 : Int32) : Int32 := if (122 : Int32) < v0 then (own_f6_30 v0) else (own_f6_191 v0)
set_option maxRecDepth 65536 in
theorem own_b6_24 {l : Launch} {p : Program} {e : Env} {below : List Frame} {s : State} {m : MethodId} {meth : Method} {c : Code} {Z : State} {a0 args : Array Value} {T : State} {h0 : Heap} (X : Stand p l e ({ frames := 0, cells := 0, slots := 0, locals := 0 } : Room) s m args below meth c T [] 0 0) (C : own_Ctx p s m meth c Z a0 tables_1 (⟨"com/example/dovetail/dovetail/xml/XmlNames", "mayStart", "(I)Z"⟩ : MethodName) prog_121_method_5_code 1 (some .boolean)) (hh : T.heap = h0) (v0 : Int32) :
    own_Fin p e below s (own_QP (some (.int (own_f6_24 v0))) h0) 0 0 (T.setTop (mkF m 24 #[.val (.int v0)] [])) := by
  obtain ⟨hx, hby, hml, hZ, hown, hnm, hret, hlk, hw⟩ := id C
  refine own_go (fun t => XS.iloadN X.here hx rfl (hb hby own_d6_24) rfl) ?_
  show own_Fin p e below s (own_QP (some (.int (own_f6_24 v0))) h0) 0 0 (T.setTop (mkF m 25 #[.val (.int v0)] [(.int v0)]))
  refine own_go (fun t => XS.bipush X.here hx rfl (hb hby own_d6_25)) ?_
  show own_Fin p e below s (own_QP (some (.int (own_f6_24 v0))) h0) 0 0 (T.setTop (mkF m 27 #[.val (.int v0)] [(.int (122 : Int32)), (.int v0)]))
  by_cases hq : (122 : Int32) < v0
  · show own_Fin p e below s (own_QP (some (.int (own_f6_24 v0))) h0) 0 0 _
    rw [show (own_f6_24 v0) = (own_f6_30 v0) from if_pos hq]
    refine own_go (fun t => XS.icmpNo X.here hx rfl (hb hby own_d6_27) rfl (tlt hq).2.2.2) ?_
    show own_Fin p e below s (own_QP (some (.int (own_f6_30 v0))) h0) 0 0 (T.setTop (mkF m 30 #[.val (.int v0)] []))
    exact own_b6_30 X C hh v0
  · show own_Fin p e below s (own_QP (some (.int (own_f6_24 v0))) h0) 0 0 _
    rw [show (own_f6_24 v0) = (own_f6_191 v0) from if_neg hq]
    refine own_go (fun t => XS.icmpYes X.here hx rfl (pc0 := 27) (pc' := 191) rfl (hb hby own_d6_27) rfl (flt hq).2.2.2 (by decide) (by decide)) ?_
    show own_Fin p e below s (own_QP (some (.int (own_f6_191 v0))) h0) 0 0 (T.setTop (mkF m 191 #[.val (.int v0)] []))
    exact own_b6_191 X C hh v0
def own_f6_18 (v0 : Int32) : Int32 := if v0 < (97 : Int32) then (own_f6_30 v0) else (own_f6_24 v0)
set_option maxRecDepth 65536 in
theorem own_b6_18 {l : Launch} {p : Program} {e : Env} {below : List Frame} {s : State} {m : MethodId} {meth : Method} {c : Code} {Z : State} {a0 args : Array Value} {T : State} {h0 : Heap} (X : Stand p l e ({ frames := 0, cells := 0, slots := 0, locals := 0 } : Room) s m args below meth c T [] 0 0) (C : own_Ctx p s m meth c Z a0 tables_1 (⟨"com/example/dovetail/dovetail/xml/XmlNames", "mayStart", "(I)Z"⟩ : MethodName) prog_121_method_5_code 1 (some .boolean)) (hh : T.heap = h0) (v0 : Int32) :
    own_Fin p e below s (own_QP (some (.int (own_f6_18 v0))) h0) 0 0 (T.setTop (mkF m 18 #[.val (.int v0)] [])) := by
  obtain ⟨hx, hby, hml, hZ, hown, hnm, hret, hlk, hw⟩ := id C
  refine own_go (fun t => XS.iloadN X.here hx rfl (hb hby own_d6_18) rfl) ?_
  show own_Fin p e below s (own_QP (some (.int (own_f6_18 v0))) h0) 0 0 (T.setTop (mkF m 19 #[.val (.int v0)] [(.int v0)]))
  refine own_go (fun t => XS.bipush X.here hx rfl (hb hby own_d6_19)) ?_
  show own_Fin p e below s (own_QP (some (.int (own_f6_18 v0))) h0) 0 0 (T.setTop (mkF m 21 #[.val (.int v0)] [(.int (97 : Int32)), (.int v0)]))
  by_cases hq : v0 < (97 : Int32)
  · show own_Fin p e below s (own_QP (some (.int (own_f6_18 v0))) h0) 0 0 _
    rw [show (own_f6_18 v0) = (own_f6_30 v0) from if_pos hq]
    refine own_go (fun t => XS.icmpYes X.here hx rfl (pc0 := 21) (pc' := 30) rfl (hb hby own_d6_21) rfl (tlt hq).1 (by decide) (by decide)) ?_
    show own_Fin p e below s (own_QP (some (.int (own_f6_30 v0))) h0) 0 0 (T.setTop (mkF m 30 #[.val (.int v0)] []))
    exact own_b6_30 X C hh v0
  · show own_Fin p e below s (own_QP (some (.int (own_f6_18 v0))) h0) 0 0 _
    rw [show (own_f6_18 v0) = (own_f6_24 v0) from if_neg hq]
    refine own_go (fun t => XS.icmpNo X.here hx rfl (hb hby own_d6_21) rfl (flt hq).1) ?_
    show own_Fin p e below s (own_QP (some (.int (own_f6_24 v0))) h0) 0 0 (T.setTop (mkF m 24 #[.val (.int v0)] []))
    exact own_b6_24 X C hh v0
def own_f6_12 (v0 : Int32) : Int32 := if v0 = (95 : Int32) then (own_f6_191 v0) else (own_f6_18 v0)
set_option maxRecDepth 65536 in
theorem own_b6_12 {l : Launch} {p : Program} {e : Env} {below : List Frame} {s : State} {m : MethodId} {meth : Method} {c : Code} {Z : State} {a0 args : Array Value} {T : State} {h0 : Heap} (X : Stand p l e ({ frames := 0, cells := 0, slots := 0, locals := 0 } : Room) s m args below meth c T [] 0 0) (C : own_Ctx p s m meth c Z a0 tables_1 (⟨"com/example/dovetail/dovetail/xml/XmlNames", "mayStart", "(I)Z"⟩ : MethodName) prog_121_method_5_code 1 (some .boolean)) (hh : T.heap = h0) (v0 : Int32) :
    own_Fin p e below s (own_QP (some (.int (own_f6_12 v0))) h0) 0 0 (T.setTop (mkF m 12 #[.val (.int v0)] [])) := by
  obtain ⟨hx, hby, hml, hZ, hown, hnm, hret, hlk, hw⟩ := id C
  refine own_go (fun t => XS.iloadN X.here hx rfl (hb hby own_d6_12) rfl) ?_
  show own_Fin p e below s (own_QP (some (.int (own_f6_12 v0))) h0) 0 0 (T.setTop (mkF m 13 #[.val (.int v0)] [(.int v0)]))
  refine own_go (fun t => XS.bipush X.here hx rfl (hb hby own_d6_13)) ?_
  show own_Fin p e below s (own_QP (some (.int (own_f6_12 v0))) h0) 0 0 (T.setTop (mkF m 15 #[.val (.int v0)] [(.int (95 : Int32)), (.int v0)]))
  by_cases hq : v0 = (95 : Int32)
  · show own_Fin p e below s (own_QP (some (.int (own_f6_12 v0))) h0) 0 0 _
    rw [show (own_f6_12 v0) = (own_f6_191 v0) from if_pos hq]
    refine own_go (fun t => XS.icmpYes X.here hx rfl (pc0 := 15) (pc' := 191) rfl (hb hby own_d6_15) rfl (teq hq).1 (by decide) (by decide)) ?_
    show own_Fin p e below s (own_QP (some (.int (own_f6_191 v0))) h0) 0 0 (T.setTop (mkF m 191 #[.val (.int v0)] []))
    exact own_b6_191 X C hh v0
  · show own_Fin p e below s (own_QP (some (.int (own_f6_12 v0))) h0) 0 0 _
    rw [show (own_f6_12 v0) = (own_f6_18 v0) from if_neg hq]
    refine own_go (fun t => XS.icmpNo X.here hx rfl (hb hby own_d6_15) rfl (feq hq).1) ?_
    show own_Fin p e below s (own_QP (some (.int (own_f6_18 v0))) h0) 0 0 (T.setTop (mkF m 18 #[.val (.int v0)] []))
    exact own_b6_18 X C hh v0
def own_f6_6 (v0 : Int32) : Int32 := if (90 : Int32) < v0 then (own_f6_12 v0) else (own_f6_191 v0)
set_option maxRecDepth 65536 in
theorem own_b6_6 {l : Launch} {p : Program} {e : Env} {below : List Frame} {s : State} {m : MethodId} {meth : Method} {c : Code} {Z : State} {a0 args : Array Value} {T : State} {h0 : Heap} (X : Stand p l e ({ frames := 0, cells := 0, slots := 0, locals := 0 } : Room) s m args below meth c T [] 0 0) (C : own_Ctx p s m meth c Z a0 tables_1 (⟨"com/example/dovetail/dovetail/xml/XmlNames", "mayStart", "(I)Z"⟩ : MethodName) prog_121_method_5_code 1 (some .boolean)) (hh : T.heap = h0) (v0 : Int32) :
    own_Fin p e below s (own_QP (some (.int (own_f6_6 v0))) h0) 0 0 (T.setTop (mkF m 6 #[.val (.int v0)] [])) := by
  obtain ⟨hx, hby, hml, hZ, hown, hnm, hret, hlk, hw⟩ := id C
  refine own_go (fun t => XS.iloadN X.here hx rfl (hb hby own_d6_6) rfl) ?_
  show own_Fin p e below s (own_QP (some (.int (own_f6_6 v0))) h0) 0 0 (T.setTop (mkF m 7 #[.val (.int v0)] [(.int v0)]))
  refine own_go (fun t => XS.bipush X.here hx rfl (hb hby own_d6_7)) ?_
  show own_Fin p e below s (own_QP (some (.int (own_f6_6 v0))) h0) 0 0 (T.setTop (mkF m 9 #[.val (.int v0)] [(.int (90 : Int32)), (.int v0)]))
  by_cases hq : (90 : Int32) < v0
  · show own_Fin p e below s (own_QP (some (.int (own_f6_6 v0))) h0) 0 0 _
    rw [show (own_f6_6 v0) = (own_f6_12 v0) from if_pos hq]
    refine own_go (fun t => XS.icmpNo X.here hx rfl (hb hby own_d6_9) rfl (tlt hq).2.2.2) ?_
    show own_Fin p e below s (own_QP (some (.int (own_f6_12 v0))) h0) 0 0 (T.setTop (mkF m 12 #[.val (.int v0)] []))
    exact own_b6_12 X C hh v0
  · show own_Fin p e below s (own_QP (some (.int (own_f6_6 v0))) h0) 0 0 _
    rw [show (own_f6_6 v0) = (own_f6_191 v0) from if_neg hq]
    refine own_go (fun t => XS.icmpYes X.here hx rfl (pc0 := 9) (pc' := 191) rfl (hb hby own_d6_9) rfl (flt hq).2.2.2 (by decide) (by decide)) ?_
    show own_Fin p e below s (own_QP (some (.int (own_f6_191 v0))) h0) 0 0 (T.setTop (mkF m 191 #[.val (.int v0)] []))
    exact own_b6_191 X C hh v0
def own_f6_0 (v0 : Int32) : Int32 := if v0 < (65 : Int32) then (own_f6_12 v0) else (own_f6_6 v0)
set_option maxRecDepth 65536 in
theorem own_b6_0 {l : Launch} {p : Program} {e : Env} {below : List Frame} {s : State} {m : MethodId} {meth : Method} {c : Code} {Z : State} {a0 args : Array Value} {T : State} {h0 : Heap} (X : Stand p l e ({ frames := 0, cells := 0, slots := 0, locals := 0 } : Room) s m args below meth c T [] 0 0) (C : own_Ctx p s m meth c Z a0 tables_1 (⟨"com/example/dovetail/dovetail/xml/XmlNames", "mayStart", "(I)Z"⟩ : MethodName) prog_121_method_5_code 1 (some .boolean)) (hh : T.heap = h0) (v0 : Int32) :
    own_Fin p e below s (own_QP (some (.int (own_f6_0 v0))) h0) 0 0 (T.setTop (mkF m 0 #[.val (.int v0)] [])) := by
  obtain ⟨hx, hby, hml, hZ, hown, hnm, hret, hlk, hw⟩ := id C
  refine own_go (fun t => XS.iloadN X.here hx rfl (hb hby own_d6_0) rfl) ?_
  show own_Fin p e below s (own_QP (some (.int (own_f6_0 v0))) h0) 0 0 (T.setTop (mkF m 1 #[.val (.int v0)] [(.int v0)]))
  refine own_go (fun t => XS.bipush X.here hx rfl (hb hby own_d6_1)) ?_
  show own_Fin p e below s (own_QP (some (.int (own_f6_0 v0))) h0) 0 0 (T.setTop (mkF m 3 #[.val (.int v0)] [(.int (65 : Int32)), (.int v0)]))
  by_cases hq : v0 < (65 : Int32)
  · show own_Fin p e below s (own_QP (some (.int (own_f6_0 v0))) h0) 0 0 _
    rw [show (own_f6_0 v0) = (own_f6_12 v0) from if_pos hq]
    refine own_go (fun t => XS.icmpYes X.here hx rfl (pc0 := 3) (pc' := 12) rfl (hb hby own_d6_3) rfl (tlt hq).1 (by decide) (by decide)) ?_
    show own_Fin p e below s (own_QP (some (.int (own_f6_12 v0))) h0) 0 0 (T.setTop (mkF m 12 #[.val (.int v0)] []))
    exact own_b6_12 X C hh v0
  · show own_Fin p e below s (own_QP (some (.int (own_f6_0 v0))) h0) 0 0 _
    rw [show (own_f6_0 v0) = (own_f6_6 v0) from if_neg hq]
    refine own_go (fun t => XS.icmpNo X.here hx rfl (hb hby own_d6_3) rfl (flt hq).1) ?_
    show own_Fin p e below s (own_QP (some (.int (own_f6_6 v0))) h0) 0 0 (T.setTop (mkF m 6 #[.val (.int v0)] []))
    exact own_b6_6 X C hh v0
theorem own_c6 (l : Launch) (Z : State) (a0 : Array Value) (hw : ∀ d ∈ tables_1, d.before a0 Z = true) (x0 : Int32) (h0 : Heap) : own_Met l Z (⟨"com/example/dovetail/dovetail/xml/XmlNames", "mayStart", "(I)Z"⟩ : MethodName) prog_121_method_5_code 1 (some .boolean) [] ({ frames := 0, cells := 0, slots := 0, locals := 0 } : Room) #[(.int x0)] h0 (own_QP (some (.int (own_f6_0 x0))) h0) :=
  own_enter (plainFor_of_name own_pn1) (own_ef6 x0) hw (fun p e s m below meth c T X C hh => own_b6_0 X C hh x0)
theorem own_d5_0 : decode method_4_code 0 = .ok (.iload_n 0, 1) := by decide +kernel
theorem own_d5_1 : decode method_4_code 1 = .ok (.iload_n 1, 1) := by decide +kernel
theorem own_d5_2 : decode method_4_code 2 = .ok (.invokestatic 7, 3) := by decide +kernel
theorem own_d5_5 : decode method_4_code 5 = .ok (.if_icmp .lt 15, 3) := by decide +kernel
theorem own_d5_8 : decode method_4_code 8 = .ok (.iload_n 0, 1) := by decide +kernel
theorem own_d5_9 : decode method_4_code 9 = .ok (.iload_n 1, 1) := by decide +kernel
theorem own_d5_10 : decode method_4_code 10 = .ok (.invokestatic 13, 3) := by decide +kernel
theorem own_d5_13 : decode method_4_code 13 = .ok (.if_icmp .gt 7, 3) := by decide +kernel
theorem own_d5_16 : decode method_4_code 16 = .ok (.iconst 1, 1) := by decide +kernel
theorem own_d5_17 : decode method_4_code 17 = .ok (.goto 4, 3) := by decide +kernel
theorem own_d5_20 : decode method_4_code 20 = .ok (.iconst 0, 1) := by decide +kernel
theorem own_d5_21 : decode method_4_code 21 = .ok (.ireturn, 1) := by decide +kernel
theorem own_pd0 : parseMethodDescriptor "(I)I" = some ⟨[.int], some .int⟩ := by decide +kernel
theorem own_ef5 (x0 : Int32) (x1 : Int32) : ∀ m, entryFrame m #[(.int x0), (.int x1)] 2 = mkF m 0 #[.val (.int x0), .val (.int x1)] [] := fun m => by first | (simp [entryFrame, mkF, argsToLocals, Value.category]; done) | rfl
def own_f5_20 (v0 : Int32) (v1 : Int32) : Int32 := (0 : Int32)
set_option maxRecDepth 65536 in
theorem own_b5_20 {l : Launch} {p : Program} {e : Env} {below : List Frame} {s : State} {m : MethodId} {meth : Method} {c : Code} {Z : State} {a0 args : Array Value} {T : State} {h0 : Heap} (X : Stand p l e ({ frames := 1, cells := 0, slots := 0, locals := 14 } : Room) s m args below meth c T [] 0 0) (C : own_Ctx p s m meth c Z a0 tables_1 (⟨"com/example/dovetail/dovetail/xml/XmlNamesMayGoOnPinLaw", "within", "(II)Z"⟩ : MethodName) method_4_code 2 (some .boolean)) (hh : T.heap = h0) (v0 : Int32) (v1 : Int32) :
    own_Fin p e below s (own_QP (some (.int (own_f5_20 v0 v1))) h0) 0 0 (T.setTop (mkF m 20 #[.val (.int v0), .val (.int v1)] [])) := by
  obtain ⟨hx, hby, hml, hZ, hown, hnm, hret, hlk, hw⟩ := id C
  refine own_go (fun t => XS.iconst X.here hx rfl (hb hby own_d5_20)) ?_
  show own_Fin p e below s (own_QP (some (.int (own_f5_20 v0 v1))) h0) 0 0 (T.setTop (mkF m 21 #[.val (.int v0), .val (.int v1)] [(.int (0 : Int32))]))
  exact own_ret X hlk hx (t := .boolean) hret rfl (Or.inl ⟨rfl, by simp, _, rfl⟩) (hb hby own_d5_21) ⟨rfl, rfl, hh⟩ (by decide) (by decide)
def own_f5_16 (v0 : Int32) (v1 : Int32) : Int32 := (1 : Int32)
set_option maxRecDepth 65536 in
theorem own_b5_16 {l : Launch} {p : Program} {e : Env} {below : List Frame} {s : State} {m : MethodId} {meth : Method} {c : Code} {Z : State} {a0 args : Array Value} {T : State} {h0 : Heap} (X : Stand p l e ({ frames := 1, cells := 0, slots := 0, locals := 14 } : Room) s m args below meth c T [] 0 0) (C : own_Ctx p s m meth c Z a0 tables_1 (⟨"com/example/dovetail/dovetail/xml/XmlNamesMayGoOnPinLaw", "within", "(II)Z"⟩ : MethodName) method_4_code 2 (some .boolean)) (hh : T.heap = h0) (v0 : Int32) (v1 : Int32) :
    own_Fin p e below s (own_QP (some (.int (own_f5_16 v0 v1))) h0) 0 0 (T.setTop (mkF m 16 #[.val (.int v0), .val (.int v1)] [])) := by
  obtain ⟨hx, hby, hml, hZ, hown, hnm, hret, hlk, hw⟩ := id C
  refine own_go (fun t => XS.iconst X.here hx rfl (hb hby own_d5_16)) ?_
  show own_Fin p e below s (own_QP (some (.int (own_f5_16 v0 v1))) h0) 0 0 (T.setTop (mkF m 17 #[.val (.int v0), .val (.int v1)] [(.int (1 : Int32))]))
  refine own_go (fun t => XS.goto X.here hx rfl (pc0 := 17) (pc' := 21) rfl (hb hby own_d5_17) (by decide) (by decide)) ?_
  show own_Fin p e below s (own_QP (some (.int (own_f5_16 v0 v1))) h0) 0 0 (T.setTop (mkF m 21 #[.val (.int v0), .val (.int v1)] [(.int (1 : Int32))]))
  exact own_ret X hlk hx (t := .boolean) hret rfl (Or.inl ⟨rfl, by simp, _, rfl⟩) (hb hby own_d5_21) ⟨rfl, rfl, hh⟩ (by decide) (by decide)
def own_f5_8 (v0 : Int32) (v1 : Int32) : Int32 := if (own_f2_0 v1) < v0 then (own_f5_20 v0 v1) else (own_f5_16 v0 v1)
set_option maxRecDepth 65536 in
theorem own_b5_8 {l : Launch} {p : Program} {e : Env} {below : List Frame} {s : State} {m : MethodId} {meth : Method} {c : Code} {Z : State} {a0 args : Array Value} {T : State} {h0 : Heap} (X : Stand p l e ({ frames := 1, cells := 0, slots := 0, locals := 14 } : Room) s m args below meth c T [] 0 0) (C : own_Ctx p s m meth c Z a0 tables_1 (⟨"com/example/dovetail/dovetail/xml/XmlNamesMayGoOnPinLaw", "within", "(II)Z"⟩ : MethodName) method_4_code 2 (some .boolean)) (hh : T.heap = h0) (v0 : Int32) (v1 : Int32) :
    own_Fin p e below s (own_QP (some (.int (own_f5_8 v0 v1))) h0) 0 0 (T.setTop (mkF m 8 #[.val (.int v0), .val (.int v1)] [])) := by
  obtain ⟨hx, hby, hml, hZ, hown, hnm, hret, hlk, hw⟩ := id C
  refine own_go (fun t => XS.iloadN X.here hx rfl (hb hby own_d5_8) rfl) ?_
  show own_Fin p e below s (own_QP (some (.int (own_f5_8 v0 v1))) h0) 0 0 (T.setTop (mkF m 9 #[.val (.int v0), .val (.int v1)] [(.int v0)]))
  refine own_go (fun t => XS.iloadN X.here hx rfl (hb hby own_d5_9) rfl) ?_
  show own_Fin p e below s (own_QP (some (.int (own_f5_8 v0 v1))) h0) 0 0 (T.setTop (mkF m 10 #[.val (.int v0), .val (.int v1)] [(.int v1), (.int v0)]))
  obtain ⟨T1, X1, e1, st1⟩ := own_callP X hx hZ hh (y := (⟨"com/example/dovetail/dovetail/xml/XmlNamesMayGoOnPinLaw", "highOf", "(I)I"⟩ : MethodName)) hown (hw _ (List.mem_of_getElem? (i := 5) rfl)) (hw _ (List.mem_of_getElem? (i := 6) rfl)) (hw _ (List.mem_of_getElem? (i := 3) rfl)) (hw _ (List.mem_of_getElem? (i := 7) rfl)) (by decide) (argsL := [(.int v1)]) (rest := [(.int v0)]) (own_c2 l Z a0 hw v1 _) (by decide) 1 (by decide) (by decide) (by decide) (g := (mkF m 10 #[.val (.int v0), .val (.int v1)] [(.int v1), (.int v0)])) rfl (by rw [hml]; rfl) (lenOf own_pd0 rfl) rfl (by show 2 * 0 + _ ≤ _; exact Nat.le_of_eq rfl) (hb hby own_d5_10)
  refine own_go st1 ?_
  show own_Fin p e below s (own_QP (some (.int (own_f5_8 v0 v1))) h0) 0 0 (T1.setTop (mkF m 13 #[.val (.int v0), .val (.int v1)] [(.int (own_f2_0 v1)), (.int v0)]))
  by_cases hq : (own_f2_0 v1) < v0
  · show own_Fin p e below s (own_QP (some (.int (own_f5_8 v0 v1))) h0) 0 0 _
    rw [show (own_f5_8 v0 v1) = (own_f5_20 v0 v1) from if_pos hq]
    refine own_go (fun t => XS.icmpYes X1.here hx rfl (pc0 := 13) (pc' := 20) rfl (hb hby own_d5_13) rfl (tlt hq).2.2.1 (by decide) (by decide)) ?_
    show own_Fin p e below s (own_QP (some (.int (own_f5_20 v0 v1))) h0) 0 0 (T1.setTop (mkF m 20 #[.val (.int v0), .val (.int v1)] []))
    exact own_b5_20 X1 C e1 v0 v1
  · show own_Fin p e below s (own_QP (some (.int (own_f5_8 v0 v1))) h0) 0 0 _
    rw [show (own_f5_8 v0 v1) = (own_f5_16 v0 v1) from if_neg hq]
    refine own_go (fun t => XS.icmpNo X1.here hx rfl (hb hby own_d5_13) rfl (flt hq).2.2.1) ?_
    show own_Fin p e below s (own_QP (some (.int (own_f5_16 v0 v1))) h0) 0 0 (T1.setTop (mkF m 16 #[.val (.int v0), .val (.int v1)] []))
    exact own_b5_16 X1 C e1 v0 v1
def own_f5_0 (v0 : Int32) (v1 : Int32) : Int32 := if v0 < (own_f1_0 v1) then (own_f5_20 v0 v1) else (own_f5_8 v0 v1)
set_option maxRecDepth 65536 in
theorem own_b5_0 {l : Launch} {p : Program} {e : Env} {below : List Frame} {s : State} {m : MethodId} {meth : Method} {c : Code} {Z : State} {a0 args : Array Value} {T : State} {h0 : Heap} (X : Stand p l e ({ frames := 1, cells := 0, slots := 0, locals := 14 } : Room) s m args below meth c T [] 0 0) (C : own_Ctx p s m meth c Z a0 tables_1 (⟨"com/example/dovetail/dovetail/xml/XmlNamesMayGoOnPinLaw", "within", "(II)Z"⟩ : MethodName) method_4_code 2 (some .boolean)) (hh : T.heap = h0) (v0 : Int32) (v1 : Int32) :
    own_Fin p e below s (own_QP (some (.int (own_f5_0 v0 v1))) h0) 0 0 (T.setTop (mkF m 0 #[.val (.int v0), .val (.int v1)] [])) := by
  obtain ⟨hx, hby, hml, hZ, hown, hnm, hret, hlk, hw⟩ := id C
  refine own_go (fun t => XS.iloadN X.here hx rfl (hb hby own_d5_0) rfl) ?_
  show own_Fin p e below s (own_QP (some (.int (own_f5_0 v0 v1))) h0) 0 0 (T.setTop (mkF m 1 #[.val (.int v0), .val (.int v1)] [(.int v0)]))
  refine own_go (fun t => XS.iloadN X.here hx rfl (hb hby own_d5_1) rfl) ?_
  show own_Fin p e below s (own_QP (some (.int (own_f5_0 v0 v1))) h0) 0 0 (T.setTop (mkF m 2 #[.val (.int v0), .val (.int v1)] [(.int v1), (.int v0)]))
  obtain ⟨T1, X1, e1, st1⟩ := own_callP X hx hZ hh (y := (⟨"com/example/dovetail/dovetail/xml/XmlNamesMayGoOnPinLaw", "lowOf", "(I)I"⟩ : MethodName)) hown (hw _ (List.mem_of_getElem? (i := 1) rfl)) (hw _ (List.mem_of_getElem? (i := 2) rfl)) (hw _ (List.mem_of_getElem? (i := 3) rfl)) (hw _ (List.mem_of_getElem? (i := 4) rfl)) (by decide) (argsL := [(.int v1)]) (rest := [(.int v0)]) (own_c1 l Z a0 hw v1 _) (by decide) 1 (by decide) (by decide) (by decide) (g := (mkF m 2 #[.val (.int v0), .val (.int v1)] [(.int v1), (.int v0)])) rfl (by rw [hml]; rfl) (lenOf own_pd0 rfl) rfl (by show 2 * 0 + _ ≤ _; exact Nat.le_of_eq rfl) (hb hby own_d5_2)
  refine own_go st1 ?_
  show own_Fin p e below s (own_QP (some (.int (own_f5_0 v0 v1))) h0) 0 0 (T1.setTop (mkF m 5 #[.val (.int v0), .val (.int v1)] [(.int (own_f1_0 v1)), (.int v0)]))
  by_cases hq : v0 < (own_f1_0 v1)
  · show own_Fin p e below s (own_QP (some (.int (own_f5_0 v0 v1))) h0) 0 0 _
    rw [show (own_f5_0 v0 v1) = (own_f5_20 v0 v1) from if_pos hq]
    refine own_go (fun t => XS.icmpYes X1.here hx rfl (pc0 := 5) (pc' := 20) rfl (hb hby own_d5_5) rfl (tlt hq).1 (by decide) (by decide)) ?_
    show own_Fin p e below s (own_QP (some (.int (own_f5_20 v0 v1))) h0) 0 0 (T1.setTop (mkF m 20 #[.val (.int v0), .val (.int v1)] []))
    exact own_b5_20 X1 C e1 v0 v1
  · show own_Fin p e below s (own_QP (some (.int (own_f5_0 v0 v1))) h0) 0 0 _
    rw [show (own_f5_0 v0 v1) = (own_f5_8 v0 v1) from if_neg hq]
    refine own_go (fun t => XS.icmpNo X1.here hx rfl (hb hby own_d5_5) rfl (flt hq).1) ?_
    show own_Fin p e below s (own_QP (some (.int (own_f5_8 v0 v1))) h0) 0 0 (T1.setTop (mkF m 8 #[.val (.int v0), .val (.int v1)] []))
    exact own_b5_8 X1 C e1 v0 v1
theorem own_c5 (l : Launch) (Z : State) (a0 : Array Value) (hw : ∀ d ∈ tables_1, d.before a0 Z = true) (x0 : Int32) (x1 : Int32) (h0 : Heap) : own_Met l Z (⟨"com/example/dovetail/dovetail/xml/XmlNamesMayGoOnPinLaw", "within", "(II)Z"⟩ : MethodName) method_4_code 2 (some .boolean) [] ({ frames := 1, cells := 0, slots := 0, locals := 14 } : Room) #[(.int x0), (.int x1)] h0 (own_QP (some (.int (own_f5_0 x0 x1))) h0) :=
  own_enter (plainFor_of_name own_pn0) (own_ef5 x0 x1) hw (fun p e s m below meth c T X C hh => own_b5_0 X C hh x0 x1)
theorem own_d4_0 : decode method_5_code 0 = .ok (.iload_n 0, 1) := by decide +kernel
theorem own_d4_1 : decode method_5_code 1 = .ok (.iconst 0, 1) := by decide +kernel
theorem own_d4_2 : decode method_5_code 2 = .ok (.invokestatic 16, 3) := by decide +kernel
theorem own_d4_5 : decode method_5_code 5 = .ok (.ifCond .ne 35, 3) := by decide +kernel
theorem own_d4_8 : decode method_5_code 8 = .ok (.iload_n 0, 1) := by decide +kernel
theorem own_d4_9 : decode method_5_code 9 = .ok (.iconst 1, 1) := by decide +kernel
theorem own_d4_10 : decode method_5_code 10 = .ok (.invokestatic 16, 3) := by decide +kernel
theorem own_d4_13 : decode method_5_code 13 = .ok (.ifCond .ne 27, 3) := by decide +kernel
theorem own_d4_16 : decode method_5_code 16 = .ok (.iload_n 0, 1) := by decide +kernel
theorem own_d4_17 : decode method_5_code 17 = .ok (.iconst 2, 1) := by decide +kernel
theorem own_d4_18 : decode method_5_code 18 = .ok (.invokestatic 16, 3) := by decide +kernel
theorem own_d4_21 : decode method_5_code 21 = .ok (.ifCond .ne 19, 3) := by decide +kernel
theorem own_d4_24 : decode method_5_code 24 = .ok (.iload_n 0, 1) := by decide +kernel
theorem own_d4_25 : decode method_5_code 25 = .ok (.iconst 3, 1) := by decide +kernel
theorem own_d4_26 : decode method_5_code 26 = .ok (.invokestatic 16, 3) := by decide +kernel
theorem own_d4_29 : decode method_5_code 29 = .ok (.ifCond .ne 11, 3) := by decide +kernel
theorem own_d4_32 : decode method_5_code 32 = .ok (.iload_n 0, 1) := by decide +kernel
theorem own_d4_33 : decode method_5_code 33 = .ok (.iconst 4, 1) := by decide +kernel
theorem own_d4_34 : decode method_5_code 34 = .ok (.invokestatic 16, 3) := by decide +kernel
theorem own_d4_37 : decode method_5_code 37 = .ok (.ifCond .eq 7, 3) := by decide +kernel
theorem own_d4_40 : decode method_5_code 40 = .ok (.iconst 1, 1) := by decide +kernel
theorem own_d4_41 : decode method_5_code 41 = .ok (.goto 4, 3) := by decide +kernel
theorem own_d4_44 : decode method_5_code 44 = .ok (.iconst 0, 1) := by decide +kernel
theorem own_d4_45 : decode method_5_code 45 = .ok (.ireturn, 1) := by decide +kernel
theorem own_pd1 : parseMethodDescriptor "(II)Z" = some ⟨[.int, .int], some .boolean⟩ := by decide +kernel
theorem own_ef4 (x0 : Int32) : ∀ m, entryFrame m #[(.int x0)] 1 = mkF m 0 #[.val (.int x0)] [] := fun m => by first | (simp [entryFrame, mkF, argsToLocals, Value.category]; done) | rfl
def own_f4_40 (v0 : Int32) : Int32 := (1 : Int32)
set_option maxRecDepth 65536 in
theorem own_b4_40 {l : Launch} {p : Program} {e : Env} {below : List Frame} {s : State} {m : MethodId} {meth : Method} {c : Code} {Z : State} {a0 args : Array Value} {T : State} {h0 : Heap} (X : Stand p l e ({ frames := 2, cells := 0, slots := 0, locals := 28 } : Room) s m args below meth c T [] 0 0) (C : own_Ctx p s m meth c Z a0 tables_1 (⟨"com/example/dovetail/dovetail/xml/XmlNamesMayGoOnPinLaw", "inSet", "(I)Z"⟩ : MethodName) method_5_code 1 (some .boolean)) (hh : T.heap = h0) (v0 : Int32) :
    own_Fin p e below s (own_QP (some (.int (own_f4_40 v0))) h0) 0 0 (T.setTop (mkF m 40 #[.val (.int v0)] [])) := by
  obtain ⟨hx, hby, hml, hZ, hown, hnm, hret, hlk, hw⟩ := id C
  refine own_go (fun t => XS.iconst X.here hx rfl (hb hby own_d4_40)) ?_
  show own_Fin p e below s (own_QP (some (.int (own_f4_40 v0))) h0) 0 0 (T.setTop (mkF m 41 #[.val (.int v0)] [(.int (1 : Int32))]))
  refine own_go (fun t => XS.goto X.here hx rfl (pc0 := 41) (pc' := 45) rfl (hb hby own_d4_41) (by decide) (by decide)) ?_
  show own_Fin p e below s (own_QP (some (.int (own_f4_40 v0))) h0) 0 0 (T.setTop (mkF m 45 #[.val (.int v0)] [(.int (1 : Int32))]))
  exact own_ret X hlk hx (t := .boolean) hret rfl (Or.inl ⟨rfl, by simp, _, rfl⟩) (hb hby own_d4_45) ⟨rfl, rfl, hh⟩ (by decide) (by decide)
def own_f4_44 (v0 : Int32) : Int32 := (0 : Int32)
set_option maxRecDepth 65536 in
theorem own_b4_44 {l : Launch} {p : Program} {e : Env} {below : List Frame} {s : State} {m : MethodId} {meth : Method} {c : Code} {Z : State} {a0 args : Array Value} {T : State} {h0 : Heap} (X : Stand p l e ({ frames := 2, cells := 0, slots := 0, locals := 28 } : Room) s m args below meth c T [] 0 0) (C : own_Ctx p s m meth c Z a0 tables_1 (⟨"com/example/dovetail/dovetail/xml/XmlNamesMayGoOnPinLaw", "inSet", "(I)Z"⟩ : MethodName) method_5_code 1 (some .boolean)) (hh : T.heap = h0) (v0 : Int32) :
    own_Fin p e below s (own_QP (some (.int (own_f4_44 v0))) h0) 0 0 (T.setTop (mkF m 44 #[.val (.int v0)] [])) := by
  obtain ⟨hx, hby, hml, hZ, hown, hnm, hret, hlk, hw⟩ := id C
  refine own_go (fun t => XS.iconst X.here hx rfl (hb hby own_d4_44)) ?_
  show own_Fin p e below s (own_QP (some (.int (own_f4_44 v0))) h0) 0 0 (T.setTop (mkF m 45 #[.val (.int v0)] [(.int (0 : Int32))]))
  exact own_ret X hlk hx (t := .boolean) hret rfl (Or.inl ⟨rfl, by simp, _, rfl⟩) (hb hby own_d4_45) ⟨rfl, rfl, hh⟩ (by decide) (by decide)
def own_f4_32 (v0 : Int32) : Int32 := if (own_f5_0 v0 (4 : Int32)) = (0 : Int32) then (own_f4_44 v0) else (own_f4_40 v0)
set_option maxRecDepth 65536 in
theorem own_b4_32 {l : Launch} {p : Program} {e : Env} {below : List Frame} {s : State} {m : MethodId} {meth : Method} {c : Code} {Z : State} {a0 args : Array Value} {T : State} {h0 : Heap} (X : Stand p l e ({ frames := 2, cells := 0, slots := 0, locals := 28 } : Room) s m args below meth c T [] 0 0) (C : own_Ctx p s m meth c Z a0 tables_1 (⟨"com/example/dovetail/dovetail/xml/XmlNamesMayGoOnPinLaw", "inSet", "(I)Z"⟩ : MethodName) method_5_code 1 (some .boolean)) (hh : T.heap = h0) (v0 : Int32) :
    own_Fin p e below s (own_QP (some (.int (own_f4_32 v0))) h0) 0 0 (T.setTop (mkF m 32 #[.val (.int v0)] [])) := by
  obtain ⟨hx, hby, hml, hZ, hown, hnm, hret, hlk, hw⟩ := id C
  refine own_go (fun t => XS.iloadN X.here hx rfl (hb hby own_d4_32) rfl) ?_
  show own_Fin p e below s (own_QP (some (.int (own_f4_32 v0))) h0) 0 0 (T.setTop (mkF m 33 #[.val (.int v0)] [(.int v0)]))
  refine own_go (fun t => XS.iconst X.here hx rfl (hb hby own_d4_33)) ?_
  show own_Fin p e below s (own_QP (some (.int (own_f4_32 v0))) h0) 0 0 (T.setTop (mkF m 34 #[.val (.int v0)] [(.int (4 : Int32)), (.int v0)]))
  obtain ⟨T1, X1, e1, st1⟩ := own_callP X hx hZ hh (y := (⟨"com/example/dovetail/dovetail/xml/XmlNamesMayGoOnPinLaw", "within", "(II)Z"⟩ : MethodName)) hown (hw _ (List.mem_of_getElem? (i := 15) rfl)) (hw _ (List.mem_of_getElem? (i := 16) rfl)) (hw _ (List.mem_of_getElem? (i := 3) rfl)) (hw _ (List.mem_of_getElem? (i := 17) rfl)) (by decide) (argsL := [(.int v0), (.int (4 : Int32))]) (rest := []) (own_c5 l Z a0 hw v0 (4 : Int32) _) (by decide) 0 (by decide) (by decide) (by decide) (g := (mkF m 34 #[.val (.int v0)] [(.int (4 : Int32)), (.int v0)])) rfl (by rw [hml]; rfl) (lenOf own_pd1 rfl) rfl (by show 2 * 0 + _ ≤ _; exact Nat.le_of_eq rfl) (hb hby own_d4_34)
  refine own_go st1 ?_
  show own_Fin p e below s (own_QP (some (.int (own_f4_32 v0))) h0) 0 0 (T1.setTop (mkF m 37 #[.val (.int v0)] [(.int (own_f5_0 v0 (4 : Int32)))]))
  by_cases hq : (own_f5_0 v0 (4 : Int32)) = (0 : Int32)
  · show own_Fin p e below s (own_QP (some (.int (own_f4_32 v0))) h0) 0 0 _
    rw [show (own_f4_32 v0) = (own_f4_44 v0) from if_pos hq]
    refine own_go (fun t => XS.ifYes X1.here hx rfl (pc0 := 37) (pc' := 44) rfl (hb hby own_d4_37) rfl ((if0 _ _).trans (teq hq).1) (by decide) (by decide)) ?_
    show own_Fin p e below s (own_QP (some (.int (own_f4_44 v0))) h0) 0 0 (T1.setTop (mkF m 44 #[.val (.int v0)] []))
    exact own_b4_44 X1 C e1 v0
  · show own_Fin p e below s (own_QP (some (.int (own_f4_32 v0))) h0) 0 0 _
    rw [show (own_f4_32 v0) = (own_f4_40 v0) from if_neg hq]
    refine own_go (fun t => XS.ifNo X1.here hx rfl (hb hby own_d4_37) rfl ((if0 _ _).trans (feq hq).1)) ?_
    show own_Fin p e below s (own_QP (some (.int (own_f4_40 v0))) h0) 0 0 (T1.setTop (mkF m 40 #[.val (.int v0)] []))
    exact own_b4_40 X1 C e1 v0
def own_f4_24 (v0 : Int32) : Int32 := if (own_f5_0 v0 (3 : Int32)) = (0 : Int32) then (own_f4_32 v0) else (own_f4_40 v0)
set_option maxRecDepth 65536 in
theorem own_b4_24 {l : Launch} {p : Program} {e : Env} {below : List Frame} {s : State} {m : MethodId} {meth : Method} {c : Code} {Z : State} {a0 args : Array Value} {T : State} {h0 : Heap} (X : Stand p l e ({ frames := 2, cells := 0, slots := 0, locals := 28 } : Room) s m args below meth c T [] 0 0) (C : own_Ctx p s m meth c Z a0 tables_1 (⟨"com/example/dovetail/dovetail/xml/XmlNamesMayGoOnPinLaw", "inSet", "(I)Z"⟩ : MethodName) method_5_code 1 (some .boolean)) (hh : T.heap = h0) (v0 : Int32) :
    own_Fin p e below s (own_QP (some (.int (own_f4_24 v0))) h0) 0 0 (T.setTop (mkF m 24 #[.val (.int v0)] [])) := by
  obtain ⟨hx, hby, hml, hZ, hown, hnm, hret, hlk, hw⟩ := id C
  refine own_go (fun t => XS.iloadN X.here hx rfl (hb hby own_d4_24) rfl) ?_
  show own_Fin p e below s (own_QP (some (.int (own_f4_24 v0))) h0) 0 0 (T.setTop (mkF m 25 #[.val (.int v0)] [(.int v0)]))
  refine own_go (fun t => XS.iconst X.here hx rfl (hb hby own_d4_25)) ?_
  show own_Fin p e below s (own_QP (some (.int (own_f4_24 v0))) h0) 0 0 (T.setTop (mkF m 26 #[.val (.int v0)] [(.int (3 : Int32)), (.int v0)]))
  obtain ⟨T1, X1, e1, st1⟩ := own_callP X hx hZ hh (y := (⟨"com/example/dovetail/dovetail/xml/XmlNamesMayGoOnPinLaw", "within", "(II)Z"⟩ : MethodName)) hown (hw _ (List.mem_of_getElem? (i := 15) rfl)) (hw _ (List.mem_of_getElem? (i := 16) rfl)) (hw _ (List.mem_of_getElem? (i := 3) rfl)) (hw _ (List.mem_of_getElem? (i := 17) rfl)) (by decide) (argsL := [(.int v0), (.int (3 : Int32))]) (rest := []) (own_c5 l Z a0 hw v0 (3 : Int32) _) (by decide) 0 (by decide) (by decide) (by decide) (g := (mkF m 26 #[.val (.int v0)] [(.int (3 : Int32)), (.int v0)])) rfl (by rw [hml]; rfl) (lenOf own_pd1 rfl) rfl (by show 2 * 0 + _ ≤ _; exact Nat.le_of_eq rfl) (hb hby own_d4_26)
  refine own_go st1 ?_
  show own_Fin p e below s (own_QP (some (.int (own_f4_24 v0))) h0) 0 0 (T1.setTop (mkF m 29 #[.val (.int v0)] [(.int (own_f5_0 v0 (3 : Int32)))]))
  by_cases hq : (own_f5_0 v0 (3 : Int32)) = (0 : Int32)
  · show own_Fin p e below s (own_QP (some (.int (own_f4_24 v0))) h0) 0 0 _
    rw [show (own_f4_24 v0) = (own_f4_32 v0) from if_pos hq]
    refine own_go (fun t => XS.ifNo X1.here hx rfl (hb hby own_d4_29) rfl ((if0 _ _).trans (teq hq).2)) ?_
    show own_Fin p e below s (own_QP (some (.int (own_f4_32 v0))) h0) 0 0 (T1.setTop (mkF m 32 #[.val (.int v0)] []))
    exact own_b4_32 X1 C e1 v0
  · show own_Fin p e below s (own_QP (some (.int (own_f4_24 v0))) h0) 0 0 _
    rw [show (own_f4_24 v0) = (own_f4_40 v0) from if_neg hq]
    refine own_go (fun t => XS.ifYes X1.here hx rfl (pc0 := 29) (pc' := 40) rfl (hb hby own_d4_29) rfl ((if0 _ _).trans (feq hq).2) (by decide) (by decide)) ?_
    show own_Fin p e below s (own_QP (some (.int (own_f4_40 v0))) h0) 0 0 (T1.setTop (mkF m 40 #[.val (.int v0)] []))
    exact own_b4_40 X1 C e1 v0
def own_f4_16 (v0 : Int32) : Int32 := if (own_f5_0 v0 (2 : Int32)) = (0 : Int32) then (own_f4_24 v0) else (own_f4_40 v0)
set_option maxRecDepth 65536 in
theorem own_b4_16 {l : Launch} {p : Program} {e : Env} {below : List Frame} {s : State} {m : MethodId} {meth : Method} {c : Code} {Z : State} {a0 args : Array Value} {T : State} {h0 : Heap} (X : Stand p l e ({ frames := 2, cells := 0, slots := 0, locals := 28 } : Room) s m args below meth c T [] 0 0) (C : own_Ctx p s m meth c Z a0 tables_1 (⟨"com/example/dovetail/dovetail/xml/XmlNamesMayGoOnPinLaw", "inSet", "(I)Z"⟩ : MethodName) method_5_code 1 (some .boolean)) (hh : T.heap = h0) (v0 : Int32) :
    own_Fin p e below s (own_QP (some (.int (own_f4_16 v0))) h0) 0 0 (T.setTop (mkF m 16 #[.val (.int v0)] [])) := by
  obtain ⟨hx, hby, hml, hZ, hown, hnm, hret, hlk, hw⟩ := id C
  refine own_go (fun t => XS.iloadN X.here hx rfl (hb hby own_d4_16) rfl) ?_
  show own_Fin p e below s (own_QP (some (.int (own_f4_16 v0))) h0) 0 0 (T.setTop (mkF m 17 #[.val (.int v0)] [(.int v0)]))
  refine own_go (fun t => XS.iconst X.here hx rfl (hb hby own_d4_17)) ?_
  show own_Fin p e below s (own_QP (some (.int (own_f4_16 v0))) h0) 0 0 (T.setTop (mkF m 18 #[.val (.int v0)] [(.int (2 : Int32)), (.int v0)]))
  obtain ⟨T1, X1, e1, st1⟩ := own_callP X hx hZ hh (y := (⟨"com/example/dovetail/dovetail/xml/XmlNamesMayGoOnPinLaw", "within", "(II)Z"⟩ : MethodName)) hown (hw _ (List.mem_of_getElem? (i := 15) rfl)) (hw _ (List.mem_of_getElem? (i := 16) rfl)) (hw _ (List.mem_of_getElem? (i := 3) rfl)) (hw _ (List.mem_of_getElem? (i := 17) rfl)) (by decide) (argsL := [(.int v0), (.int (2 : Int32))]) (rest := []) (own_c5 l Z a0 hw v0 (2 : Int32) _) (by decide) 0 (by decide) (by decide) (by decide) (g := (mkF m 18 #[.val (.int v0)] [(.int (2 : Int32)), (.int v0)])) rfl (by rw [hml]; rfl) (lenOf own_pd1 rfl) rfl (by show 2 * 0 + _ ≤ _; exact Nat.le_of_eq rfl) (hb hby own_d4_18)
  refine own_go st1 ?_
  show own_Fin p e below s (own_QP (some (.int (own_f4_16 v0))) h0) 0 0 (T1.setTop (mkF m 21 #[.val (.int v0)] [(.int (own_f5_0 v0 (2 : Int32)))]))
  by_cases hq : (own_f5_0 v0 (2 : Int32)) = (0 : Int32)
  · show own_Fin p e below s (own_QP (some (.int (own_f4_16 v0))) h0) 0 0 _
    rw [show (own_f4_16 v0) = (own_f4_24 v0) from if_pos hq]
    refine own_go (fun t => XS.ifNo X1.here hx rfl (hb hby own_d4_21) rfl ((if0 _ _).trans (teq hq).2)) ?_
    show own_Fin p e below s (own_QP (some (.int (own_f4_24 v0))) h0) 0 0 (T1.setTop (mkF m 24 #[.val (.int v0)] []))
    exact own_b4_24 X1 C e1 v0
  · show own_Fin p e below s (own_QP (some (.int (own_f4_16 v0))) h0) 0 0 _
    rw [show (own_f4_16 v0) = (own_f4_40 v0) from if_neg hq]
    refine own_go (fun t => XS.ifYes X1.here hx rfl (pc0 := 21) (pc' := 40) rfl (hb hby own_d4_21) rfl ((if0 _ _).trans (feq hq).2) (by decide) (by decide)) ?_
    show own_Fin p e below s (own_QP (some (.int (own_f4_40 v0))) h0) 0 0 (T1.setTop (mkF m 40 #[.val (.int v0)] []))
    exact own_b4_40 X1 C e1 v0
def own_f4_8 (v0 : Int32) : Int32 := if (own_f5_0 v0 (1 : Int32)) = (0 : Int32) then (own_f4_16 v0) else (own_f4_40 v0)
set_option maxRecDepth 65536 in
theorem own_b4_8 {l : Launch} {p : Program} {e : Env} {below : List Frame} {s : State} {m : MethodId} {meth : Method} {c : Code} {Z : State} {a0 args : Array Value} {T : State} {h0 : Heap} (X : Stand p l e ({ frames := 2, cells := 0, slots := 0, locals := 28 } : Room) s m args below meth c T [] 0 0) (C : own_Ctx p s m meth c Z a0 tables_1 (⟨"com/example/dovetail/dovetail/xml/XmlNamesMayGoOnPinLaw", "inSet", "(I)Z"⟩ : MethodName) method_5_code 1 (some .boolean)) (hh : T.heap = h0) (v0 : Int32) :
    own_Fin p e below s (own_QP (some (.int (own_f4_8 v0))) h0) 0 0 (T.setTop (mkF m 8 #[.val (.int v0)] [])) := by
  obtain ⟨hx, hby, hml, hZ, hown, hnm, hret, hlk, hw⟩ := id C
  refine own_go (fun t => XS.iloadN X.here hx rfl (hb hby own_d4_8) rfl) ?_
  show own_Fin p e below s (own_QP (some (.int (own_f4_8 v0))) h0) 0 0 (T.setTop (mkF m 9 #[.val (.int v0)] [(.int v0)]))
  refine own_go (fun t => XS.iconst X.here hx rfl (hb hby own_d4_9)) ?_
  show own_Fin p e below s (own_QP (some (.int (own_f4_8 v0))) h0) 0 0 (T.setTop (mkF m 10 #[.val (.int v0)] [(.int (1 : Int32)), (.int v0)]))
  obtain ⟨T1, X1, e1, st1⟩ := own_callP X hx hZ hh (y := (⟨"com/example/dovetail/dovetail/xml/XmlNamesMayGoOnPinLaw", "within", "(II)Z"⟩ : MethodName)) hown (hw _ (List.mem_of_getElem? (i := 15) rfl)) (hw _ (List.mem_of_getElem? (i := 16) rfl)) (hw _ (List.mem_of_getElem? (i := 3) rfl)) (hw _ (List.mem_of_getElem? (i := 17) rfl)) (by decide) (argsL := [(.int v0), (.int (1 : Int32))]) (rest := []) (own_c5 l Z a0 hw v0 (1 : Int32) _) (by decide) 0 (by decide) (by decide) (by decide) (g := (mkF m 10 #[.val (.int v0)] [(.int (1 : Int32)), (.int v0)])) rfl (by rw [hml]; rfl) (lenOf own_pd1 rfl) rfl (by show 2 * 0 + _ ≤ _; exact Nat.le_of_eq rfl) (hb hby own_d4_10)
  refine own_go st1 ?_
  show own_Fin p e below s (own_QP (some (.int (own_f4_8 v0))) h0) 0 0 (T1.setTop (mkF m 13 #[.val (.int v0)] [(.int (own_f5_0 v0 (1 : Int32)))]))
  by_cases hq : (own_f5_0 v0 (1 : Int32)) = (0 : Int32)
  · show own_Fin p e below s (own_QP (some (.int (own_f4_8 v0))) h0) 0 0 _
    rw [show (own_f4_8 v0) = (own_f4_16 v0) from if_pos hq]
    refine own_go (fun t => XS.ifNo X1.here hx rfl (hb hby own_d4_13) rfl ((if0 _ _).trans (teq hq).2)) ?_
    show own_Fin p e below s (own_QP (some (.int (own_f4_16 v0))) h0) 0 0 (T1.setTop (mkF m 16 #[.val (.int v0)] []))
    exact own_b4_16 X1 C e1 v0
  · show own_Fin p e below s (own_QP (some (.int (own_f4_8 v0))) h0) 0 0 _
    rw [show (own_f4_8 v0) = (own_f4_40 v0) from if_neg hq]
    refine own_go (fun t => XS.ifYes X1.here hx rfl (pc0 := 13) (pc' := 40) rfl (hb hby own_d4_13) rfl ((if0 _ _).trans (feq hq).2) (by decide) (by decide)) ?_
    show own_Fin p e below s (own_QP (some (.int (own_f4_40 v0))) h0) 0 0 (T1.setTop (mkF m 40 #[.val (.int v0)] []))
    exact own_b4_40 X1 C e1 v0
def own_f4_0 (v0 : Int32) : Int32 := if (own_f5_0 v0 (0 : Int32)) = (0 : Int32) then (own_f4_8 v0) else (own_f4_40 v0)
set_option maxRecDepth 65536 in
theorem own_b4_0 {l : Launch} {p : Program} {e : Env} {below : List Frame} {s : State} {m : MethodId} {meth : Method} {c : Code} {Z : State} {a0 args : Array Value} {T : State} {h0 : Heap} (X : Stand p l e ({ frames := 2, cells := 0, slots := 0, locals := 28 } : Room) s m args below meth c T [] 0 0) (C : own_Ctx p s m meth c Z a0 tables_1 (⟨"com/example/dovetail/dovetail/xml/XmlNamesMayGoOnPinLaw", "inSet", "(I)Z"⟩ : MethodName) method_5_code 1 (some .boolean)) (hh : T.heap = h0) (v0 : Int32) :
    own_Fin p e below s (own_QP (some (.int (own_f4_0 v0))) h0) 0 0 (T.setTop (mkF m 0 #[.val (.int v0)] [])) := by
  obtain ⟨hx, hby, hml, hZ, hown, hnm, hret, hlk, hw⟩ := id C
  refine own_go (fun t => XS.iloadN X.here hx rfl (hb hby own_d4_0) rfl) ?_
  show own_Fin p e below s (own_QP (some (.int (own_f4_0 v0))) h0) 0 0 (T.setTop (mkF m 1 #[.val (.int v0)] [(.int v0)]))
  refine own_go (fun t => XS.iconst X.here hx rfl (hb hby own_d4_1)) ?_
  show own_Fin p e below s (own_QP (some (.int (own_f4_0 v0))) h0) 0 0 (T.setTop (mkF m 2 #[.val (.int v0)] [(.int (0 : Int32)), (.int v0)]))
  obtain ⟨T1, X1, e1, st1⟩ := own_callP X hx hZ hh (y := (⟨"com/example/dovetail/dovetail/xml/XmlNamesMayGoOnPinLaw", "within", "(II)Z"⟩ : MethodName)) hown (hw _ (List.mem_of_getElem? (i := 15) rfl)) (hw _ (List.mem_of_getElem? (i := 16) rfl)) (hw _ (List.mem_of_getElem? (i := 3) rfl)) (hw _ (List.mem_of_getElem? (i := 17) rfl)) (by decide) (argsL := [(.int v0), (.int (0 : Int32))]) (rest := []) (own_c5 l Z a0 hw v0 (0 : Int32) _) (by decide) 0 (by decide) (by decide) (by decide) (g := (mkF m 2 #[.val (.int v0)] [(.int (0 : Int32)), (.int v0)])) rfl (by rw [hml]; rfl) (lenOf own_pd1 rfl) rfl (by show 2 * 0 + _ ≤ _; exact Nat.le_of_eq rfl) (hb hby own_d4_2)
  refine own_go st1 ?_
  show own_Fin p e below s (own_QP (some (.int (own_f4_0 v0))) h0) 0 0 (T1.setTop (mkF m 5 #[.val (.int v0)] [(.int (own_f5_0 v0 (0 : Int32)))]))
  by_cases hq : (own_f5_0 v0 (0 : Int32)) = (0 : Int32)
  · show own_Fin p e below s (own_QP (some (.int (own_f4_0 v0))) h0) 0 0 _
    rw [show (own_f4_0 v0) = (own_f4_8 v0) from if_pos hq]
    refine own_go (fun t => XS.ifNo X1.here hx rfl (hb hby own_d4_5) rfl ((if0 _ _).trans (teq hq).2)) ?_
    show own_Fin p e below s (own_QP (some (.int (own_f4_8 v0))) h0) 0 0 (T1.setTop (mkF m 8 #[.val (.int v0)] []))
    exact own_b4_8 X1 C e1 v0
  · show own_Fin p e below s (own_QP (some (.int (own_f4_0 v0))) h0) 0 0 _
    rw [show (own_f4_0 v0) = (own_f4_40 v0) from if_neg hq]
    refine own_go (fun t => XS.ifYes X1.here hx rfl (pc0 := 5) (pc' := 40) rfl (hb hby own_d4_5) rfl ((if0 _ _).trans (feq hq).2) (by decide) (by decide)) ?_
    show own_Fin p e below s (own_QP (some (.int (own_f4_40 v0))) h0) 0 0 (T1.setTop (mkF m 40 #[.val (.int v0)] []))
    exact own_b4_40 X1 C e1 v0
theorem own_c4 (l : Launch) (Z : State) (a0 : Array Value) (hw : ∀ d ∈ tables_1, d.before a0 Z = true) (x0 : Int32) (h0 : Heap) : own_Met l Z (⟨"com/example/dovetail/dovetail/xml/XmlNamesMayGoOnPinLaw", "inSet", "(I)Z"⟩ : MethodName) method_5_code 1 (some .boolean) [] ({ frames := 2, cells := 0, slots := 0, locals := 28 } : Room) #[(.int x0)] h0 (own_QP (some (.int (own_f4_0 x0))) h0) :=
  own_enter (plainFor_of_name own_pn0) (own_ef4 x0) hw (fun p e s m below meth c T X C hh => own_b4_0 X C hh x0)
theorem own_all_0 {x : Int32} (h1 : -2147483648 ≤ x.toInt) (h2 : x.toInt ≤ 44) : own_f3_0 x = own_f4_0 x ∧ (own_f3_0 x = 0 ∨ (own_f3_0 x = 1 ∧ own_f6_0 x = 0)) := by
  have g : own_f3_0 x = (0 : Int32) := ((if_neg (own_ineq (45) (by decide) (by omega)) : (own_f3_0 x) = (own_f3_6 x))).trans (((if_neg (own_ineq (46) (by decide) (by omega)) : (own_f3_6 x) = (own_f3_12 x))).trans (((if_pos (own_lt (48) (by decide) (by omega)) : (own_f3_12 x) = (own_f3_24 x))).trans (((if_neg (own_ineq (183) (by decide) (by omega)) : (own_f3_24 x) = (own_f3_31 x))).trans (((if_pos (own_lt (768) (by decide) (by omega)) : (own_f3_31 x) = (own_f3_45 x))).trans ((if_pos (own_lt (8255) (by decide) (by omega)) : (own_f3_45 x) = (own_f3_63 x)))))))
  have w0 : (own_f5_0 x (0 : Int32)) = (0 : Int32) := (if_pos (own_lt (45) (by decide) (by omega)) : (own_f5_0 x (0 : Int32)) = (own_f5_20 x (0 : Int32)))
  have w1 : (own_f5_0 x (1 : Int32)) = (0 : Int32) := (if_pos (own_lt (48) (by decide) (by omega)) : (own_f5_0 x (1 : Int32)) = (own_f5_20 x (1 : Int32)))
  have w2 : (own_f5_0 x (2 : Int32)) = (0 : Int32) := (if_pos (own_lt (183) (by decide) (by omega)) : (own_f5_0 x (2 : Int32)) = (own_f5_20 x (2 : Int32)))
  have w3 : (own_f5_0 x (3 : Int32)) = (0 : Int32) := (if_pos (own_lt (768) (by decide) (by omega)) : (own_f5_0 x (3 : Int32)) = (own_f5_20 x (3 : Int32)))
  have w4 : (own_f5_0 x (4 : Int32)) = (0 : Int32) := (if_pos (own_lt (8255) (by decide) (by omega)) : (own_f5_0 x (4 : Int32)) = (own_f5_20 x (4 : Int32)))
  have i : own_f4_0 x = (0 : Int32) := ((if_pos w0 : (own_f4_0 x) = (own_f4_8 x))).trans (((if_pos w1 : (own_f4_8 x) = (own_f4_16 x))).trans (((if_pos w2 : (own_f4_16 x) = (own_f4_24 x))).trans (((if_pos w3 : (own_f4_24 x) = (own_f4_32 x))).trans ((if_pos w4 : (own_f4_32 x) = (own_f4_44 x))))))
  exact ⟨g.trans i.symm, Or.inl g⟩
theorem own_all_1 {x : Int32} (h1 : 45 ≤ x.toInt) (h2 : x.toInt ≤ 45) : own_f3_0 x = own_f4_0 x ∧ (own_f3_0 x = 0 ∨ (own_f3_0 x = 1 ∧ own_f6_0 x = 0)) := by
  have g : own_f3_0 x = (1 : Int32) := (if_pos (own_ieq (45) (by decide) (by omega)) : (own_f3_0 x) = (own_f3_59 x))
  have w0 : (own_f5_0 x (0 : Int32)) = (1 : Int32) := ((if_neg (own_nlt (45) (by decide) (by omega)) : (own_f5_0 x (0 : Int32)) = (own_f5_8 x (0 : Int32)))).trans ((if_neg (own_ngt (46) (by decide) (by omega)) : (own_f5_8 x (0 : Int32)) = (own_f5_16 x (0 : Int32))))
  have w1 : (own_f5_0 x (1 : Int32)) = (0 : Int32) := (if_pos (own_lt (48) (by decide) (by omega)) : (own_f5_0 x (1 : Int32)) = (own_f5_20 x (1 : Int32)))
  have w2 : (own_f5_0 x (2 : Int32)) = (0 : Int32) := (if_pos (own_lt (183) (by decide) (by omega)) : (own_f5_0 x (2 : Int32)) = (own_f5_20 x (2 : Int32)))
  have w3 : (own_f5_0 x (3 : Int32)) = (0 : Int32) := (if_pos (own_lt (768) (by decide) (by omega)) : (own_f5_0 x (3 : Int32)) = (own_f5_20 x (3 : Int32)))
  have w4 : (own_f5_0 x (4 : Int32)) = (0 : Int32) := (if_pos (own_lt (8255) (by decide) (by omega)) : (own_f5_0 x (4 : Int32)) = (own_f5_20 x (4 : Int32)))
  have i : own_f4_0 x = (1 : Int32) := (if_neg (fun q => absurd (w0.symm.trans q) (by decide)) : (own_f4_0 x) = (own_f4_40 x))
  have z : own_f6_0 x = (0 : Int32) := ((if_pos (own_lt (65) (by decide) (by omega)) : (own_f6_0 x) = (own_f6_12 x))).trans (((if_neg (own_ineq (95) (by decide) (by omega)) : (own_f6_12 x) = (own_f6_18 x))).trans (((if_pos (own_lt (97) (by decide) (by omega)) : (own_f6_18 x) = (own_f6_30 x))).trans (((if_pos (own_lt (192) (by decide) (by omega)) : (own_f6_30 x) = (own_f6_44 x))).trans (((if_pos (own_lt (216) (by decide) (by omega)) : (own_f6_44 x) = (own_f6_58 x))).trans (((if_pos (own_lt (248) (by decide) (by omega)) : (own_f6_58 x) = (own_f6_72 x))).trans (((if_pos (own_lt (880) (by decide) (by omega)) : (own_f6_72 x) = (own_f6_86 x))).trans (((if_pos (own_lt (895) (by decide) (by omega)) : (own_f6_86 x) = (own_f6_100 x))).trans (((if_pos (own_lt (8204) (by decide) (by omega)) : (own_f6_100 x) = (own_f6_114 x))).trans (((if_pos (own_lt (8304) (by decide) (by omega)) : (own_f6_114 x) = (own_f6_128 x))).trans (((if_pos (own_lt (11264) (by decide) (by omega)) : (own_f6_128 x) = (own_f6_142 x))).trans (((if_pos (own_lt (12289) (by decide) (by omega)) : (own_f6_142 x) = (own_f6_155 x))).trans (((if_pos (own_lt (63744) (by decide) (by omega)) : (own_f6_155 x) = (own_f6_167 x))).trans (((if_pos (own_lt (65008) (by decide) (by omega)) : (own_f6_167 x) = (own_f6_179 x))).trans ((if_pos (own_lt (65536) (by decide) (by omega)) : (own_f6_179 x) = (own_f6_195 x))))))))))))))))
  exact ⟨g.trans i.symm, Or.inr ⟨g, z⟩⟩
theorem own_all_2 {x : Int32} (h1 : 46 ≤ x.toInt) (h2 : x.toInt ≤ 46) : own_f3_0 x = own_f4_0 x ∧ (own_f3_0 x = 0 ∨ (own_f3_0 x = 1 ∧ own_f6_0 x = 0)) := by
  have g : own_f3_0 x = (1 : Int32) := ((if_neg (own_ineq (45) (by decide) (by omega)) : (own_f3_0 x) = (own_f3_6 x))).trans ((if_pos (own_ieq (46) (by decide) (by omega)) : (own_f3_6 x) = (own_f3_59 x)))
  have w0 : (own_f5_0 x (0 : Int32)) = (1 : Int32) := ((if_neg (own_nlt (45) (by decide) (by omega)) : (own_f5_0 x (0 : Int32)) = (own_f5_8 x (0 : Int32)))).trans ((if_neg (own_ngt (46) (by decide) (by omega)) : (own_f5_8 x (0 : Int32)) = (own_f5_16 x (0 : Int32))))
  have w1 : (own_f5_0 x (1 : Int32)) = (0 : Int32) := (if_pos (own_lt (48) (by decide) (by omega)) : (own_f5_0 x (1 : Int32)) = (own_f5_20 x (1 : Int32)))
  have w2 : (own_f5_0 x (2 : Int32)) = (0 : Int32) := (if_pos (own_lt (183) (by decide) (by omega)) : (own_f5_0 x (2 : Int32)) = (own_f5_20 x (2 : Int32)))
  have w3 : (own_f5_0 x (3 : Int32)) = (0 : Int32) := (if_pos (own_lt (768) (by decide) (by omega)) : (own_f5_0 x (3 : Int32)) = (own_f5_20 x (3 : Int32)))
  have w4 : (own_f5_0 x (4 : Int32)) = (0 : Int32) := (if_pos (own_lt (8255) (by decide) (by omega)) : (own_f5_0 x (4 : Int32)) = (own_f5_20 x (4 : Int32)))
  have i : own_f4_0 x = (1 : Int32) := (if_neg (fun q => absurd (w0.symm.trans q) (by decide)) : (own_f4_0 x) = (own_f4_40 x))
  have z : own_f6_0 x = (0 : Int32) := ((if_pos (own_lt (65) (by decide) (by omega)) : (own_f6_0 x) = (own_f6_12 x))).trans (((if_neg (own_ineq (95) (by decide) (by omega)) : (own_f6_12 x) = (own_f6_18 x))).trans (((if_pos (own_lt (97) (by decide) (by omega)) : (own_f6_18 x) = (own_f6_30 x))).trans (((if_pos (own_lt (192) (by decide) (by omega)) : (own_f6_30 x) = (own_f6_44 x))).trans (((if_pos (own_lt (216) (by decide) (by omega)) : (own_f6_44 x) = (own_f6_58 x))).trans (((if_pos (own_lt (248) (by decide) (by omega)) : (own_f6_58 x) = (own_f6_72 x))).trans (((if_pos (own_lt (880) (by decide) (by omega)) : (own_f6_72 x) = (own_f6_86 x))).trans (((if_pos (own_lt (895) (by decide) (by omega)) : (own_f6_86 x) = (own_f6_100 x))).trans (((if_pos (own_lt (8204) (by decide) (by omega)) : (own_f6_100 x) = (own_f6_114 x))).trans (((if_pos (own_lt (8304) (by decide) (by omega)) : (own_f6_114 x) = (own_f6_128 x))).trans (((if_pos (own_lt (11264) (by decide) (by omega)) : (own_f6_128 x) = (own_f6_142 x))).trans (((if_pos (own_lt (12289) (by decide) (by omega)) : (own_f6_142 x) = (own_f6_155 x))).trans (((if_pos (own_lt (63744) (by decide) (by omega)) : (own_f6_155 x) = (own_f6_167 x))).trans (((if_pos (own_lt (65008) (by decide) (by omega)) : (own_f6_167 x) = (own_f6_179 x))).trans ((if_pos (own_lt (65536) (by decide) (by omega)) : (own_f6_179 x) = (own_f6_195 x))))))))))))))))
  exact ⟨g.trans i.symm, Or.inr ⟨g, z⟩⟩
theorem own_all_3 {x : Int32} (h1 : 47 ≤ x.toInt) (h2 : x.toInt ≤ 47) : own_f3_0 x = own_f4_0 x ∧ (own_f3_0 x = 0 ∨ (own_f3_0 x = 1 ∧ own_f6_0 x = 0)) := by
  have g : own_f3_0 x = (0 : Int32) := ((if_neg (own_ineq (45) (by decide) (by omega)) : (own_f3_0 x) = (own_f3_6 x))).trans (((if_neg (own_ineq (46) (by decide) (by omega)) : (own_f3_6 x) = (own_f3_12 x))).trans (((if_pos (own_lt (48) (by decide) (by omega)) : (own_f3_12 x) = (own_f3_24 x))).trans (((if_neg (own_ineq (183) (by decide) (by omega)) : (own_f3_24 x) = (own_f3_31 x))).trans (((if_pos (own_lt (768) (by decide) (by omega)) : (own_f3_31 x) = (own_f3_45 x))).trans ((if_pos (own_lt (8255) (by decide) (by omega)) : (own_f3_45 x) = (own_f3_63 x)))))))
  have w0 : (own_f5_0 x (0 : Int32)) = (0 : Int32) := ((if_neg (own_nlt (45) (by decide) (by omega)) : (own_f5_0 x (0 : Int32)) = (own_f5_8 x (0 : Int32)))).trans ((if_pos (own_gt (46) (by decide) (by omega)) : (own_f5_8 x (0 : Int32)) = (own_f5_20 x (0 : Int32))))
  have w1 : (own_f5_0 x (1 : Int32)) = (0 : Int32) := (if_pos (own_lt (48) (by decide) (by omega)) : (own_f5_0 x (1 : Int32)) = (own_f5_20 x (1 : Int32)))
  have w2 : (own_f5_0 x (2 : Int32)) = (0 : Int32) := (if_pos (own_lt (183) (by decide) (by omega)) : (own_f5_0 x (2 : Int32)) = (own_f5_20 x (2 : Int32)))
  have w3 : (own_f5_0 x (3 : Int32)) = (0 : Int32) := (if_pos (own_lt (768) (by decide) (by omega)) : (own_f5_0 x (3 : Int32)) = (own_f5_20 x (3 : Int32)))
  have w4 : (own_f5_0 x (4 : Int32)) = (0 : Int32) := (if_pos (own_lt (8255) (by decide) (by omega)) : (own_f5_0 x (4 : Int32)) = (own_f5_20 x (4 : Int32)))
  have i : own_f4_0 x = (0 : Int32) := ((if_pos w0 : (own_f4_0 x) = (own_f4_8 x))).trans (((if_pos w1 : (own_f4_8 x) = (own_f4_16 x))).trans (((if_pos w2 : (own_f4_16 x) = (own_f4_24 x))).trans (((if_pos w3 : (own_f4_24 x) = (own_f4_32 x))).trans ((if_pos w4 : (own_f4_32 x) = (own_f4_44 x))))))
  exact ⟨g.trans i.symm, Or.inl g⟩
theorem own_all_4 {x : Int32} (h1 : 48 ≤ x.toInt) (h2 : x.toInt ≤ 57) : own_f3_0 x = own_f4_0 x ∧ (own_f3_0 x = 0 ∨ (own_f3_0 x = 1 ∧ own_f6_0 x = 0)) := by
  have g : own_f3_0 x = (1 : Int32) := ((if_neg (own_ineq (45) (by decide) (by omega)) : (own_f3_0 x) = (own_f3_6 x))).trans (((if_neg (own_ineq (46) (by decide) (by omega)) : (own_f3_6 x) = (own_f3_12 x))).trans (((if_neg (own_nlt (48) (by decide) (by omega)) : (own_f3_12 x) = (own_f3_18 x))).trans ((if_neg (own_ngt (57) (by decide) (by omega)) : (own_f3_18 x) = (own_f3_59 x)))))
  have w0 : (own_f5_0 x (0 : Int32)) = (0 : Int32) := ((if_neg (own_nlt (45) (by decide) (by omega)) : (own_f5_0 x (0 : Int32)) = (own_f5_8 x (0 : Int32)))).trans ((if_pos (own_gt (46) (by decide) (by omega)) : (own_f5_8 x (0 : Int32)) = (own_f5_20 x (0 : Int32))))
  have w1 : (own_f5_0 x (1 : Int32)) = (1 : Int32) := ((if_neg (own_nlt (48) (by decide) (by omega)) : (own_f5_0 x (1 : Int32)) = (own_f5_8 x (1 : Int32)))).trans ((if_neg (own_ngt (57) (by decide) (by omega)) : (own_f5_8 x (1 : Int32)) = (own_f5_16 x (1 : Int32))))
  have w2 : (own_f5_0 x (2 : Int32)) = (0 : Int32) := (if_pos (own_lt (183) (by decide) (by omega)) : (own_f5_0 x (2 : Int32)) = (own_f5_20 x (2 : Int32)))
  have w3 : (own_f5_0 x (3 : Int32)) = (0 : Int32) := (if_pos (own_lt (768) (by decide) (by omega)) : (own_f5_0 x (3 : Int32)) = (own_f5_20 x (3 : Int32)))
  have w4 : (own_f5_0 x (4 : Int32)) = (0 : Int32) := (if_pos (own_lt (8255) (by decide) (by omega)) : (own_f5_0 x (4 : Int32)) = (own_f5_20 x (4 : Int32)))
  have i : own_f4_0 x = (1 : Int32) := ((if_pos w0 : (own_f4_0 x) = (own_f4_8 x))).trans ((if_neg (fun q => absurd (w1.symm.trans q) (by decide)) : (own_f4_8 x) = (own_f4_40 x)))
  have z : own_f6_0 x = (0 : Int32) := ((if_pos (own_lt (65) (by decide) (by omega)) : (own_f6_0 x) = (own_f6_12 x))).trans (((if_neg (own_ineq (95) (by decide) (by omega)) : (own_f6_12 x) = (own_f6_18 x))).trans (((if_pos (own_lt (97) (by decide) (by omega)) : (own_f6_18 x) = (own_f6_30 x))).trans (((if_pos (own_lt (192) (by decide) (by omega)) : (own_f6_30 x) = (own_f6_44 x))).trans (((if_pos (own_lt (216) (by decide) (by omega)) : (own_f6_44 x) = (own_f6_58 x))).trans (((if_pos (own_lt (248) (by decide) (by omega)) : (own_f6_58 x) = (own_f6_72 x))).trans (((if_pos (own_lt (880) (by decide) (by omega)) : (own_f6_72 x) = (own_f6_86 x))).trans (((if_pos (own_lt (895) (by decide) (by omega)) : (own_f6_86 x) = (own_f6_100 x))).trans (((if_pos (own_lt (8204) (by decide) (by omega)) : (own_f6_100 x) = (own_f6_114 x))).trans (((if_pos (own_lt (8304) (by decide) (by omega)) : (own_f6_114 x) = (own_f6_128 x))).trans (((if_pos (own_lt (11264) (by decide) (by omega)) : (own_f6_128 x) = (own_f6_142 x))).trans (((if_pos (own_lt (12289) (by decide) (by omega)) : (own_f6_142 x) = (own_f6_155 x))).trans (((if_pos (own_lt (63744) (by decide) (by omega)) : (own_f6_155 x) = (own_f6_167 x))).trans (((if_pos (own_lt (65008) (by decide) (by omega)) : (own_f6_167 x) = (own_f6_179 x))).trans ((if_pos (own_lt (65536) (by decide) (by omega)) : (own_f6_179 x) = (own_f6_195 x))))))))))))))))
  exact ⟨g.trans i.symm, Or.inr ⟨g, z⟩⟩
theorem own_all_5 {x : Int32} (h1 : 58 ≤ x.toInt) (h2 : x.toInt ≤ 182) : own_f3_0 x = own_f4_0 x ∧ (own_f3_0 x = 0 ∨ (own_f3_0 x = 1 ∧ own_f6_0 x = 0)) := by
  have g : own_f3_0 x = (0 : Int32) := ((if_neg (own_ineq (45) (by decide) (by omega)) : (own_f3_0 x) = (own_f3_6 x))).trans (((if_neg (own_ineq (46) (by decide) (by omega)) : (own_f3_6 x) = (own_f3_12 x))).trans (((if_neg (own_nlt (48) (by decide) (by omega)) : (own_f3_12 x) = (own_f3_18 x))).trans (((if_pos (own_gt (57) (by decide) (by omega)) : (own_f3_18 x) = (own_f3_24 x))).trans (((if_neg (own_ineq (183) (by decide) (by omega)) : (own_f3_24 x) = (own_f3_31 x))).trans (((if_pos (own_lt (768) (by decide) (by omega)) : (own_f3_31 x) = (own_f3_45 x))).trans ((if_pos (own_lt (8255) (by decide) (by omega)) : (own_f3_45 x) = (own_f3_63 x))))))))
  have w0 : (own_f5_0 x (0 : Int32)) = (0 : Int32) := ((if_neg (own_nlt (45) (by decide) (by omega)) : (own_f5_0 x (0 : Int32)) = (own_f5_8 x (0 : Int32)))).trans ((if_pos (own_gt (46) (by decide) (by omega)) : (own_f5_8 x (0 : Int32)) = (own_f5_20 x (0 : Int32))))
  have w1 : (own_f5_0 x (1 : Int32)) = (0 : Int32) := ((if_neg (own_nlt (48) (by decide) (by omega)) : (own_f5_0 x (1 : Int32)) = (own_f5_8 x (1 : Int32)))).trans ((if_pos (own_gt (57) (by decide) (by omega)) : (own_f5_8 x (1 : Int32)) = (own_f5_20 x (1 : Int32))))
  have w2 : (own_f5_0 x (2 : Int32)) = (0 : Int32) := (if_pos (own_lt (183) (by decide) (by omega)) : (own_f5_0 x (2 : Int32)) = (own_f5_20 x (2 : Int32)))
  have w3 : (own_f5_0 x (3 : Int32)) = (0 : Int32) := (if_pos (own_lt (768) (by decide) (by omega)) : (own_f5_0 x (3 : Int32)) = (own_f5_20 x (3 : Int32)))
  have w4 : (own_f5_0 x (4 : Int32)) = (0 : Int32) := (if_pos (own_lt (8255) (by decide) (by omega)) : (own_f5_0 x (4 : Int32)) = (own_f5_20 x (4 : Int32)))
  have i : own_f4_0 x = (0 : Int32) := ((if_pos w0 : (own_f4_0 x) = (own_f4_8 x))).trans (((if_pos w1 : (own_f4_8 x) = (own_f4_16 x))).trans (((if_pos w2 : (own_f4_16 x) = (own_f4_24 x))).trans (((if_pos w3 : (own_f4_24 x) = (own_f4_32 x))).trans ((if_pos w4 : (own_f4_32 x) = (own_f4_44 x))))))
  exact ⟨g.trans i.symm, Or.inl g⟩
theorem own_all_6 {x : Int32} (h1 : 183 ≤ x.toInt) (h2 : x.toInt ≤ 183) : own_f3_0 x = own_f4_0 x ∧ (own_f3_0 x = 0 ∨ (own_f3_0 x = 1 ∧ own_f6_0 x = 0)) := by
  have g : own_f3_0 x = (1 : Int32) := ((if_neg (own_ineq (45) (by decide) (by omega)) : (own_f3_0 x) = (own_f3_6 x))).trans (((if_neg (own_ineq (46) (by decide) (by omega)) : (own_f3_6 x) = (own_f3_12 x))).trans (((if_neg (own_nlt (48) (by decide) (by omega)) : (own_f3_12 x) = (own_f3_18 x))).trans (((if_pos (own_gt (57) (by decide) (by omega)) : (own_f3_18 x) = (own_f3_24 x))).trans ((if_pos (own_ieq (183) (by decide) (by omega)) : (own_f3_24 x) = (own_f3_59 x))))))
  have w0 : (own_f5_0 x (0 : Int32)) = (0 : Int32) := ((if_neg (own_nlt (45) (by decide) (by omega)) : (own_f5_0 x (0 : Int32)) = (own_f5_8 x (0 : Int32)))).trans ((if_pos (own_gt (46) (by decide) (by omega)) : (own_f5_8 x (0 : Int32)) = (own_f5_20 x (0 : Int32))))
  have w1 : (own_f5_0 x (1 : Int32)) = (0 : Int32) := ((if_neg (own_nlt (48) (by decide) (by omega)) : (own_f5_0 x (1 : Int32)) = (own_f5_8 x (1 : Int32)))).trans ((if_pos (own_gt (57) (by decide) (by omega)) : (own_f5_8 x (1 : Int32)) = (own_f5_20 x (1 : Int32))))
  have w2 : (own_f5_0 x (2 : Int32)) = (1 : Int32) := ((if_neg (own_nlt (183) (by decide) (by omega)) : (own_f5_0 x (2 : Int32)) = (own_f5_8 x (2 : Int32)))).trans ((if_neg (own_ngt (183) (by decide) (by omega)) : (own_f5_8 x (2 : Int32)) = (own_f5_16 x (2 : Int32))))
  have w3 : (own_f5_0 x (3 : Int32)) = (0 : Int32) := (if_pos (own_lt (768) (by decide) (by omega)) : (own_f5_0 x (3 : Int32)) = (own_f5_20 x (3 : Int32)))
  have w4 : (own_f5_0 x (4 : Int32)) = (0 : Int32) := (if_pos (own_lt (8255) (by decide) (by omega)) : (own_f5_0 x (4 : Int32)) = (own_f5_20 x (4 : Int32)))
  have i : own_f4_0 x = (1 : Int32) := ((if_pos w0 : (own_f4_0 x) = (own_f4_8 x))).trans (((if_pos w1 : (own_f4_8 x) = (own_f4_16 x))).trans ((if_neg (fun q => absurd (w2.symm.trans q) (by decide)) : (own_f4_16 x) = (own_f4_40 x))))
  have z : own_f6_0 x = (0 : Int32) := ((if_neg (own_nlt (65) (by decide) (by omega)) : (own_f6_0 x) = (own_f6_6 x))).trans (((if_pos (own_gt (90) (by decide) (by omega)) : (own_f6_6 x) = (own_f6_12 x))).trans (((if_neg (own_ineq (95) (by decide) (by omega)) : (own_f6_12 x) = (own_f6_18 x))).trans (((if_neg (own_nlt (97) (by decide) (by omega)) : (own_f6_18 x) = (own_f6_24 x))).trans (((if_pos (own_gt (122) (by decide) (by omega)) : (own_f6_24 x) = (own_f6_30 x))).trans (((if_pos (own_lt (192) (by decide) (by omega)) : (own_f6_30 x) = (own_f6_44 x))).trans (((if_pos (own_lt (216) (by decide) (by omega)) : (own_f6_44 x) = (own_f6_58 x))).trans (((if_pos (own_lt (248) (by decide) (by omega)) : (own_f6_58 x) = (own_f6_72 x))).trans (((if_pos (own_lt (880) (by decide) (by omega)) : (own_f6_72 x) = (own_f6_86 x))).trans (((if_pos (own_lt (895) (by decide) (by omega)) : (own_f6_86 x) = (own_f6_100 x))).trans (((if_pos (own_lt (8204) (by decide) (by omega)) : (own_f6_100 x) = (own_f6_114 x))).trans (((if_pos (own_lt (8304) (by decide) (by omega)) : (own_f6_114 x) = (own_f6_128 x))).trans (((if_pos (own_lt (11264) (by decide) (by omega)) : (own_f6_128 x) = (own_f6_142 x))).trans (((if_pos (own_lt (12289) (by decide) (by omega)) : (own_f6_142 x) = (own_f6_155 x))).trans (((if_pos (own_lt (63744) (by decide) (by omega)) : (own_f6_155 x) = (own_f6_167 x))).trans (((if_pos (own_lt (65008) (by decide) (by omega)) : (own_f6_167 x) = (own_f6_179 x))).trans ((if_pos (own_lt (65536) (by decide) (by omega)) : (own_f6_179 x) = (own_f6_195 x))))))))))))))))))
  exact ⟨g.trans i.symm, Or.inr ⟨g, z⟩⟩
theorem own_all_7 {x : Int32} (h1 : 184 ≤ x.toInt) (h2 : x.toInt ≤ 767) : own_f3_0 x = own_f4_0 x ∧ (own_f3_0 x = 0 ∨ (own_f3_0 x = 1 ∧ own_f6_0 x = 0)) := by
  have g : own_f3_0 x = (0 : Int32) := ((if_neg (own_ineq (45) (by decide) (by omega)) : (own_f3_0 x) = (own_f3_6 x))).trans (((if_neg (own_ineq (46) (by decide) (by omega)) : (own_f3_6 x) = (own_f3_12 x))).trans (((if_neg (own_nlt (48) (by decide) (by omega)) : (own_f3_12 x) = (own_f3_18 x))).trans (((if_pos (own_gt (57) (by decide) (by omega)) : (own_f3_18 x) = (own_f3_24 x))).trans (((if_neg (own_ineq (183) (by decide) (by omega)) : (own_f3_24 x) = (own_f3_31 x))).trans (((if_pos (own_lt (768) (by decide) (by omega)) : (own_f3_31 x) = (own_f3_45 x))).trans ((if_pos (own_lt (8255) (by decide) (by omega)) : (own_f3_45 x) = (own_f3_63 x))))))))
  have w0 : (own_f5_0 x (0 : Int32)) = (0 : Int32) := ((if_neg (own_nlt (45) (by decide) (by omega)) : (own_f5_0 x (0 : Int32)) = (own_f5_8 x (0 : Int32)))).trans ((if_pos (own_gt (46) (by decide) (by omega)) : (own_f5_8 x (0 : Int32)) = (own_f5_20 x (0 : Int32))))
  have w1 : (own_f5_0 x (1 : Int32)) = (0 : Int32) := ((if_neg (own_nlt (48) (by decide) (by omega)) : (own_f5_0 x (1 : Int32)) = (own_f5_8 x (1 : Int32)))).trans ((if_pos (own_gt (57) (by decide) (by omega)) : (own_f5_8 x (1 : Int32)) = (own_f5_20 x (1 : Int32))))
  have w2 : (own_f5_0 x (2 : Int32)) = (0 : Int32) := ((if_neg (own_nlt (183) (by decide) (by omega)) : (own_f5_0 x (2 : Int32)) = (own_f5_8 x (2 : Int32)))).trans ((if_pos (own_gt (183) (by decide) (by omega)) : (own_f5_8 x (2 : Int32)) = (own_f5_20 x (2 : Int32))))
  have w3 : (own_f5_0 x (3 : Int32)) = (0 : Int32) := (if_pos (own_lt (768) (by decide) (by omega)) : (own_f5_0 x (3 : Int32)) = (own_f5_20 x (3 : Int32)))
  have w4 : (own_f5_0 x (4 : Int32)) = (0 : Int32) := (if_pos (own_lt (8255) (by decide) (by omega)) : (own_f5_0 x (4 : Int32)) = (own_f5_20 x (4 : Int32)))
  have i : own_f4_0 x = (0 : Int32) := ((if_pos w0 : (own_f4_0 x) = (own_f4_8 x))).trans (((if_pos w1 : (own_f4_8 x) = (own_f4_16 x))).trans (((if_pos w2 : (own_f4_16 x) = (own_f4_24 x))).trans (((if_pos w3 : (own_f4_24 x) = (own_f4_32 x))).trans ((if_pos w4 : (own_f4_32 x) = (own_f4_44 x))))))
  exact ⟨g.trans i.symm, Or.inl g⟩
theorem own_all_8 {x : Int32} (h1 : 768 ≤ x.toInt) (h2 : x.toInt ≤ 879) : own_f3_0 x = own_f4_0 x ∧ (own_f3_0 x = 0 ∨ (own_f3_0 x = 1 ∧ own_f6_0 x = 0)) := by
  have g : own_f3_0 x = (1 : Int32) := ((if_neg (own_ineq (45) (by decide) (by omega)) : (own_f3_0 x) = (own_f3_6 x))).trans (((if_neg (own_ineq (46) (by decide) (by omega)) : (own_f3_6 x) = (own_f3_12 x))).trans (((if_neg (own_nlt (48) (by decide) (by omega)) : (own_f3_12 x) = (own_f3_18 x))).trans (((if_pos (own_gt (57) (by decide) (by omega)) : (own_f3_18 x) = (own_f3_24 x))).trans (((if_neg (own_ineq (183) (by decide) (by omega)) : (own_f3_24 x) = (own_f3_31 x))).trans (((if_neg (own_nlt (768) (by decide) (by omega)) : (own_f3_31 x) = (own_f3_38 x))).trans ((if_neg (own_ngt (879) (by decide) (by omega)) : (own_f3_38 x) = (own_f3_59 x))))))))
  have w0 : (own_f5_0 x (0 : Int32)) = (0 : Int32) := ((if_neg (own_nlt (45) (by decide) (by omega)) : (own_f5_0 x (0 : Int32)) = (own_f5_8 x (0 : Int32)))).trans ((if_pos (own_gt (46) (by decide) (by omega)) : (own_f5_8 x (0 : Int32)) = (own_f5_20 x (0 : Int32))))
  have w1 : (own_f5_0 x (1 : Int32)) = (0 : Int32) := ((if_neg (own_nlt (48) (by decide) (by omega)) : (own_f5_0 x (1 : Int32)) = (own_f5_8 x (1 : Int32)))).trans ((if_pos (own_gt (57) (by decide) (by omega)) : (own_f5_8 x (1 : Int32)) = (own_f5_20 x (1 : Int32))))
  have w2 : (own_f5_0 x (2 : Int32)) = (0 : Int32) := ((if_neg (own_nlt (183) (by decide) (by omega)) : (own_f5_0 x (2 : Int32)) = (own_f5_8 x (2 : Int32)))).trans ((if_pos (own_gt (183) (by decide) (by omega)) : (own_f5_8 x (2 : Int32)) = (own_f5_20 x (2 : Int32))))
  have w3 : (own_f5_0 x (3 : Int32)) = (1 : Int32) := ((if_neg (own_nlt (768) (by decide) (by omega)) : (own_f5_0 x (3 : Int32)) = (own_f5_8 x (3 : Int32)))).trans ((if_neg (own_ngt (879) (by decide) (by omega)) : (own_f5_8 x (3 : Int32)) = (own_f5_16 x (3 : Int32))))
  have w4 : (own_f5_0 x (4 : Int32)) = (0 : Int32) := (if_pos (own_lt (8255) (by decide) (by omega)) : (own_f5_0 x (4 : Int32)) = (own_f5_20 x (4 : Int32)))
  have i : own_f4_0 x = (1 : Int32) := ((if_pos w0 : (own_f4_0 x) = (own_f4_8 x))).trans (((if_pos w1 : (own_f4_8 x) = (own_f4_16 x))).trans (((if_pos w2 : (own_f4_16 x) = (own_f4_24 x))).trans ((if_neg (fun q => absurd (w3.symm.trans q) (by decide)) : (own_f4_24 x) = (own_f4_40 x)))))
  have z : own_f6_0 x = (0 : Int32) := ((if_neg (own_nlt (65) (by decide) (by omega)) : (own_f6_0 x) = (own_f6_6 x))).trans (((if_pos (own_gt (90) (by decide) (by omega)) : (own_f6_6 x) = (own_f6_12 x))).trans (((if_neg (own_ineq (95) (by decide) (by omega)) : (own_f6_12 x) = (own_f6_18 x))).trans (((if_neg (own_nlt (97) (by decide) (by omega)) : (own_f6_18 x) = (own_f6_24 x))).trans (((if_pos (own_gt (122) (by decide) (by omega)) : (own_f6_24 x) = (own_f6_30 x))).trans (((if_neg (own_nlt (192) (by decide) (by omega)) : (own_f6_30 x) = (own_f6_37 x))).trans (((if_pos (own_gt (214) (by decide) (by omega)) : (own_f6_37 x) = (own_f6_44 x))).trans (((if_neg (own_nlt (216) (by decide) (by omega)) : (own_f6_44 x) = (own_f6_51 x))).trans (((if_pos (own_gt (246) (by decide) (by omega)) : (own_f6_51 x) = (own_f6_58 x))).trans (((if_neg (own_nlt (248) (by decide) (by omega)) : (own_f6_58 x) = (own_f6_65 x))).trans (((if_pos (own_gt (767) (by decide) (by omega)) : (own_f6_65 x) = (own_f6_72 x))).trans (((if_pos (own_lt (880) (by decide) (by omega)) : (own_f6_72 x) = (own_f6_86 x))).trans (((if_pos (own_lt (895) (by decide) (by omega)) : (own_f6_86 x) = (own_f6_100 x))).trans (((if_pos (own_lt (8204) (by decide) (by omega)) : (own_f6_100 x) = (own_f6_114 x))).trans (((if_pos (own_lt (8304) (by decide) (by omega)) : (own_f6_114 x) = (own_f6_128 x))).trans (((if_pos (own_lt (11264) (by decide) (by omega)) : (own_f6_128 x) = (own_f6_142 x))).trans (((if_pos (own_lt (12289) (by decide) (by omega)) : (own_f6_142 x) = (own_f6_155 x))).trans (((if_pos (own_lt (63744) (by decide) (by omega)) : (own_f6_155 x) = (own_f6_167 x))).trans (((if_pos (own_lt (65008) (by decide) (by omega)) : (own_f6_167 x) = (own_f6_179 x))).trans ((if_pos (own_lt (65536) (by decide) (by omega)) : (own_f6_179 x) = (own_f6_195 x)))))))))))))))))))))
  exact ⟨g.trans i.symm, Or.inr ⟨g, z⟩⟩
theorem own_all_9 {x : Int32} (h1 : 880 ≤ x.toInt) (h2 : x.toInt ≤ 8254) : own_f3_0 x = own_f4_0 x ∧ (own_f3_0 x = 0 ∨ (own_f3_0 x = 1 ∧ own_f6_0 x = 0)) := by
  have g : own_f3_0 x = (0 : Int32) := ((if_neg (own_ineq (45) (by decide) (by omega)) : (own_f3_0 x) = (own_f3_6 x))).trans (((if_neg (own_ineq (46) (by decide) (by omega)) : (own_f3_6 x) = (own_f3_12 x))).trans (((if_neg (own_nlt (48) (by decide) (by omega)) : (own_f3_12 x) = (own_f3_18 x))).trans (((if_pos (own_gt (57) (by decide) (by omega)) : (own_f3_18 x) = (own_f3_24 x))).trans (((if_neg (own_ineq (183) (by decide) (by omega)) : (own_f3_24 x) = (own_f3_31 x))).trans (((if_neg (own_nlt (768) (by decide) (by omega)) : (own_f3_31 x) = (own_f3_38 x))).trans (((if_pos (own_gt (879) (by decide) (by omega)) : (own_f3_38 x) = (own_f3_45 x))).trans ((if_pos (own_lt (8255) (by decide) (by omega)) : (own_f3_45 x) = (own_f3_63 x)))))))))
  have w0 : (own_f5_0 x (0 : Int32)) = (0 : Int32) := ((if_neg (own_nlt (45) (by decide) (by omega)) : (own_f5_0 x (0 : Int32)) = (own_f5_8 x (0 : Int32)))).trans ((if_pos (own_gt (46) (by decide) (by omega)) : (own_f5_8 x (0 : Int32)) = (own_f5_20 x (0 : Int32))))
  have w1 : (own_f5_0 x (1 : Int32)) = (0 : Int32) := ((if_neg (own_nlt (48) (by decide) (by omega)) : (own_f5_0 x (1 : Int32)) = (own_f5_8 x (1 : Int32)))).trans ((if_pos (own_gt (57) (by decide) (by omega)) : (own_f5_8 x (1 : Int32)) = (own_f5_20 x (1 : Int32))))
  have w2 : (own_f5_0 x (2 : Int32)) = (0 : Int32) := ((if_neg (own_nlt (183) (by decide) (by omega)) : (own_f5_0 x (2 : Int32)) = (own_f5_8 x (2 : Int32)))).trans ((if_pos (own_gt (183) (by decide) (by omega)) : (own_f5_8 x (2 : Int32)) = (own_f5_20 x (2 : Int32))))
  have w3 : (own_f5_0 x (3 : Int32)) = (0 : Int32) := ((if_neg (own_nlt (768) (by decide) (by omega)) : (own_f5_0 x (3 : Int32)) = (own_f5_8 x (3 : Int32)))).trans ((if_pos (own_gt (879) (by decide) (by omega)) : (own_f5_8 x (3 : Int32)) = (own_f5_20 x (3 : Int32))))
  have w4 : (own_f5_0 x (4 : Int32)) = (0 : Int32) := (if_pos (own_lt (8255) (by decide) (by omega)) : (own_f5_0 x (4 : Int32)) = (own_f5_20 x (4 : Int32)))
  have i : own_f4_0 x = (0 : Int32) := ((if_pos w0 : (own_f4_0 x) = (own_f4_8 x))).trans (((if_pos w1 : (own_f4_8 x) = (own_f4_16 x))).trans (((if_pos w2 : (own_f4_16 x) = (own_f4_24 x))).trans (((if_pos w3 : (own_f4_24 x) = (own_f4_32 x))).trans ((if_pos w4 : (own_f4_32 x) = (own_f4_44 x))))))
  exact ⟨g.trans i.symm, Or.inl g⟩
theorem own_all_10 {x : Int32} (h1 : 8255 ≤ x.toInt) (h2 : x.toInt ≤ 8256) : own_f3_0 x = own_f4_0 x ∧ (own_f3_0 x = 0 ∨ (own_f3_0 x = 1 ∧ own_f6_0 x = 0)) := by
  have g : own_f3_0 x = (1 : Int32) := ((if_neg (own_ineq (45) (by decide) (by omega)) : (own_f3_0 x) = (own_f3_6 x))).trans (((if_neg (own_ineq (46) (by decide) (by omega)) : (own_f3_6 x) = (own_f3_12 x))).trans (((if_neg (own_nlt (48) (by decide) (by omega)) : (own_f3_12 x) = (own_f3_18 x))).trans (((if_pos (own_gt (57) (by decide) (by omega)) : (own_f3_18 x) = (own_f3_24 x))).trans (((if_neg (own_ineq (183) (by decide) (by omega)) : (own_f3_24 x) = (own_f3_31 x))).trans (((if_neg (own_nlt (768) (by decide) (by omega)) : (own_f3_31 x) = (own_f3_38 x))).trans (((if_pos (own_gt (879) (by decide) (by omega)) : (own_f3_38 x) = (own_f3_45 x))).trans (((if_neg (own_nlt (8255) (by decide) (by omega)) : (own_f3_45 x) = (own_f3_52 x))).trans ((if_neg (own_ngt (8256) (by decide) (by omega)) : (own_f3_52 x) = (own_f3_59 x))))))))))
  have w0 : (own_f5_0 x (0 : Int32)) = (0 : Int32) := ((if_neg (own_nlt (45) (by decide) (by omega)) : (own_f5_0 x (0 : Int32)) = (own_f5_8 x (0 : Int32)))).trans ((if_pos (own_gt (46) (by decide) (by omega)) : (own_f5_8 x (0 : Int32)) = (own_f5_20 x (0 : Int32))))
  have w1 : (own_f5_0 x (1 : Int32)) = (0 : Int32) := ((if_neg (own_nlt (48) (by decide) (by omega)) : (own_f5_0 x (1 : Int32)) = (own_f5_8 x (1 : Int32)))).trans ((if_pos (own_gt (57) (by decide) (by omega)) : (own_f5_8 x (1 : Int32)) = (own_f5_20 x (1 : Int32))))
  have w2 : (own_f5_0 x (2 : Int32)) = (0 : Int32) := ((if_neg (own_nlt (183) (by decide) (by omega)) : (own_f5_0 x (2 : Int32)) = (own_f5_8 x (2 : Int32)))).trans ((if_pos (own_gt (183) (by decide) (by omega)) : (own_f5_8 x (2 : Int32)) = (own_f5_20 x (2 : Int32))))
  have w3 : (own_f5_0 x (3 : Int32)) = (0 : Int32) := ((if_neg (own_nlt (768) (by decide) (by omega)) : (own_f5_0 x (3 : Int32)) = (own_f5_8 x (3 : Int32)))).trans ((if_pos (own_gt (879) (by decide) (by omega)) : (own_f5_8 x (3 : Int32)) = (own_f5_20 x (3 : Int32))))
  have w4 : (own_f5_0 x (4 : Int32)) = (1 : Int32) := ((if_neg (own_nlt (8255) (by decide) (by omega)) : (own_f5_0 x (4 : Int32)) = (own_f5_8 x (4 : Int32)))).trans ((if_neg (own_ngt (8256) (by decide) (by omega)) : (own_f5_8 x (4 : Int32)) = (own_f5_16 x (4 : Int32))))
  have i : own_f4_0 x = (1 : Int32) := ((if_pos w0 : (own_f4_0 x) = (own_f4_8 x))).trans (((if_pos w1 : (own_f4_8 x) = (own_f4_16 x))).trans (((if_pos w2 : (own_f4_16 x) = (own_f4_24 x))).trans (((if_pos w3 : (own_f4_24 x) = (own_f4_32 x))).trans ((if_neg (fun q => absurd (w4.symm.trans q) (by decide)) : (own_f4_32 x) = (own_f4_40 x))))))
  have z : own_f6_0 x = (0 : Int32) := ((if_neg (own_nlt (65) (by decide) (by omega)) : (own_f6_0 x) = (own_f6_6 x))).trans (((if_pos (own_gt (90) (by decide) (by omega)) : (own_f6_6 x) = (own_f6_12 x))).trans (((if_neg (own_ineq (95) (by decide) (by omega)) : (own_f6_12 x) = (own_f6_18 x))).trans (((if_neg (own_nlt (97) (by decide) (by omega)) : (own_f6_18 x) = (own_f6_24 x))).trans (((if_pos (own_gt (122) (by decide) (by omega)) : (own_f6_24 x) = (own_f6_30 x))).trans (((if_neg (own_nlt (192) (by decide) (by omega)) : (own_f6_30 x) = (own_f6_37 x))).trans (((if_pos (own_gt (214) (by decide) (by omega)) : (own_f6_37 x) = (own_f6_44 x))).trans (((if_neg (own_nlt (216) (by decide) (by omega)) : (own_f6_44 x) = (own_f6_51 x))).trans (((if_pos (own_gt (246) (by decide) (by omega)) : (own_f6_51 x) = (own_f6_58 x))).trans (((if_neg (own_nlt (248) (by decide) (by omega)) : (own_f6_58 x) = (own_f6_65 x))).trans (((if_pos (own_gt (767) (by decide) (by omega)) : (own_f6_65 x) = (own_f6_72 x))).trans (((if_neg (own_nlt (880) (by decide) (by omega)) : (own_f6_72 x) = (own_f6_79 x))).trans (((if_pos (own_gt (893) (by decide) (by omega)) : (own_f6_79 x) = (own_f6_86 x))).trans (((if_neg (own_nlt (895) (by decide) (by omega)) : (own_f6_86 x) = (own_f6_93 x))).trans (((if_pos (own_gt (8191) (by decide) (by omega)) : (own_f6_93 x) = (own_f6_100 x))).trans (((if_neg (own_nlt (8204) (by decide) (by omega)) : (own_f6_100 x) = (own_f6_107 x))).trans (((if_pos (own_gt (8205) (by decide) (by omega)) : (own_f6_107 x) = (own_f6_114 x))).trans (((if_pos (own_lt (8304) (by decide) (by omega)) : (own_f6_114 x) = (own_f6_128 x))).trans (((if_pos (own_lt (11264) (by decide) (by omega)) : (own_f6_128 x) = (own_f6_142 x))).trans (((if_pos (own_lt (12289) (by decide) (by omega)) : (own_f6_142 x) = (own_f6_155 x))).trans (((if_pos (own_lt (63744) (by decide) (by omega)) : (own_f6_155 x) = (own_f6_167 x))).trans (((if_pos (own_lt (65008) (by decide) (by omega)) : (own_f6_167 x) = (own_f6_179 x))).trans ((if_pos (own_lt (65536) (by decide) (by omega)) : (own_f6_179 x) = (own_f6_195 x))))))))))))))))))))))))
  exact ⟨g.trans i.symm, Or.inr ⟨g, z⟩⟩
theorem own_all_11 {x : Int32} (h1 : 8257 ≤ x.toInt) (h2 : x.toInt ≤ 2147483647) : own_f3_0 x = own_f4_0 x ∧ (own_f3_0 x = 0 ∨ (own_f3_0 x = 1 ∧ own_f6_0 x = 0)) := by
  have g : own_f3_0 x = (0 : Int32) := ((if_neg (own_ineq (45) (by decide) (by omega)) : (own_f3_0 x) = (own_f3_6 x))).trans (((if_neg (own_ineq (46) (by decide) (by omega)) : (own_f3_6 x) = (own_f3_12 x))).trans (((if_neg (own_nlt (48) (by decide) (by omega)) : (own_f3_12 x) = (own_f3_18 x))).trans (((if_pos (own_gt (57) (by decide) (by omega)) : (own_f3_18 x) = (own_f3_24 x))).trans (((if_neg (own_ineq (183) (by decide) (by omega)) : (own_f3_24 x) = (own_f3_31 x))).trans (((if_neg (own_nlt (768) (by decide) (by omega)) : (own_f3_31 x) = (own_f3_38 x))).trans (((if_pos (own_gt (879) (by decide) (by omega)) : (own_f3_38 x) = (own_f3_45 x))).trans (((if_neg (own_nlt (8255) (by decide) (by omega)) : (own_f3_45 x) = (own_f3_52 x))).trans ((if_pos (own_gt (8256) (by decide) (by omega)) : (own_f3_52 x) = (own_f3_63 x))))))))))
  have w0 : (own_f5_0 x (0 : Int32)) = (0 : Int32) := ((if_neg (own_nlt (45) (by decide) (by omega)) : (own_f5_0 x (0 : Int32)) = (own_f5_8 x (0 : Int32)))).trans ((if_pos (own_gt (46) (by decide) (by omega)) : (own_f5_8 x (0 : Int32)) = (own_f5_20 x (0 : Int32))))
  have w1 : (own_f5_0 x (1 : Int32)) = (0 : Int32) := ((if_neg (own_nlt (48) (by decide) (by omega)) : (own_f5_0 x (1 : Int32)) = (own_f5_8 x (1 : Int32)))).trans ((if_pos (own_gt (57) (by decide) (by omega)) : (own_f5_8 x (1 : Int32)) = (own_f5_20 x (1 : Int32))))
  have w2 : (own_f5_0 x (2 : Int32)) = (0 : Int32) := ((if_neg (own_nlt (183) (by decide) (by omega)) : (own_f5_0 x (2 : Int32)) = (own_f5_8 x (2 : Int32)))).trans ((if_pos (own_gt (183) (by decide) (by omega)) : (own_f5_8 x (2 : Int32)) = (own_f5_20 x (2 : Int32))))
  have w3 : (own_f5_0 x (3 : Int32)) = (0 : Int32) := ((if_neg (own_nlt (768) (by decide) (by omega)) : (own_f5_0 x (3 : Int32)) = (own_f5_8 x (3 : Int32)))).trans ((if_pos (own_gt (879) (by decide) (by omega)) : (own_f5_8 x (3 : Int32)) = (own_f5_20 x (3 : Int32))))
  have w4 : (own_f5_0 x (4 : Int32)) = (0 : Int32) := ((if_neg (own_nlt (8255) (by decide) (by omega)) : (own_f5_0 x (4 : Int32)) = (own_f5_8 x (4 : Int32)))).trans ((if_pos (own_gt (8256) (by decide) (by omega)) : (own_f5_8 x (4 : Int32)) = (own_f5_20 x (4 : Int32))))
  have i : own_f4_0 x = (0 : Int32) := ((if_pos w0 : (own_f4_0 x) = (own_f4_8 x))).trans (((if_pos w1 : (own_f4_8 x) = (own_f4_16 x))).trans (((if_pos w2 : (own_f4_16 x) = (own_f4_24 x))).trans (((if_pos w3 : (own_f4_24 x) = (own_f4_32 x))).trans ((if_pos w4 : (own_f4_32 x) = (own_f4_44 x))))))
  exact ⟨g.trans i.symm, Or.inl g⟩
theorem own_all (x : Int32) : own_f3_0 x = own_f4_0 x ∧ (own_f3_0 x = 0 ∨ (own_f3_0 x = 1 ∧ own_f6_0 x = 0)) := by
  have h0 : (-2147483648 : Int) ≤ x.toInt := (rng32 x).1
  have hN : x.toInt < 2147483648 := (rng32 x).2
  by_cases h1 : x.toInt ≤ 44
  · exact own_all_0 (by omega) h1
  by_cases h2 : x.toInt ≤ 45
  · exact own_all_1 (by omega) h2
  by_cases h3 : x.toInt ≤ 46
  · exact own_all_2 (by omega) h3
  by_cases h4 : x.toInt ≤ 47
  · exact own_all_3 (by omega) h4
  by_cases h5 : x.toInt ≤ 57
  · exact own_all_4 (by omega) h5
  by_cases h6 : x.toInt ≤ 182
  · exact own_all_5 (by omega) h6
  by_cases h7 : x.toInt ≤ 183
  · exact own_all_6 (by omega) h7
  by_cases h8 : x.toInt ≤ 767
  · exact own_all_7 (by omega) h8
  by_cases h9 : x.toInt ≤ 879
  · exact own_all_8 (by omega) h9
  by_cases h10 : x.toInt ≤ 8254
  · exact own_all_9 (by omega) h10
  by_cases h11 : x.toInt ≤ 8256
  · exact own_all_10 (by omega) h11
  exact own_all_11 (by omega) (by omega)
theorem own_in_0 {x : Int32} (h1 : 45 ≤ x.toInt) (h2 : x.toInt ≤ 46) : own_f3_0 x = 1 := by
  by_cases h : x.toInt ≤ 45
  · exact (if_pos (own_ieq (45) (by decide) (by omega)) : (own_f3_0 x) = (own_f3_59 x))
  exact ((if_neg (own_ineq (45) (by decide) (by omega)) : (own_f3_0 x) = (own_f3_6 x))).trans ((if_pos (own_ieq (46) (by decide) (by omega)) : (own_f3_6 x) = (own_f3_59 x)))
theorem own_in_1 {x : Int32} (h1 : 48 ≤ x.toInt) (h2 : x.toInt ≤ 57) : own_f3_0 x = 1 := by
  exact ((if_neg (own_ineq (45) (by decide) (by omega)) : (own_f3_0 x) = (own_f3_6 x))).trans (((if_neg (own_ineq (46) (by decide) (by omega)) : (own_f3_6 x) = (own_f3_12 x))).trans (((if_neg (own_nlt (48) (by decide) (by omega)) : (own_f3_12 x) = (own_f3_18 x))).trans ((if_neg (own_ngt (57) (by decide) (by omega)) : (own_f3_18 x) = (own_f3_59 x)))))
theorem own_in_2 {x : Int32} (h1 : 183 ≤ x.toInt) (h2 : x.toInt ≤ 183) : own_f3_0 x = 1 := by
  exact ((if_neg (own_ineq (45) (by decide) (by omega)) : (own_f3_0 x) = (own_f3_6 x))).trans (((if_neg (own_ineq (46) (by decide) (by omega)) : (own_f3_6 x) = (own_f3_12 x))).trans (((if_neg (own_nlt (48) (by decide) (by omega)) : (own_f3_12 x) = (own_f3_18 x))).trans (((if_pos (own_gt (57) (by decide) (by omega)) : (own_f3_18 x) = (own_f3_24 x))).trans ((if_pos (own_ieq (183) (by decide) (by omega)) : (own_f3_24 x) = (own_f3_59 x))))))
theorem own_in_3 {x : Int32} (h1 : 768 ≤ x.toInt) (h2 : x.toInt ≤ 879) : own_f3_0 x = 1 := by
  exact ((if_neg (own_ineq (45) (by decide) (by omega)) : (own_f3_0 x) = (own_f3_6 x))).trans (((if_neg (own_ineq (46) (by decide) (by omega)) : (own_f3_6 x) = (own_f3_12 x))).trans (((if_neg (own_nlt (48) (by decide) (by omega)) : (own_f3_12 x) = (own_f3_18 x))).trans (((if_pos (own_gt (57) (by decide) (by omega)) : (own_f3_18 x) = (own_f3_24 x))).trans (((if_neg (own_ineq (183) (by decide) (by omega)) : (own_f3_24 x) = (own_f3_31 x))).trans (((if_neg (own_nlt (768) (by decide) (by omega)) : (own_f3_31 x) = (own_f3_38 x))).trans ((if_neg (own_ngt (879) (by decide) (by omega)) : (own_f3_38 x) = (own_f3_59 x))))))))
theorem own_in_4 {x : Int32} (h1 : 8255 ≤ x.toInt) (h2 : x.toInt ≤ 8256) : own_f3_0 x = 1 := by
  exact ((if_neg (own_ineq (45) (by decide) (by omega)) : (own_f3_0 x) = (own_f3_6 x))).trans (((if_neg (own_ineq (46) (by decide) (by omega)) : (own_f3_6 x) = (own_f3_12 x))).trans (((if_neg (own_nlt (48) (by decide) (by omega)) : (own_f3_12 x) = (own_f3_18 x))).trans (((if_pos (own_gt (57) (by decide) (by omega)) : (own_f3_18 x) = (own_f3_24 x))).trans (((if_neg (own_ineq (183) (by decide) (by omega)) : (own_f3_24 x) = (own_f3_31 x))).trans (((if_neg (own_nlt (768) (by decide) (by omega)) : (own_f3_31 x) = (own_f3_38 x))).trans (((if_pos (own_gt (879) (by decide) (by omega)) : (own_f3_38 x) = (own_f3_45 x))).trans (((if_neg (own_nlt (8255) (by decide) (by omega)) : (own_f3_45 x) = (own_f3_52 x))).trans ((if_neg (own_ngt (8256) (by decide) (by omega)) : (own_f3_52 x) = (own_f3_59 x))))))))))
theorem own_five (i : Int32) (h1 : 0 ≤ i.toInt) (h2 : i.toInt < 5) : i = 0 ∨ i = 1 ∨ i = 2 ∨ i = 3 ∨ i = 4 := by
  have q : ∀ k : Int32, i.toInt = k.toInt → i = k := fun k => Int32.toInt_inj.mp
  have h3 : i.toInt = 0 ∨ i.toInt = 1 ∨ i.toInt = 2 ∨ i.toInt = 3 ∨ i.toInt = 4 := by omega
  rcases h3 with h | h | h | h | h
  · exact Or.inl (q 0 h)
  · exact Or.inr (Or.inl (q 1 h))
  · exact Or.inr (Or.inr (Or.inl (q 2 h)))
  · exact Or.inr (Or.inr (Or.inr (Or.inl (q 3 h))))
  · exact Or.inr (Or.inr (Or.inr (Or.inr (q 4 h))))
theorem own_D0 (i : Int32) (h1 : 0 ≤ i.toInt) (h2 : i.toInt < 5) : own_f3_0 (own_f1_0 i - 1) = 0 := by
  rcases own_five i h1 h2 with rfl | rfl | rfl | rfl | rfl <;> decide +kernel
theorem own_D1 (i : Int32) (h1 : 0 ≤ i.toInt) (h2 : i.toInt < 5) : own_f3_0 (own_f2_0 i + 1) = 0 := by
  rcases own_five i h1 h2 with rfl | rfl | rfl | rfl | rfl <;> decide +kernel
theorem own_Dz (i : Int32) (h1 : 0 ≤ i.toInt) (h2 : i.toInt < 5) : ((own_f2_0 i - own_f1_0 i) + 1) ≠ 0 := by
  rcases own_five i h1 h2 with rfl | rfl | rfl | rfl | rfl <;> decide +kernel
theorem own_D2 (i o : Int32) (h1 : 0 ≤ i.toInt) (h2 : i.toInt < 5) : own_f3_0 (own_f1_0 i + (o &&& 2147483647) % ((own_f2_0 i - own_f1_0 i) + 1)) = 1 := by
  rcases own_five i h1 h2 with rfl | rfl | rfl | rfl | rfl
  · have r := own_modpos o (((own_f2_0 0) - (own_f1_0 0)) + 1) 2 (by decide +kernel) (by decide)
    have a := c_iadd (own_f1_0 0) ((o &&& 2147483647) % (((own_f2_0 0) - (own_f1_0 0)) + 1))
    have k : (own_f1_0 0).toInt = 45 := by decide +kernel
    have g := rng32 ((own_f1_0 0) + ((o &&& 2147483647) % (((own_f2_0 0) - (own_f1_0 0)) + 1)))
    exact own_in_0 (by omega) (by omega)
  · have r := own_modpos o (((own_f2_0 1) - (own_f1_0 1)) + 1) 10 (by decide +kernel) (by decide)
    have a := c_iadd (own_f1_0 1) ((o &&& 2147483647) % (((own_f2_0 1) - (own_f1_0 1)) + 1))
    have k : (own_f1_0 1).toInt = 48 := by decide +kernel
    have g := rng32 ((own_f1_0 1) + ((o &&& 2147483647) % (((own_f2_0 1) - (own_f1_0 1)) + 1)))
    exact own_in_1 (by omega) (by omega)
  · have r := own_modpos o (((own_f2_0 2) - (own_f1_0 2)) + 1) 1 (by decide +kernel) (by decide)
    have a := c_iadd (own_f1_0 2) ((o &&& 2147483647) % (((own_f2_0 2) - (own_f1_0 2)) + 1))
    have k : (own_f1_0 2).toInt = 183 := by decide +kernel
    have g := rng32 ((own_f1_0 2) + ((o &&& 2147483647) % (((own_f2_0 2) - (own_f1_0 2)) + 1)))
    exact own_in_2 (by omega) (by omega)
  · have r := own_modpos o (((own_f2_0 3) - (own_f1_0 3)) + 1) 112 (by decide +kernel) (by decide)
    have a := c_iadd (own_f1_0 3) ((o &&& 2147483647) % (((own_f2_0 3) - (own_f1_0 3)) + 1))
    have k : (own_f1_0 3).toInt = 768 := by decide +kernel
    have g := rng32 ((own_f1_0 3) + ((o &&& 2147483647) % (((own_f2_0 3) - (own_f1_0 3)) + 1)))
    exact own_in_3 (by omega) (by omega)
  · have r := own_modpos o (((own_f2_0 4) - (own_f1_0 4)) + 1) 2 (by decide +kernel) (by decide)
    have a := c_iadd (own_f1_0 4) ((o &&& 2147483647) % (((own_f2_0 4) - (own_f1_0 4)) + 1))
    have k : (own_f1_0 4).toInt = 8255 := by decide +kernel
    have g := rng32 ((own_f1_0 4) + ((o &&& 2147483647) % (((own_f2_0 4) - (own_f1_0 4)) + 1)))
    exact own_in_4 (by omega) (by omega)
theorem own_ef0 (x0 : Int32) (x1 : Int32) (x2 : Int32) (x3 : Int32) : ∀ m, entryFrame m #[(.int x0), (.int x1), (.int x2), (.int x3)] maxLocals = mkF m 0 #[.val (.int x0), .val (.int x1), .val (.int x2), .val (.int x3), .unset, .unset, .unset, .unset, .unset, .unset, .unset, .unset, .unset, .unset, .unset, .unset, .unset] [] := fun m => by first | (simp [entryFrame, mkF, argsToLocals, Value.category, maxLocals]; done) | rfl
theorem own_pd2 : parseMethodDescriptor "(I)Z" = some ⟨[.int], some .boolean⟩ := by decide +kernel
def own_Q0 (n0 : Nat) (v : Option Value) (h : Heap) (L : List Loc) : Prop := v = some (.int 1) ∧ Fr n0 L
set_option maxRecDepth 65536 in
set_option maxHeartbeats 40000000 in
theorem own_law {l : Launch} {p : Program} {e : Env} {below : List Frame} {s : State} {m : MethodId} {meth : Method} {c : Code} {Z : State} {a0 args : Array Value} {T : State} {h0 : Heap} (X : Stand p l e room_1 s m args below meth c T [] 0 0) (C : own_Ctx p s m meth c Z a0 tables_1 x code maxLocals ret) (hh : T.heap = h0) (x0 : Int32) (x1 : Int32) (x2 : Int32) (x3 : Int32) (n0 : Nat) (Z0 : n0 ≤ h0.size) :
    own_Fin p e below s (own_Q0 n0) room_1.cells room_1.slots (T.setTop (mkF m 0 #[.val (.int x0), .val (.int x1), .val (.int x2), .val (.int x3), .unset, .unset, .unset, .unset, .unset, .unset, .unset, .unset, .unset, .unset, .unset, .unset, .unset] [])) := by
  obtain ⟨hx, hby, hml, hZ, hown, hnm, hret, hlk, hw⟩ := id C
  show own_Fin p e below s (own_Q0 n0) room_1.cells room_1.slots (T.setTop (mkF m 0 #[.val (.int x0), .val (.int x1), .val (.int x2), .val (.int x3), .unset, .unset, .unset, .unset, .unset, .unset, .unset, .unset, .unset, .unset, .unset, .unset, .unset] []))
  refine own_go (fun t => XS.iloadN X.here hx rfl (hb hby at_0) rfl) ?_
  show own_Fin p e below s (own_Q0 n0) room_1.cells room_1.slots (T.setTop (mkF m 1 #[.val (.int x0), .val (.int x1), .val (.int x2), .val (.int x3), .unset, .unset, .unset, .unset, .unset, .unset, .unset, .unset, .unset, .unset, .unset, .unset, .unset] [(.int x1)]))
  refine own_go (fun t => X.ldcInt hx hown (mvT hZ (hw _ (List.mem_of_getElem? (i := 0) rfl))) (g := (mkF m 1 #[.val (.int x0), .val (.int x1), .val (.int x2), .val (.int x3), .unset, .unset, .unset, .unset, .unset, .unset, .unset, .unset, .unset, .unset, .unset, .unset, .unset] [(.int x1)])) rfl (hb hby at_1) t) ?_
  show own_Fin p e below s (own_Q0 n0) room_1.cells room_1.slots (T.setTop (mkF m 3 #[.val (.int x0), .val (.int x1), .val (.int x2), .val (.int x3), .unset, .unset, .unset, .unset, .unset, .unset, .unset, .unset, .unset, .unset, .unset, .unset, .unset] [(.int (2147483647 : Int32)), (.int x1)]))
  refine own_go (fun t => XS.iand X.here hx rfl (hb hby at_3) rfl) ?_
  show own_Fin p e below s (own_Q0 n0) room_1.cells room_1.slots (T.setTop (mkF m 4 #[.val (.int x0), .val (.int x1), .val (.int x2), .val (.int x3), .unset, .unset, .unset, .unset, .unset, .unset, .unset, .unset, .unset, .unset, .unset, .unset, .unset] [(.int (x1 &&& (2147483647 : Int32)))]))
  refine own_go (fun t => XS.iconst X.here hx rfl (hb hby at_4)) ?_
  show own_Fin p e below s (own_Q0 n0) room_1.cells room_1.slots (T.setTop (mkF m 5 #[.val (.int x0), .val (.int x1), .val (.int x2), .val (.int x3), .unset, .unset, .unset, .unset, .unset, .unset, .unset, .unset, .unset, .unset, .unset, .unset, .unset] [(.int (5 : Int32)), (.int (x1 &&& (2147483647 : Int32)))]))
  refine own_go (fun t => Jvm.RoadKit.iremM X hx rfl (hb hby at_5) rfl (by decide)) ?_
  show own_Fin p e below s (own_Q0 n0) room_1.cells room_1.slots (T.setTop (mkF m 6 #[.val (.int x0), .val (.int x1), .val (.int x2), .val (.int x3), .unset, .unset, .unset, .unset, .unset, .unset, .unset, .unset, .unset, .unset, .unset, .unset, .unset] [(.int ((x1 &&& (2147483647 : Int32)) % (5 : Int32)))]))
  have hi := own_modpos x1 5 5 (by decide) (by decide)
  generalize ((x1 &&& (2147483647 : Int32)) % (5 : Int32)) = i at hi ⊢
  show own_Fin p e below s (own_Q0 n0) room_1.cells room_1.slots (T.setTop (mkF m 6 #[.val (.int x0), .val (.int x1), .val (.int x2), .val (.int x3), .unset, .unset, .unset, .unset, .unset, .unset, .unset, .unset, .unset, .unset, .unset, .unset, .unset] [(.int i)]))
  refine own_go (fun t => XS.istore X.here hx rfl (hb hby at_6) rfl (l' := #[.val (.int x0), .val (.int x1), .val (.int x2), .val (.int x3), .val (.int i), .unset, .unset, .unset, .unset, .unset, .unset, .unset, .unset, .unset, .unset, .unset, .unset]) rfl) ?_
  show own_Fin p e below s (own_Q0 n0) room_1.cells room_1.slots (T.setTop (mkF m 8 #[.val (.int x0), .val (.int x1), .val (.int x2), .val (.int x3), .val (.int i), .unset, .unset, .unset, .unset, .unset, .unset, .unset, .unset, .unset, .unset, .unset, .unset] []))
  refine own_go (fun t => XS.iload X.here hx rfl (hb hby at_8) rfl) ?_
  show own_Fin p e below s (own_Q0 n0) room_1.cells room_1.slots (T.setTop (mkF m 10 #[.val (.int x0), .val (.int x1), .val (.int x2), .val (.int x3), .val (.int i), .unset, .unset, .unset, .unset, .unset, .unset, .unset, .unset, .unset, .unset, .unset, .unset] [(.int i)]))
  obtain ⟨T1, X1, e1, st1⟩ := own_callP X hx hZ hh (y := (⟨"com/example/dovetail/dovetail/xml/XmlNamesMayGoOnPinLaw", "lowOf", "(I)I"⟩ : MethodName)) hown (hw _ (List.mem_of_getElem? (i := 1) rfl)) (hw _ (List.mem_of_getElem? (i := 2) rfl)) (hw _ (List.mem_of_getElem? (i := 3) rfl)) (hw _ (List.mem_of_getElem? (i := 4) rfl)) (by decide) (argsL := [(.int i)]) (rest := []) (own_c1 l Z a0 hw i _) (by decide) 0 (by decide) (by decide) (by decide) (g := (mkF m 10 #[.val (.int x0), .val (.int x1), .val (.int x2), .val (.int x3), .val (.int i), .unset, .unset, .unset, .unset, .unset, .unset, .unset, .unset, .unset, .unset, .unset, .unset] [(.int i)])) rfl (by rw [hml]; rfl) (lenOf own_pd0 rfl) rfl (by show 2 * 0 + _ ≤ _; exact Nat.le_of_eq rfl) (hb hby at_10)
  refine own_go st1 ?_
  show own_Fin p e below s (own_Q0 n0) room_1.cells room_1.slots (T1.setTop (mkF m 13 #[.val (.int x0), .val (.int x1), .val (.int x2), .val (.int x3), .val (.int i), .unset, .unset, .unset, .unset, .unset, .unset, .unset, .unset, .unset, .unset, .unset, .unset] [(.int (own_f1_0 i))]))
  refine own_go (fun t => XS.istore X1.here hx rfl (hb hby at_13) rfl (l' := #[.val (.int x0), .val (.int x1), .val (.int x2), .val (.int x3), .val (.int i), .val (.int (own_f1_0 i)), .unset, .unset, .unset, .unset, .unset, .unset, .unset, .unset, .unset, .unset, .unset]) rfl) ?_
  show own_Fin p e below s (own_Q0 n0) room_1.cells room_1.slots (T1.setTop (mkF m 15 #[.val (.int x0), .val (.int x1), .val (.int x2), .val (.int x3), .val (.int i), .val (.int (own_f1_0 i)), .unset, .unset, .unset, .unset, .unset, .unset, .unset, .unset, .unset, .unset, .unset] []))
  refine own_go (fun t => XS.iload X1.here hx rfl (hb hby at_15) rfl) ?_
  show own_Fin p e below s (own_Q0 n0) room_1.cells room_1.slots (T1.setTop (mkF m 17 #[.val (.int x0), .val (.int x1), .val (.int x2), .val (.int x3), .val (.int i), .val (.int (own_f1_0 i)), .unset, .unset, .unset, .unset, .unset, .unset, .unset, .unset, .unset, .unset, .unset] [(.int i)]))
  obtain ⟨T2, X2, e2, st2⟩ := own_callP X1 hx hZ e1 (y := (⟨"com/example/dovetail/dovetail/xml/XmlNamesMayGoOnPinLaw", "highOf", "(I)I"⟩ : MethodName)) hown (hw _ (List.mem_of_getElem? (i := 5) rfl)) (hw _ (List.mem_of_getElem? (i := 6) rfl)) (hw _ (List.mem_of_getElem? (i := 3) rfl)) (hw _ (List.mem_of_getElem? (i := 7) rfl)) (by decide) (argsL := [(.int i)]) (rest := []) (own_c2 l Z a0 hw i _) (by decide) 0 (by decide) (by decide) (by decide) (g := (mkF m 17 #[.val (.int x0), .val (.int x1), .val (.int x2), .val (.int x3), .val (.int i), .val (.int (own_f1_0 i)), .unset, .unset, .unset, .unset, .unset, .unset, .unset, .unset, .unset, .unset, .unset] [(.int i)])) rfl (by rw [hml]; rfl) (lenOf own_pd0 rfl) rfl (by show 2 * 0 + _ ≤ _; exact Nat.le_of_eq rfl) (hb hby at_17)
  refine own_go st2 ?_
  show own_Fin p e below s (own_Q0 n0) room_1.cells room_1.slots (T2.setTop (mkF m 20 #[.val (.int x0), .val (.int x1), .val (.int x2), .val (.int x3), .val (.int i), .val (.int (own_f1_0 i)), .unset, .unset, .unset, .unset, .unset, .unset, .unset, .unset, .unset, .unset, .unset] [(.int (own_f2_0 i))]))
  refine own_go (fun t => XS.istore X2.here hx rfl (hb hby at_20) rfl (l' := #[.val (.int x0), .val (.int x1), .val (.int x2), .val (.int x3), .val (.int i), .val (.int (own_f1_0 i)), .val (.int (own_f2_0 i)), .unset, .unset, .unset, .unset, .unset, .unset, .unset, .unset, .unset, .unset]) rfl) ?_
  show own_Fin p e below s (own_Q0 n0) room_1.cells room_1.slots (T2.setTop (mkF m 22 #[.val (.int x0), .val (.int x1), .val (.int x2), .val (.int x3), .val (.int i), .val (.int (own_f1_0 i)), .val (.int (own_f2_0 i)), .unset, .unset, .unset, .unset, .unset, .unset, .unset, .unset, .unset, .unset] []))
  refine own_go (fun t => XS.iload X2.here hx rfl (hb hby at_22) rfl) ?_
  show own_Fin p e below s (own_Q0 n0) room_1.cells room_1.slots (T2.setTop (mkF m 24 #[.val (.int x0), .val (.int x1), .val (.int x2), .val (.int x3), .val (.int i), .val (.int (own_f1_0 i)), .val (.int (own_f2_0 i)), .unset, .unset, .unset, .unset, .unset, .unset, .unset, .unset, .unset, .unset] [(.int (own_f2_0 i))]))
  refine own_go (fun t => XS.iload X2.here hx rfl (hb hby at_24) rfl) ?_
  show own_Fin p e below s (own_Q0 n0) room_1.cells room_1.slots (T2.setTop (mkF m 26 #[.val (.int x0), .val (.int x1), .val (.int x2), .val (.int x3), .val (.int i), .val (.int (own_f1_0 i)), .val (.int (own_f2_0 i)), .unset, .unset, .unset, .unset, .unset, .unset, .unset, .unset, .unset, .unset] [(.int (own_f1_0 i)), (.int (own_f2_0 i))]))
  refine own_go (fun t => XS.isub X2.here hx rfl (hb hby at_26) rfl) ?_
  show own_Fin p e below s (own_Q0 n0) room_1.cells room_1.slots (T2.setTop (mkF m 27 #[.val (.int x0), .val (.int x1), .val (.int x2), .val (.int x3), .val (.int i), .val (.int (own_f1_0 i)), .val (.int (own_f2_0 i)), .unset, .unset, .unset, .unset, .unset, .unset, .unset, .unset, .unset, .unset] [(.int ((own_f2_0 i) - (own_f1_0 i)))]))
  refine own_go (fun t => XS.iconst X2.here hx rfl (hb hby at_27)) ?_
  show own_Fin p e below s (own_Q0 n0) room_1.cells room_1.slots (T2.setTop (mkF m 28 #[.val (.int x0), .val (.int x1), .val (.int x2), .val (.int x3), .val (.int i), .val (.int (own_f1_0 i)), .val (.int (own_f2_0 i)), .unset, .unset, .unset, .unset, .unset, .unset, .unset, .unset, .unset, .unset] [(.int (1 : Int32)), (.int ((own_f2_0 i) - (own_f1_0 i)))]))
  refine own_go (fun t => XS.iadd X2.here hx rfl (hb hby at_28) rfl) ?_
  show own_Fin p e below s (own_Q0 n0) room_1.cells room_1.slots (T2.setTop (mkF m 29 #[.val (.int x0), .val (.int x1), .val (.int x2), .val (.int x3), .val (.int i), .val (.int (own_f1_0 i)), .val (.int (own_f2_0 i)), .unset, .unset, .unset, .unset, .unset, .unset, .unset, .unset, .unset, .unset] [(.int (((own_f2_0 i) - (own_f1_0 i)) + (1 : Int32)))]))
  refine own_go (fun t => XS.istore X2.here hx rfl (hb hby at_29) rfl (l' := #[.val (.int x0), .val (.int x1), .val (.int x2), .val (.int x3), .val (.int i), .val (.int (own_f1_0 i)), .val (.int (own_f2_0 i)), .val (.int (((own_f2_0 i) - (own_f1_0 i)) + (1 : Int32))), .unset, .unset, .unset, .unset, .unset, .unset, .unset, .unset, .unset]) rfl) ?_
  show own_Fin p e below s (own_Q0 n0) room_1.cells room_1.slots (T2.setTop (mkF m 31 #[.val (.int x0), .val (.int x1), .val (.int x2), .val (.int x3), .val (.int i), .val (.int (own_f1_0 i)), .val (.int (own_f2_0 i)), .val (.int (((own_f2_0 i) - (own_f1_0 i)) + (1 : Int32))), .unset, .unset, .unset, .unset, .unset, .unset, .unset, .unset, .unset] []))
  refine own_go (fun t => XS.iloadN X2.here hx rfl (hb hby at_31) rfl) ?_
  show own_Fin p e below s (own_Q0 n0) room_1.cells room_1.slots (T2.setTop (mkF m 32 #[.val (.int x0), .val (.int x1), .val (.int x2), .val (.int x3), .val (.int i), .val (.int (own_f1_0 i)), .val (.int (own_f2_0 i)), .val (.int (((own_f2_0 i) - (own_f1_0 i)) + (1 : Int32))), .unset, .unset, .unset, .unset, .unset, .unset, .unset, .unset, .unset] [(.int x3)]))
  refine own_go (fun t => XS.iconst X2.here hx rfl (hb hby at_32)) ?_
  show own_Fin p e below s (own_Q0 n0) room_1.cells room_1.slots (T2.setTop (mkF m 33 #[.val (.int x0), .val (.int x1), .val (.int x2), .val (.int x3), .val (.int i), .val (.int (own_f1_0 i)), .val (.int (own_f2_0 i)), .val (.int (((own_f2_0 i) - (own_f1_0 i)) + (1 : Int32))), .unset, .unset, .unset, .unset, .unset, .unset, .unset, .unset, .unset] [(.int (3 : Int32)), (.int x3)]))
  refine own_go (fun t => XS.iand X2.here hx rfl (hb hby at_33) rfl) ?_
  show own_Fin p e below s (own_Q0 n0) room_1.cells room_1.slots (T2.setTop (mkF m 34 #[.val (.int x0), .val (.int x1), .val (.int x2), .val (.int x3), .val (.int i), .val (.int (own_f1_0 i)), .val (.int (own_f2_0 i)), .val (.int (((own_f2_0 i) - (own_f1_0 i)) + (1 : Int32))), .unset, .unset, .unset, .unset, .unset, .unset, .unset, .unset, .unset] [(.int (x3 &&& (3 : Int32)))]))
  refine own_go (fun t => XS.istore X2.here hx rfl (hb hby at_34) rfl (l' := #[.val (.int x0), .val (.int x1), .val (.int x2), .val (.int x3), .val (.int i), .val (.int (own_f1_0 i)), .val (.int (own_f2_0 i)), .val (.int (((own_f2_0 i) - (own_f1_0 i)) + (1 : Int32))), .val (.int (x3 &&& (3 : Int32))), .unset, .unset, .unset, .unset, .unset, .unset, .unset, .unset]) rfl) ?_
  show own_Fin p e below s (own_Q0 n0) room_1.cells room_1.slots (T2.setTop (mkF m 36 #[.val (.int x0), .val (.int x1), .val (.int x2), .val (.int x3), .val (.int i), .val (.int (own_f1_0 i)), .val (.int (own_f2_0 i)), .val (.int (((own_f2_0 i) - (own_f1_0 i)) + (1 : Int32))), .val (.int (x3 &&& (3 : Int32))), .unset, .unset, .unset, .unset, .unset, .unset, .unset, .unset] []))
  refine own_go (fun t => XS.iload X2.here hx rfl (hb hby at_36) rfl) ?_
  show own_Fin p e below s (own_Q0 n0) room_1.cells room_1.slots (T2.setTop (mkF m 38 #[.val (.int x0), .val (.int x1), .val (.int x2), .val (.int x3), .val (.int i), .val (.int (own_f1_0 i)), .val (.int (own_f2_0 i)), .val (.int (((own_f2_0 i) - (own_f1_0 i)) + (1 : Int32))), .val (.int (x3 &&& (3 : Int32))), .unset, .unset, .unset, .unset, .unset, .unset, .unset, .unset] [(.int (x3 &&& (3 : Int32)))]))
  have J : ∀ d ex : Int32, own_f3_0 d = ex → own_Fin p e below s (own_Q0 n0) room_1.cells room_1.slots (T2.setTop (mkF m 86 #[.val (.int x0), .val (.int x1), .val (.int x2), .val (.int x3), .val (.int i), .val (.int (own_f1_0 i)), .val (.int (own_f2_0 i)), .val (.int (((own_f2_0 i) - (own_f1_0 i)) + (1 : Int32))), .val (.int (x3 &&& (3 : Int32))), .val (.int d), .val (.int ex), .unset, .unset, .unset, .unset, .unset, .unset] [])) := by
    intro d ex hd
    show own_Fin p e below s (own_Q0 n0) room_1.cells room_1.slots (T2.setTop (mkF m 86 #[.val (.int x0), .val (.int x1), .val (.int x2), .val (.int x3), .val (.int i), .val (.int (own_f1_0 i)), .val (.int (own_f2_0 i)), .val (.int (((own_f2_0 i) - (own_f1_0 i)) + (1 : Int32))), .val (.int (x3 &&& (3 : Int32))), .val (.int d), .val (.int ex), .unset, .unset, .unset, .unset, .unset, .unset] []))
    refine own_go (fun t => XS.iload X2.here hx rfl (hb hby at_86) rfl) ?_
    show own_Fin p e below s (own_Q0 n0) room_1.cells room_1.slots (T2.setTop (mkF m 88 #[.val (.int x0), .val (.int x1), .val (.int x2), .val (.int x3), .val (.int i), .val (.int (own_f1_0 i)), .val (.int (own_f2_0 i)), .val (.int (((own_f2_0 i) - (own_f1_0 i)) + (1 : Int32))), .val (.int (x3 &&& (3 : Int32))), .val (.int d), .val (.int ex), .unset, .unset, .unset, .unset, .unset, .unset] [(.int d)]))
    obtain ⟨T103, X103, e103, st103⟩ := own_callP X2 hx hZ e2 (y := (⟨"com/example/dovetail/dovetail/xml/XmlNames", "mayGoOn", "(I)Z"⟩ : MethodName)) hown (hw _ (List.mem_of_getElem? (i := 8) rfl)) (hw _ (List.mem_of_getElem? (i := 9) rfl)) (hw _ (List.mem_of_getElem? (i := 10) rfl)) (hw _ (List.mem_of_getElem? (i := 11) rfl)) (by decide) (argsL := [(.int d)]) (rest := []) (own_c3 l Z a0 hw d _) (by decide) 0 (by decide) (by decide) (by decide) (g := (mkF m 88 #[.val (.int x0), .val (.int x1), .val (.int x2), .val (.int x3), .val (.int i), .val (.int (own_f1_0 i)), .val (.int (own_f2_0 i)), .val (.int (((own_f2_0 i) - (own_f1_0 i)) + (1 : Int32))), .val (.int (x3 &&& (3 : Int32))), .val (.int d), .val (.int ex), .unset, .unset, .unset, .unset, .unset, .unset] [(.int d)])) rfl (by rw [hml]; rfl) (lenOf own_pd2 rfl) rfl (by show 2 * 0 + _ ≤ _; exact Nat.le_of_eq rfl) (hb hby at_88)
    refine own_go st103 ?_
    show own_Fin p e below s (own_Q0 n0) room_1.cells room_1.slots (T103.setTop (mkF m 91 #[.val (.int x0), .val (.int x1), .val (.int x2), .val (.int x3), .val (.int i), .val (.int (own_f1_0 i)), .val (.int (own_f2_0 i)), .val (.int (((own_f2_0 i) - (own_f1_0 i)) + (1 : Int32))), .val (.int (x3 &&& (3 : Int32))), .val (.int d), .val (.int ex), .unset, .unset, .unset, .unset, .unset, .unset] [(.int (own_f3_0 d))]))
    refine own_go (fun t => XS.istore X103.here hx rfl (hb hby at_91) rfl (l' := #[.val (.int x0), .val (.int x1), .val (.int x2), .val (.int x3), .val (.int i), .val (.int (own_f1_0 i)), .val (.int (own_f2_0 i)), .val (.int (((own_f2_0 i) - (own_f1_0 i)) + (1 : Int32))), .val (.int (x3 &&& (3 : Int32))), .val (.int d), .val (.int ex), .val (.int (own_f3_0 d)), .unset, .unset, .unset, .unset, .unset]) rfl) ?_
    show own_Fin p e below s (own_Q0 n0) room_1.cells room_1.slots (T103.setTop (mkF m 93 #[.val (.int x0), .val (.int x1), .val (.int x2), .val (.int x3), .val (.int i), .val (.int (own_f1_0 i)), .val (.int (own_f2_0 i)), .val (.int (((own_f2_0 i) - (own_f1_0 i)) + (1 : Int32))), .val (.int (x3 &&& (3 : Int32))), .val (.int d), .val (.int ex), .val (.int (own_f3_0 d)), .unset, .unset, .unset, .unset, .unset] []))
    refine own_go (fun t => XS.iload X103.here hx rfl (hb hby at_93) rfl) ?_
    show own_Fin p e below s (own_Q0 n0) room_1.cells room_1.slots (T103.setTop (mkF m 95 #[.val (.int x0), .val (.int x1), .val (.int x2), .val (.int x3), .val (.int i), .val (.int (own_f1_0 i)), .val (.int (own_f2_0 i)), .val (.int (((own_f2_0 i) - (own_f1_0 i)) + (1 : Int32))), .val (.int (x3 &&& (3 : Int32))), .val (.int d), .val (.int ex), .val (.int (own_f3_0 d)), .unset, .unset, .unset, .unset, .unset] [(.int (own_f3_0 d))]))
    refine own_go (fun t => XS.iload X103.here hx rfl (hb hby at_95) rfl) ?_
    show own_Fin p e below s (own_Q0 n0) room_1.cells room_1.slots (T103.setTop (mkF m 97 #[.val (.int x0), .val (.int x1), .val (.int x2), .val (.int x3), .val (.int i), .val (.int (own_f1_0 i)), .val (.int (own_f2_0 i)), .val (.int (((own_f2_0 i) - (own_f1_0 i)) + (1 : Int32))), .val (.int (x3 &&& (3 : Int32))), .val (.int d), .val (.int ex), .val (.int (own_f3_0 d)), .unset, .unset, .unset, .unset, .unset] [(.int ex), (.int (own_f3_0 d))]))
    refine own_go (fun t => XS.icmpNo X103.here hx rfl (hb hby at_97) rfl (teq hd).2) ?_
    show own_Fin p e below s (own_Q0 n0) room_1.cells room_1.slots (T103.setTop (mkF m 100 #[.val (.int x0), .val (.int x1), .val (.int x2), .val (.int x3), .val (.int i), .val (.int (own_f1_0 i)), .val (.int (own_f2_0 i)), .val (.int (((own_f2_0 i) - (own_f1_0 i)) + (1 : Int32))), .val (.int (x3 &&& (3 : Int32))), .val (.int d), .val (.int ex), .val (.int (own_f3_0 d)), .unset, .unset, .unset, .unset, .unset] []))
    refine own_go (fun t => XS.iconst X103.here hx rfl (hb hby at_100)) ?_
    show own_Fin p e below s (own_Q0 n0) room_1.cells room_1.slots (T103.setTop (mkF m 101 #[.val (.int x0), .val (.int x1), .val (.int x2), .val (.int x3), .val (.int i), .val (.int (own_f1_0 i)), .val (.int (own_f2_0 i)), .val (.int (((own_f2_0 i) - (own_f1_0 i)) + (1 : Int32))), .val (.int (x3 &&& (3 : Int32))), .val (.int d), .val (.int ex), .val (.int (own_f3_0 d)), .unset, .unset, .unset, .unset, .unset] [(.int (1 : Int32))]))
    refine own_go (fun t => XS.goto X103.here hx rfl (pc0 := 101) (pc' := 105) rfl (hb hby at_101) (by decide) (by decide)) ?_
    show own_Fin p e below s (own_Q0 n0) room_1.cells room_1.slots (T103.setTop (mkF m 105 #[.val (.int x0), .val (.int x1), .val (.int x2), .val (.int x3), .val (.int i), .val (.int (own_f1_0 i)), .val (.int (own_f2_0 i)), .val (.int (((own_f2_0 i) - (own_f1_0 i)) + (1 : Int32))), .val (.int (x3 &&& (3 : Int32))), .val (.int d), .val (.int ex), .val (.int (own_f3_0 d)), .unset, .unset, .unset, .unset, .unset] [(.int (1 : Int32))]))
    refine own_go (fun t => XS.istore X103.here hx rfl (hb hby at_105) rfl (l' := #[.val (.int x0), .val (.int x1), .val (.int x2), .val (.int x3), .val (.int i), .val (.int (own_f1_0 i)), .val (.int (own_f2_0 i)), .val (.int (((own_f2_0 i) - (own_f1_0 i)) + (1 : Int32))), .val (.int (x3 &&& (3 : Int32))), .val (.int d), .val (.int ex), .val (.int (own_f3_0 d)), .val (.int (1 : Int32)), .unset, .unset, .unset, .unset]) rfl) ?_
    show own_Fin p e below s (own_Q0 n0) room_1.cells room_1.slots (T103.setTop (mkF m 107 #[.val (.int x0), .val (.int x1), .val (.int x2), .val (.int x3), .val (.int i), .val (.int (own_f1_0 i)), .val (.int (own_f2_0 i)), .val (.int (((own_f2_0 i) - (own_f1_0 i)) + (1 : Int32))), .val (.int (x3 &&& (3 : Int32))), .val (.int d), .val (.int ex), .val (.int (own_f3_0 d)), .val (.int (1 : Int32)), .unset, .unset, .unset, .unset] []))
    refine own_go (fun t => XS.iload X103.here hx rfl (hb hby at_107) rfl) ?_
    show own_Fin p e below s (own_Q0 n0) room_1.cells room_1.slots (T103.setTop (mkF m 109 #[.val (.int x0), .val (.int x1), .val (.int x2), .val (.int x3), .val (.int i), .val (.int (own_f1_0 i)), .val (.int (own_f2_0 i)), .val (.int (((own_f2_0 i) - (own_f1_0 i)) + (1 : Int32))), .val (.int (x3 &&& (3 : Int32))), .val (.int d), .val (.int ex), .val (.int (own_f3_0 d)), .val (.int (1 : Int32)), .unset, .unset, .unset, .unset] [(.int (own_f3_0 d))]))
    have Ja : ∀ (T' : State), Stand p l e room_1 s m args below meth c T' [] 0 0 → own_Fin p e below s (own_Q0 n0) room_1.cells room_1.slots (T'.setTop (mkF m 127 #[.val (.int x0), .val (.int x1), .val (.int x2), .val (.int x3), .val (.int i), .val (.int (own_f1_0 i)), .val (.int (own_f2_0 i)), .val (.int (((own_f2_0 i) - (own_f1_0 i)) + (1 : Int32))), .val (.int (x3 &&& (3 : Int32))), .val (.int d), .val (.int ex), .val (.int (own_f3_0 d)), .val (.int (1 : Int32)), .val (.int (1 : Int32)), .unset, .unset, .unset] [])) := by
      intro T' X'
      show own_Fin p e below s (own_Q0 n0) room_1.cells room_1.slots (T'.setTop (mkF m 127 #[.val (.int x0), .val (.int x1), .val (.int x2), .val (.int x3), .val (.int i), .val (.int (own_f1_0 i)), .val (.int (own_f2_0 i)), .val (.int (((own_f2_0 i) - (own_f1_0 i)) + (1 : Int32))), .val (.int (x3 &&& (3 : Int32))), .val (.int d), .val (.int ex), .val (.int (own_f3_0 d)), .val (.int (1 : Int32)), .val (.int (1 : Int32)), .unset, .unset, .unset] []))
      refine own_go (fun t => XS.iloadN X'.here hx rfl (hb hby at_127) rfl) ?_
      show own_Fin p e below s (own_Q0 n0) room_1.cells room_1.slots (T'.setTop (mkF m 128 #[.val (.int x0), .val (.int x1), .val (.int x2), .val (.int x3), .val (.int i), .val (.int (own_f1_0 i)), .val (.int (own_f2_0 i)), .val (.int (((own_f2_0 i) - (own_f1_0 i)) + (1 : Int32))), .val (.int (x3 &&& (3 : Int32))), .val (.int d), .val (.int ex), .val (.int (own_f3_0 d)), .val (.int (1 : Int32)), .val (.int (1 : Int32)), .unset, .unset, .unset] [(.int x0)]))
      obtain ⟨T204ja, X204ja, e204ja, st204ja⟩ := own_callP X' hx hZ rfl (y := (⟨"com/example/dovetail/dovetail/xml/XmlNames", "mayGoOn", "(I)Z"⟩ : MethodName)) hown (hw _ (List.mem_of_getElem? (i := 8) rfl)) (hw _ (List.mem_of_getElem? (i := 9) rfl)) (hw _ (List.mem_of_getElem? (i := 10) rfl)) (hw _ (List.mem_of_getElem? (i := 11) rfl)) (by decide) (argsL := [(.int x0)]) (rest := []) (own_c3 l Z a0 hw x0 _) (by decide) 0 (by decide) (by decide) (by decide) (g := (mkF m 128 #[.val (.int x0), .val (.int x1), .val (.int x2), .val (.int x3), .val (.int i), .val (.int (own_f1_0 i)), .val (.int (own_f2_0 i)), .val (.int (((own_f2_0 i) - (own_f1_0 i)) + (1 : Int32))), .val (.int (x3 &&& (3 : Int32))), .val (.int d), .val (.int ex), .val (.int (own_f3_0 d)), .val (.int (1 : Int32)), .val (.int (1 : Int32)), .unset, .unset, .unset] [(.int x0)])) rfl (by rw [hml]; rfl) (lenOf own_pd2 rfl) rfl (by show 2 * 0 + _ ≤ _; exact Nat.le_of_eq rfl) (hb hby at_128)
      refine own_go st204ja ?_
      show own_Fin p e below s (own_Q0 n0) room_1.cells room_1.slots (T204ja.setTop (mkF m 131 #[.val (.int x0), .val (.int x1), .val (.int x2), .val (.int x3), .val (.int i), .val (.int (own_f1_0 i)), .val (.int (own_f2_0 i)), .val (.int (((own_f2_0 i) - (own_f1_0 i)) + (1 : Int32))), .val (.int (x3 &&& (3 : Int32))), .val (.int d), .val (.int ex), .val (.int (own_f3_0 d)), .val (.int (1 : Int32)), .val (.int (1 : Int32)), .unset, .unset, .unset] [(.int (own_f3_0 x0))]))
      refine own_go (fun t => XS.istore X204ja.here hx rfl (hb hby at_131) rfl (l' := #[.val (.int x0), .val (.int x1), .val (.int x2), .val (.int x3), .val (.int i), .val (.int (own_f1_0 i)), .val (.int (own_f2_0 i)), .val (.int (((own_f2_0 i) - (own_f1_0 i)) + (1 : Int32))), .val (.int (x3 &&& (3 : Int32))), .val (.int d), .val (.int ex), .val (.int (own_f3_0 d)), .val (.int (1 : Int32)), .val (.int (1 : Int32)), .val (.int (own_f3_0 x0)), .unset, .unset]) rfl) ?_
      show own_Fin p e below s (own_Q0 n0) room_1.cells room_1.slots (T204ja.setTop (mkF m 133 #[.val (.int x0), .val (.int x1), .val (.int x2), .val (.int x3), .val (.int i), .val (.int (own_f1_0 i)), .val (.int (own_f2_0 i)), .val (.int (((own_f2_0 i) - (own_f1_0 i)) + (1 : Int32))), .val (.int (x3 &&& (3 : Int32))), .val (.int d), .val (.int ex), .val (.int (own_f3_0 d)), .val (.int (1 : Int32)), .val (.int (1 : Int32)), .val (.int (own_f3_0 x0)), .unset, .unset] []))
      refine own_go (fun t => XS.iload X204ja.here hx rfl (hb hby at_133) rfl) ?_
      show own_Fin p e below s (own_Q0 n0) room_1.cells room_1.slots (T204ja.setTop (mkF m 135 #[.val (.int x0), .val (.int x1), .val (.int x2), .val (.int x3), .val (.int i), .val (.int (own_f1_0 i)), .val (.int (own_f2_0 i)), .val (.int (((own_f2_0 i) - (own_f1_0 i)) + (1 : Int32))), .val (.int (x3 &&& (3 : Int32))), .val (.int d), .val (.int ex), .val (.int (own_f3_0 d)), .val (.int (1 : Int32)), .val (.int (1 : Int32)), .val (.int (own_f3_0 x0)), .unset, .unset] [(.int (own_f3_0 x0))]))
      refine own_go (fun t => XS.iloadN X204ja.here hx rfl (hb hby at_135) rfl) ?_
      show own_Fin p e below s (own_Q0 n0) room_1.cells room_1.slots (T204ja.setTop (mkF m 136 #[.val (.int x0), .val (.int x1), .val (.int x2), .val (.int x3), .val (.int i), .val (.int (own_f1_0 i)), .val (.int (own_f2_0 i)), .val (.int (((own_f2_0 i) - (own_f1_0 i)) + (1 : Int32))), .val (.int (x3 &&& (3 : Int32))), .val (.int d), .val (.int ex), .val (.int (own_f3_0 d)), .val (.int (1 : Int32)), .val (.int (1 : Int32)), .val (.int (own_f3_0 x0)), .unset, .unset] [(.int x0), (.int (own_f3_0 x0))]))
      obtain ⟨T205ja, X205ja, e205ja, st205ja⟩ := own_callP X204ja hx hZ e204ja (y := (⟨"com/example/dovetail/dovetail/xml/XmlNamesMayGoOnPinLaw", "inSet", "(I)Z"⟩ : MethodName)) hown (hw _ (List.mem_of_getElem? (i := 12) rfl)) (hw _ (List.mem_of_getElem? (i := 13) rfl)) (hw _ (List.mem_of_getElem? (i := 3) rfl)) (hw _ (List.mem_of_getElem? (i := 14) rfl)) (by decide) (argsL := [(.int x0)]) (rest := [(.int (own_f3_0 x0))]) (own_c4 l Z a0 hw x0 _) (by decide) 1 (by decide) (by decide) (by decide) (g := (mkF m 136 #[.val (.int x0), .val (.int x1), .val (.int x2), .val (.int x3), .val (.int i), .val (.int (own_f1_0 i)), .val (.int (own_f2_0 i)), .val (.int (((own_f2_0 i) - (own_f1_0 i)) + (1 : Int32))), .val (.int (x3 &&& (3 : Int32))), .val (.int d), .val (.int ex), .val (.int (own_f3_0 d)), .val (.int (1 : Int32)), .val (.int (1 : Int32)), .val (.int (own_f3_0 x0)), .unset, .unset] [(.int x0), (.int (own_f3_0 x0))])) rfl (by rw [hml]; rfl) (lenOf own_pd2 rfl) rfl (by show 2 * 0 + _ ≤ _; exact Nat.le_of_eq rfl) (hb hby at_136)
      refine own_go st205ja ?_
      show own_Fin p e below s (own_Q0 n0) room_1.cells room_1.slots (T205ja.setTop (mkF m 139 #[.val (.int x0), .val (.int x1), .val (.int x2), .val (.int x3), .val (.int i), .val (.int (own_f1_0 i)), .val (.int (own_f2_0 i)), .val (.int (((own_f2_0 i) - (own_f1_0 i)) + (1 : Int32))), .val (.int (x3 &&& (3 : Int32))), .val (.int d), .val (.int ex), .val (.int (own_f3_0 d)), .val (.int (1 : Int32)), .val (.int (1 : Int32)), .val (.int (own_f3_0 x0)), .unset, .unset] [(.int (own_f4_0 x0)), (.int (own_f3_0 x0))]))
      refine own_go (fun t => XS.icmpNo X205ja.here hx rfl (hb hby at_139) rfl (teq ((own_all x0).1)).2) ?_
      show own_Fin p e below s (own_Q0 n0) room_1.cells room_1.slots (T205ja.setTop (mkF m 142 #[.val (.int x0), .val (.int x1), .val (.int x2), .val (.int x3), .val (.int i), .val (.int (own_f1_0 i)), .val (.int (own_f2_0 i)), .val (.int (((own_f2_0 i) - (own_f1_0 i)) + (1 : Int32))), .val (.int (x3 &&& (3 : Int32))), .val (.int d), .val (.int ex), .val (.int (own_f3_0 d)), .val (.int (1 : Int32)), .val (.int (1 : Int32)), .val (.int (own_f3_0 x0)), .unset, .unset] []))
      refine own_go (fun t => XS.iconst X205ja.here hx rfl (hb hby at_142)) ?_
      show own_Fin p e below s (own_Q0 n0) room_1.cells room_1.slots (T205ja.setTop (mkF m 143 #[.val (.int x0), .val (.int x1), .val (.int x2), .val (.int x3), .val (.int i), .val (.int (own_f1_0 i)), .val (.int (own_f2_0 i)), .val (.int (((own_f2_0 i) - (own_f1_0 i)) + (1 : Int32))), .val (.int (x3 &&& (3 : Int32))), .val (.int d), .val (.int ex), .val (.int (own_f3_0 d)), .val (.int (1 : Int32)), .val (.int (1 : Int32)), .val (.int (own_f3_0 x0)), .unset, .unset] [(.int (1 : Int32))]))
      refine own_go (fun t => XS.goto X205ja.here hx rfl (pc0 := 143) (pc' := 147) rfl (hb hby at_143) (by decide) (by decide)) ?_
      show own_Fin p e below s (own_Q0 n0) room_1.cells room_1.slots (T205ja.setTop (mkF m 147 #[.val (.int x0), .val (.int x1), .val (.int x2), .val (.int x3), .val (.int i), .val (.int (own_f1_0 i)), .val (.int (own_f2_0 i)), .val (.int (((own_f2_0 i) - (own_f1_0 i)) + (1 : Int32))), .val (.int (x3 &&& (3 : Int32))), .val (.int d), .val (.int ex), .val (.int (own_f3_0 d)), .val (.int (1 : Int32)), .val (.int (1 : Int32)), .val (.int (own_f3_0 x0)), .unset, .unset] [(.int (1 : Int32))]))
      refine own_go (fun t => XS.istore X205ja.here hx rfl (hb hby at_147) rfl (l' := #[.val (.int x0), .val (.int x1), .val (.int x2), .val (.int x3), .val (.int i), .val (.int (own_f1_0 i)), .val (.int (own_f2_0 i)), .val (.int (((own_f2_0 i) - (own_f1_0 i)) + (1 : Int32))), .val (.int (x3 &&& (3 : Int32))), .val (.int d), .val (.int ex), .val (.int (own_f3_0 d)), .val (.int (1 : Int32)), .val (.int (1 : Int32)), .val (.int (own_f3_0 x0)), .val (.int (1 : Int32)), .unset]) rfl) ?_
      show own_Fin p e below s (own_Q0 n0) room_1.cells room_1.slots (T205ja.setTop (mkF m 149 #[.val (.int x0), .val (.int x1), .val (.int x2), .val (.int x3), .val (.int i), .val (.int (own_f1_0 i)), .val (.int (own_f2_0 i)), .val (.int (((own_f2_0 i) - (own_f1_0 i)) + (1 : Int32))), .val (.int (x3 &&& (3 : Int32))), .val (.int d), .val (.int ex), .val (.int (own_f3_0 d)), .val (.int (1 : Int32)), .val (.int (1 : Int32)), .val (.int (own_f3_0 x0)), .val (.int (1 : Int32)), .unset] []))
      refine own_go (fun t => XS.iload X205ja.here hx rfl (hb hby at_149) rfl) ?_
      show own_Fin p e below s (own_Q0 n0) room_1.cells room_1.slots (T205ja.setTop (mkF m 151 #[.val (.int x0), .val (.int x1), .val (.int x2), .val (.int x3), .val (.int i), .val (.int (own_f1_0 i)), .val (.int (own_f2_0 i)), .val (.int (((own_f2_0 i) - (own_f1_0 i)) + (1 : Int32))), .val (.int (x3 &&& (3 : Int32))), .val (.int d), .val (.int ex), .val (.int (own_f3_0 d)), .val (.int (1 : Int32)), .val (.int (1 : Int32)), .val (.int (own_f3_0 x0)), .val (.int (1 : Int32)), .unset] [(.int (own_f3_0 x0))]))
      have Jb : ∀ (T' : State), Stand p l e room_1 s m args below meth c T' [] 0 0 → own_Fin p e below s (own_Q0 n0) room_1.cells room_1.slots (T'.setTop (mkF m 168 #[.val (.int x0), .val (.int x1), .val (.int x2), .val (.int x3), .val (.int i), .val (.int (own_f1_0 i)), .val (.int (own_f2_0 i)), .val (.int (((own_f2_0 i) - (own_f1_0 i)) + (1 : Int32))), .val (.int (x3 &&& (3 : Int32))), .val (.int d), .val (.int ex), .val (.int (own_f3_0 d)), .val (.int (1 : Int32)), .val (.int (1 : Int32)), .val (.int (own_f3_0 x0)), .val (.int (1 : Int32)), .val (.int (1 : Int32))] [])) := by
        intro T' X'
        show own_Fin p e below s (own_Q0 n0) room_1.cells room_1.slots (T'.setTop (mkF m 168 #[.val (.int x0), .val (.int x1), .val (.int x2), .val (.int x3), .val (.int i), .val (.int (own_f1_0 i)), .val (.int (own_f2_0 i)), .val (.int (((own_f2_0 i) - (own_f1_0 i)) + (1 : Int32))), .val (.int (x3 &&& (3 : Int32))), .val (.int d), .val (.int ex), .val (.int (own_f3_0 d)), .val (.int (1 : Int32)), .val (.int (1 : Int32)), .val (.int (own_f3_0 x0)), .val (.int (1 : Int32)), .val (.int (1 : Int32))] []))
        refine own_go (fun t => XS.iload X'.here hx rfl (hb hby at_168) rfl) ?_
        show own_Fin p e below s (own_Q0 n0) room_1.cells room_1.slots (T'.setTop (mkF m 170 #[.val (.int x0), .val (.int x1), .val (.int x2), .val (.int x3), .val (.int i), .val (.int (own_f1_0 i)), .val (.int (own_f2_0 i)), .val (.int (((own_f2_0 i) - (own_f1_0 i)) + (1 : Int32))), .val (.int (x3 &&& (3 : Int32))), .val (.int d), .val (.int ex), .val (.int (own_f3_0 d)), .val (.int (1 : Int32)), .val (.int (1 : Int32)), .val (.int (own_f3_0 x0)), .val (.int (1 : Int32)), .val (.int (1 : Int32))] [(.int (1 : Int32))]))
        refine own_go (fun t => XS.ifNo X'.here hx rfl (hb hby at_170) rfl ((if0 _ _).trans (feq (by decide)).1)) ?_
        show own_Fin p e below s (own_Q0 n0) room_1.cells room_1.slots (T'.setTop (mkF m 173 #[.val (.int x0), .val (.int x1), .val (.int x2), .val (.int x3), .val (.int i), .val (.int (own_f1_0 i)), .val (.int (own_f2_0 i)), .val (.int (((own_f2_0 i) - (own_f1_0 i)) + (1 : Int32))), .val (.int (x3 &&& (3 : Int32))), .val (.int d), .val (.int ex), .val (.int (own_f3_0 d)), .val (.int (1 : Int32)), .val (.int (1 : Int32)), .val (.int (own_f3_0 x0)), .val (.int (1 : Int32)), .val (.int (1 : Int32))] []))
        refine own_go (fun t => XS.iload X'.here hx rfl (hb hby at_173) rfl) ?_
        show own_Fin p e below s (own_Q0 n0) room_1.cells room_1.slots (T'.setTop (mkF m 175 #[.val (.int x0), .val (.int x1), .val (.int x2), .val (.int x3), .val (.int i), .val (.int (own_f1_0 i)), .val (.int (own_f2_0 i)), .val (.int (((own_f2_0 i) - (own_f1_0 i)) + (1 : Int32))), .val (.int (x3 &&& (3 : Int32))), .val (.int d), .val (.int ex), .val (.int (own_f3_0 d)), .val (.int (1 : Int32)), .val (.int (1 : Int32)), .val (.int (own_f3_0 x0)), .val (.int (1 : Int32)), .val (.int (1 : Int32))] [(.int (1 : Int32))]))
        refine own_go (fun t => XS.ifNo X'.here hx rfl (hb hby at_175) rfl ((if0 _ _).trans (feq (by decide)).1)) ?_
        show own_Fin p e below s (own_Q0 n0) room_1.cells room_1.slots (T'.setTop (mkF m 178 #[.val (.int x0), .val (.int x1), .val (.int x2), .val (.int x3), .val (.int i), .val (.int (own_f1_0 i)), .val (.int (own_f2_0 i)), .val (.int (((own_f2_0 i) - (own_f1_0 i)) + (1 : Int32))), .val (.int (x3 &&& (3 : Int32))), .val (.int d), .val (.int ex), .val (.int (own_f3_0 d)), .val (.int (1 : Int32)), .val (.int (1 : Int32)), .val (.int (own_f3_0 x0)), .val (.int (1 : Int32)), .val (.int (1 : Int32))] []))
        refine own_go (fun t => XS.iload X'.here hx rfl (hb hby at_178) rfl) ?_
        show own_Fin p e below s (own_Q0 n0) room_1.cells room_1.slots (T'.setTop (mkF m 180 #[.val (.int x0), .val (.int x1), .val (.int x2), .val (.int x3), .val (.int i), .val (.int (own_f1_0 i)), .val (.int (own_f2_0 i)), .val (.int (((own_f2_0 i) - (own_f1_0 i)) + (1 : Int32))), .val (.int (x3 &&& (3 : Int32))), .val (.int d), .val (.int ex), .val (.int (own_f3_0 d)), .val (.int (1 : Int32)), .val (.int (1 : Int32)), .val (.int (own_f3_0 x0)), .val (.int (1 : Int32)), .val (.int (1 : Int32))] [(.int (1 : Int32))]))
        refine own_go (fun t => XS.ifNo X'.here hx rfl (hb hby at_180) rfl ((if0 _ _).trans (feq (by decide)).1)) ?_
        show own_Fin p e below s (own_Q0 n0) room_1.cells room_1.slots (T'.setTop (mkF m 183 #[.val (.int x0), .val (.int x1), .val (.int x2), .val (.int x3), .val (.int i), .val (.int (own_f1_0 i)), .val (.int (own_f2_0 i)), .val (.int (((own_f2_0 i) - (own_f1_0 i)) + (1 : Int32))), .val (.int (x3 &&& (3 : Int32))), .val (.int d), .val (.int ex), .val (.int (own_f3_0 d)), .val (.int (1 : Int32)), .val (.int (1 : Int32)), .val (.int (own_f3_0 x0)), .val (.int (1 : Int32)), .val (.int (1 : Int32))] []))
        refine own_go (fun t => XS.iload X'.here hx rfl (hb hby at_183) rfl) ?_
        show own_Fin p e below s (own_Q0 n0) room_1.cells room_1.slots (T'.setTop (mkF m 185 #[.val (.int x0), .val (.int x1), .val (.int x2), .val (.int x3), .val (.int i), .val (.int (own_f1_0 i)), .val (.int (own_f2_0 i)), .val (.int (((own_f2_0 i) - (own_f1_0 i)) + (1 : Int32))), .val (.int (x3 &&& (3 : Int32))), .val (.int d), .val (.int ex), .val (.int (own_f3_0 d)), .val (.int (1 : Int32)), .val (.int (1 : Int32)), .val (.int (own_f3_0 x0)), .val (.int (1 : Int32)), .val (.int (1 : Int32))] [(.int (1 : Int32))]))
        refine own_go (fun t => XS.ifNo X'.here hx rfl (hb hby at_185) rfl ((if0 _ _).trans (feq (by decide)).1)) ?_
        show own_Fin p e below s (own_Q0 n0) room_1.cells room_1.slots (T'.setTop (mkF m 188 #[.val (.int x0), .val (.int x1), .val (.int x2), .val (.int x3), .val (.int i), .val (.int (own_f1_0 i)), .val (.int (own_f2_0 i)), .val (.int (((own_f2_0 i) - (own_f1_0 i)) + (1 : Int32))), .val (.int (x3 &&& (3 : Int32))), .val (.int d), .val (.int ex), .val (.int (own_f3_0 d)), .val (.int (1 : Int32)), .val (.int (1 : Int32)), .val (.int (own_f3_0 x0)), .val (.int (1 : Int32)), .val (.int (1 : Int32))] []))
        refine own_go (fun t => XS.iconst X'.here hx rfl (hb hby at_188)) ?_
        show own_Fin p e below s (own_Q0 n0) room_1.cells room_1.slots (T'.setTop (mkF m 189 #[.val (.int x0), .val (.int x1), .val (.int x2), .val (.int x3), .val (.int i), .val (.int (own_f1_0 i)), .val (.int (own_f2_0 i)), .val (.int (((own_f2_0 i) - (own_f1_0 i)) + (1 : Int32))), .val (.int (x3 &&& (3 : Int32))), .val (.int d), .val (.int ex), .val (.int (own_f3_0 d)), .val (.int (1 : Int32)), .val (.int (1 : Int32)), .val (.int (own_f3_0 x0)), .val (.int (1 : Int32)), .val (.int (1 : Int32))] [(.int (1 : Int32))]))
        refine own_go (fun t => XS.goto X'.here hx rfl (pc0 := 189) (pc' := 193) rfl (hb hby at_189) (by decide) (by decide)) ?_
        show own_Fin p e below s (own_Q0 n0) room_1.cells room_1.slots (T'.setTop (mkF m 193 #[.val (.int x0), .val (.int x1), .val (.int x2), .val (.int x3), .val (.int i), .val (.int (own_f1_0 i)), .val (.int (own_f2_0 i)), .val (.int (((own_f2_0 i) - (own_f1_0 i)) + (1 : Int32))), .val (.int (x3 &&& (3 : Int32))), .val (.int d), .val (.int ex), .val (.int (own_f3_0 d)), .val (.int (1 : Int32)), .val (.int (1 : Int32)), .val (.int (own_f3_0 x0)), .val (.int (1 : Int32)), .val (.int (1 : Int32))] [(.int (1 : Int32))]))
        exact own_ret X' hlk hx (t := .boolean) hret rfl (Or.inl ⟨rfl, by simp, _, rfl⟩) (hb hby at_193) ⟨rfl, Fr.nil n0⟩ (by decide) (by decide)
      rcases (own_all x0).2 with hg | ⟨hg, hz⟩
      · refine own_go (fun t => XS.ifYes X205ja.here hx rfl (pc0 := 151) (pc' := 161) rfl (hb hby at_151) rfl ((if0 _ _).trans (teq hg).1) (by decide) (by decide)) ?_
        show own_Fin p e below s (own_Q0 n0) room_1.cells room_1.slots (T205ja.setTop (mkF m 161 #[.val (.int x0), .val (.int x1), .val (.int x2), .val (.int x3), .val (.int i), .val (.int (own_f1_0 i)), .val (.int (own_f2_0 i)), .val (.int (((own_f2_0 i) - (own_f1_0 i)) + (1 : Int32))), .val (.int (x3 &&& (3 : Int32))), .val (.int d), .val (.int ex), .val (.int (own_f3_0 d)), .val (.int (1 : Int32)), .val (.int (1 : Int32)), .val (.int (own_f3_0 x0)), .val (.int (1 : Int32)), .unset] []))
        refine own_go (fun t => XS.iconst X205ja.here hx rfl (hb hby at_161)) ?_
        show own_Fin p e below s (own_Q0 n0) room_1.cells room_1.slots (T205ja.setTop (mkF m 162 #[.val (.int x0), .val (.int x1), .val (.int x2), .val (.int x3), .val (.int i), .val (.int (own_f1_0 i)), .val (.int (own_f2_0 i)), .val (.int (((own_f2_0 i) - (own_f1_0 i)) + (1 : Int32))), .val (.int (x3 &&& (3 : Int32))), .val (.int d), .val (.int ex), .val (.int (own_f3_0 d)), .val (.int (1 : Int32)), .val (.int (1 : Int32)), .val (.int (own_f3_0 x0)), .val (.int (1 : Int32)), .unset] [(.int (1 : Int32))]))
        refine own_go (fun t => XS.goto X205ja.here hx rfl (pc0 := 162) (pc' := 166) rfl (hb hby at_162) (by decide) (by decide)) ?_
        show own_Fin p e below s (own_Q0 n0) room_1.cells room_1.slots (T205ja.setTop (mkF m 166 #[.val (.int x0), .val (.int x1), .val (.int x2), .val (.int x3), .val (.int i), .val (.int (own_f1_0 i)), .val (.int (own_f2_0 i)), .val (.int (((own_f2_0 i) - (own_f1_0 i)) + (1 : Int32))), .val (.int (x3 &&& (3 : Int32))), .val (.int d), .val (.int ex), .val (.int (own_f3_0 d)), .val (.int (1 : Int32)), .val (.int (1 : Int32)), .val (.int (own_f3_0 x0)), .val (.int (1 : Int32)), .unset] [(.int (1 : Int32))]))
        refine own_go (fun t => XS.istore X205ja.here hx rfl (hb hby at_166) rfl (l' := #[.val (.int x0), .val (.int x1), .val (.int x2), .val (.int x3), .val (.int i), .val (.int (own_f1_0 i)), .val (.int (own_f2_0 i)), .val (.int (((own_f2_0 i) - (own_f1_0 i)) + (1 : Int32))), .val (.int (x3 &&& (3 : Int32))), .val (.int d), .val (.int ex), .val (.int (own_f3_0 d)), .val (.int (1 : Int32)), .val (.int (1 : Int32)), .val (.int (own_f3_0 x0)), .val (.int (1 : Int32)), .val (.int (1 : Int32))]) rfl) ?_
        show own_Fin p e below s (own_Q0 n0) room_1.cells room_1.slots (T205ja.setTop (mkF m 168 #[.val (.int x0), .val (.int x1), .val (.int x2), .val (.int x3), .val (.int i), .val (.int (own_f1_0 i)), .val (.int (own_f2_0 i)), .val (.int (((own_f2_0 i) - (own_f1_0 i)) + (1 : Int32))), .val (.int (x3 &&& (3 : Int32))), .val (.int d), .val (.int ex), .val (.int (own_f3_0 d)), .val (.int (1 : Int32)), .val (.int (1 : Int32)), .val (.int (own_f3_0 x0)), .val (.int (1 : Int32)), .val (.int (1 : Int32))] []))
        exact Jb _ X205ja
      · refine own_go (fun t => XS.ifNo X205ja.here hx rfl (hb hby at_151) rfl ((if0 _ _).trans (feq (fun q => absurd (hg.symm.trans q) (by decide))).1)) ?_
        show own_Fin p e below s (own_Q0 n0) room_1.cells room_1.slots (T205ja.setTop (mkF m 154 #[.val (.int x0), .val (.int x1), .val (.int x2), .val (.int x3), .val (.int i), .val (.int (own_f1_0 i)), .val (.int (own_f2_0 i)), .val (.int (((own_f2_0 i) - (own_f1_0 i)) + (1 : Int32))), .val (.int (x3 &&& (3 : Int32))), .val (.int d), .val (.int ex), .val (.int (own_f3_0 d)), .val (.int (1 : Int32)), .val (.int (1 : Int32)), .val (.int (own_f3_0 x0)), .val (.int (1 : Int32)), .unset] []))
        refine own_go (fun t => XS.iloadN X205ja.here hx rfl (hb hby at_154) rfl) ?_
        show own_Fin p e below s (own_Q0 n0) room_1.cells room_1.slots (T205ja.setTop (mkF m 155 #[.val (.int x0), .val (.int x1), .val (.int x2), .val (.int x3), .val (.int i), .val (.int (own_f1_0 i)), .val (.int (own_f2_0 i)), .val (.int (((own_f2_0 i) - (own_f1_0 i)) + (1 : Int32))), .val (.int (x3 &&& (3 : Int32))), .val (.int d), .val (.int ex), .val (.int (own_f3_0 d)), .val (.int (1 : Int32)), .val (.int (1 : Int32)), .val (.int (own_f3_0 x0)), .val (.int (1 : Int32)), .unset] [(.int x0)]))
        obtain ⟨T306ja, X306ja, e306ja, st306ja⟩ := own_callP X205ja hx hZ e205ja (y := (⟨"com/example/dovetail/dovetail/xml/XmlNames", "mayStart", "(I)Z"⟩ : MethodName)) hown (hw _ (List.mem_of_getElem? (i := 18) rfl)) (hw _ (List.mem_of_getElem? (i := 19) rfl)) (hw _ (List.mem_of_getElem? (i := 10) rfl)) (hw _ (List.mem_of_getElem? (i := 20) rfl)) (by decide) (argsL := [(.int x0)]) (rest := []) (own_c6 l Z a0 hw x0 _) (by decide) 0 (by decide) (by decide) (by decide) (g := (mkF m 155 #[.val (.int x0), .val (.int x1), .val (.int x2), .val (.int x3), .val (.int i), .val (.int (own_f1_0 i)), .val (.int (own_f2_0 i)), .val (.int (((own_f2_0 i) - (own_f1_0 i)) + (1 : Int32))), .val (.int (x3 &&& (3 : Int32))), .val (.int d), .val (.int ex), .val (.int (own_f3_0 d)), .val (.int (1 : Int32)), .val (.int (1 : Int32)), .val (.int (own_f3_0 x0)), .val (.int (1 : Int32)), .unset] [(.int x0)])) rfl (by rw [hml]; rfl) (lenOf own_pd2 rfl) rfl (by show 2 * 0 + _ ≤ _; exact Nat.le_of_eq rfl) (hb hby at_155)
        refine own_go st306ja ?_
        show own_Fin p e below s (own_Q0 n0) room_1.cells room_1.slots (T306ja.setTop (mkF m 158 #[.val (.int x0), .val (.int x1), .val (.int x2), .val (.int x3), .val (.int i), .val (.int (own_f1_0 i)), .val (.int (own_f2_0 i)), .val (.int (((own_f2_0 i) - (own_f1_0 i)) + (1 : Int32))), .val (.int (x3 &&& (3 : Int32))), .val (.int d), .val (.int ex), .val (.int (own_f3_0 d)), .val (.int (1 : Int32)), .val (.int (1 : Int32)), .val (.int (own_f3_0 x0)), .val (.int (1 : Int32)), .unset] [(.int (own_f6_0 x0))]))
        refine own_go (fun t => XS.ifNo X306ja.here hx rfl (hb hby at_158) rfl ((if0 _ _).trans (teq hz).2)) ?_
        show own_Fin p e below s (own_Q0 n0) room_1.cells room_1.slots (T306ja.setTop (mkF m 161 #[.val (.int x0), .val (.int x1), .val (.int x2), .val (.int x3), .val (.int i), .val (.int (own_f1_0 i)), .val (.int (own_f2_0 i)), .val (.int (((own_f2_0 i) - (own_f1_0 i)) + (1 : Int32))), .val (.int (x3 &&& (3 : Int32))), .val (.int d), .val (.int ex), .val (.int (own_f3_0 d)), .val (.int (1 : Int32)), .val (.int (1 : Int32)), .val (.int (own_f3_0 x0)), .val (.int (1 : Int32)), .unset] []))
        refine own_go (fun t => XS.iconst X306ja.here hx rfl (hb hby at_161)) ?_
        show own_Fin p e below s (own_Q0 n0) room_1.cells room_1.slots (T306ja.setTop (mkF m 162 #[.val (.int x0), .val (.int x1), .val (.int x2), .val (.int x3), .val (.int i), .val (.int (own_f1_0 i)), .val (.int (own_f2_0 i)), .val (.int (((own_f2_0 i) - (own_f1_0 i)) + (1 : Int32))), .val (.int (x3 &&& (3 : Int32))), .val (.int d), .val (.int ex), .val (.int (own_f3_0 d)), .val (.int (1 : Int32)), .val (.int (1 : Int32)), .val (.int (own_f3_0 x0)), .val (.int (1 : Int32)), .unset] [(.int (1 : Int32))]))
        refine own_go (fun t => XS.goto X306ja.here hx rfl (pc0 := 162) (pc' := 166) rfl (hb hby at_162) (by decide) (by decide)) ?_
        show own_Fin p e below s (own_Q0 n0) room_1.cells room_1.slots (T306ja.setTop (mkF m 166 #[.val (.int x0), .val (.int x1), .val (.int x2), .val (.int x3), .val (.int i), .val (.int (own_f1_0 i)), .val (.int (own_f2_0 i)), .val (.int (((own_f2_0 i) - (own_f1_0 i)) + (1 : Int32))), .val (.int (x3 &&& (3 : Int32))), .val (.int d), .val (.int ex), .val (.int (own_f3_0 d)), .val (.int (1 : Int32)), .val (.int (1 : Int32)), .val (.int (own_f3_0 x0)), .val (.int (1 : Int32)), .unset] [(.int (1 : Int32))]))
        refine own_go (fun t => XS.istore X306ja.here hx rfl (hb hby at_166) rfl (l' := #[.val (.int x0), .val (.int x1), .val (.int x2), .val (.int x3), .val (.int i), .val (.int (own_f1_0 i)), .val (.int (own_f2_0 i)), .val (.int (((own_f2_0 i) - (own_f1_0 i)) + (1 : Int32))), .val (.int (x3 &&& (3 : Int32))), .val (.int d), .val (.int ex), .val (.int (own_f3_0 d)), .val (.int (1 : Int32)), .val (.int (1 : Int32)), .val (.int (own_f3_0 x0)), .val (.int (1 : Int32)), .val (.int (1 : Int32))]) rfl) ?_
        show own_Fin p e below s (own_Q0 n0) room_1.cells room_1.slots (T306ja.setTop (mkF m 168 #[.val (.int x0), .val (.int x1), .val (.int x2), .val (.int x3), .val (.int i), .val (.int (own_f1_0 i)), .val (.int (own_f2_0 i)), .val (.int (((own_f2_0 i) - (own_f1_0 i)) + (1 : Int32))), .val (.int (x3 &&& (3 : Int32))), .val (.int d), .val (.int ex), .val (.int (own_f3_0 d)), .val (.int (1 : Int32)), .val (.int (1 : Int32)), .val (.int (own_f3_0 x0)), .val (.int (1 : Int32)), .val (.int (1 : Int32))] []))
        exact Jb _ X306ja
    rcases (own_all d).2 with hg | ⟨hg, hz⟩
    · refine own_go (fun t => XS.ifYes X103.here hx rfl (pc0 := 109) (pc' := 120) rfl (hb hby at_109) rfl ((if0 _ _).trans (teq hg).1) (by decide) (by decide)) ?_
      show own_Fin p e below s (own_Q0 n0) room_1.cells room_1.slots (T103.setTop (mkF m 120 #[.val (.int x0), .val (.int x1), .val (.int x2), .val (.int x3), .val (.int i), .val (.int (own_f1_0 i)), .val (.int (own_f2_0 i)), .val (.int (((own_f2_0 i) - (own_f1_0 i)) + (1 : Int32))), .val (.int (x3 &&& (3 : Int32))), .val (.int d), .val (.int ex), .val (.int (own_f3_0 d)), .val (.int (1 : Int32)), .unset, .unset, .unset, .unset] []))
      refine own_go (fun t => XS.iconst X103.here hx rfl (hb hby at_120)) ?_
      show own_Fin p e below s (own_Q0 n0) room_1.cells room_1.slots (T103.setTop (mkF m 121 #[.val (.int x0), .val (.int x1), .val (.int x2), .val (.int x3), .val (.int i), .val (.int (own_f1_0 i)), .val (.int (own_f2_0 i)), .val (.int (((own_f2_0 i) - (own_f1_0 i)) + (1 : Int32))), .val (.int (x3 &&& (3 : Int32))), .val (.int d), .val (.int ex), .val (.int (own_f3_0 d)), .val (.int (1 : Int32)), .unset, .unset, .unset, .unset] [(.int (1 : Int32))]))
      refine own_go (fun t => XS.goto X103.here hx rfl (pc0 := 121) (pc' := 125) rfl (hb hby at_121) (by decide) (by decide)) ?_
      show own_Fin p e below s (own_Q0 n0) room_1.cells room_1.slots (T103.setTop (mkF m 125 #[.val (.int x0), .val (.int x1), .val (.int x2), .val (.int x3), .val (.int i), .val (.int (own_f1_0 i)), .val (.int (own_f2_0 i)), .val (.int (((own_f2_0 i) - (own_f1_0 i)) + (1 : Int32))), .val (.int (x3 &&& (3 : Int32))), .val (.int d), .val (.int ex), .val (.int (own_f3_0 d)), .val (.int (1 : Int32)), .unset, .unset, .unset, .unset] [(.int (1 : Int32))]))
      refine own_go (fun t => XS.istore X103.here hx rfl (hb hby at_125) rfl (l' := #[.val (.int x0), .val (.int x1), .val (.int x2), .val (.int x3), .val (.int i), .val (.int (own_f1_0 i)), .val (.int (own_f2_0 i)), .val (.int (((own_f2_0 i) - (own_f1_0 i)) + (1 : Int32))), .val (.int (x3 &&& (3 : Int32))), .val (.int d), .val (.int ex), .val (.int (own_f3_0 d)), .val (.int (1 : Int32)), .val (.int (1 : Int32)), .unset, .unset, .unset]) rfl) ?_
      show own_Fin p e below s (own_Q0 n0) room_1.cells room_1.slots (T103.setTop (mkF m 127 #[.val (.int x0), .val (.int x1), .val (.int x2), .val (.int x3), .val (.int i), .val (.int (own_f1_0 i)), .val (.int (own_f2_0 i)), .val (.int (((own_f2_0 i) - (own_f1_0 i)) + (1 : Int32))), .val (.int (x3 &&& (3 : Int32))), .val (.int d), .val (.int ex), .val (.int (own_f3_0 d)), .val (.int (1 : Int32)), .val (.int (1 : Int32)), .unset, .unset, .unset] []))
      exact Ja _ X103
    · refine own_go (fun t => XS.ifNo X103.here hx rfl (hb hby at_109) rfl ((if0 _ _).trans (feq (fun q => absurd (hg.symm.trans q) (by decide))).1)) ?_
      show own_Fin p e below s (own_Q0 n0) room_1.cells room_1.slots (T103.setTop (mkF m 112 #[.val (.int x0), .val (.int x1), .val (.int x2), .val (.int x3), .val (.int i), .val (.int (own_f1_0 i)), .val (.int (own_f2_0 i)), .val (.int (((own_f2_0 i) - (own_f1_0 i)) + (1 : Int32))), .val (.int (x3 &&& (3 : Int32))), .val (.int d), .val (.int ex), .val (.int (own_f3_0 d)), .val (.int (1 : Int32)), .unset, .unset, .unset, .unset] []))
      refine own_go (fun t => XS.iload X103.here hx rfl (hb hby at_112) rfl) ?_
      show own_Fin p e below s (own_Q0 n0) room_1.cells room_1.slots (T103.setTop (mkF m 114 #[.val (.int x0), .val (.int x1), .val (.int x2), .val (.int x3), .val (.int i), .val (.int (own_f1_0 i)), .val (.int (own_f2_0 i)), .val (.int (((own_f2_0 i) - (own_f1_0 i)) + (1 : Int32))), .val (.int (x3 &&& (3 : Int32))), .val (.int d), .val (.int ex), .val (.int (own_f3_0 d)), .val (.int (1 : Int32)), .unset, .unset, .unset, .unset] [(.int d)]))
      obtain ⟨T204, X204, e204, st204⟩ := own_callP X103 hx hZ e103 (y := (⟨"com/example/dovetail/dovetail/xml/XmlNames", "mayStart", "(I)Z"⟩ : MethodName)) hown (hw _ (List.mem_of_getElem? (i := 18) rfl)) (hw _ (List.mem_of_getElem? (i := 19) rfl)) (hw _ (List.mem_of_getElem? (i := 10) rfl)) (hw _ (List.mem_of_getElem? (i := 20) rfl)) (by decide) (argsL := [(.int d)]) (rest := []) (own_c6 l Z a0 hw d _) (by decide) 0 (by decide) (by decide) (by decide) (g := (mkF m 114 #[.val (.int x0), .val (.int x1), .val (.int x2), .val (.int x3), .val (.int i), .val (.int (own_f1_0 i)), .val (.int (own_f2_0 i)), .val (.int (((own_f2_0 i) - (own_f1_0 i)) + (1 : Int32))), .val (.int (x3 &&& (3 : Int32))), .val (.int d), .val (.int ex), .val (.int (own_f3_0 d)), .val (.int (1 : Int32)), .unset, .unset, .unset, .unset] [(.int d)])) rfl (by rw [hml]; rfl) (lenOf own_pd2 rfl) rfl (by show 2 * 0 + _ ≤ _; exact Nat.le_of_eq rfl) (hb hby at_114)
      refine own_go st204 ?_
      show own_Fin p e below s (own_Q0 n0) room_1.cells room_1.slots (T204.setTop (mkF m 117 #[.val (.int x0), .val (.int x1), .val (.int x2), .val (.int x3), .val (.int i), .val (.int (own_f1_0 i)), .val (.int (own_f2_0 i)), .val (.int (((own_f2_0 i) - (own_f1_0 i)) + (1 : Int32))), .val (.int (x3 &&& (3 : Int32))), .val (.int d), .val (.int ex), .val (.int (own_f3_0 d)), .val (.int (1 : Int32)), .unset, .unset, .unset, .unset] [(.int (own_f6_0 d))]))
      refine own_go (fun t => XS.ifNo X204.here hx rfl (hb hby at_117) rfl ((if0 _ _).trans (teq hz).2)) ?_
      show own_Fin p e below s (own_Q0 n0) room_1.cells room_1.slots (T204.setTop (mkF m 120 #[.val (.int x0), .val (.int x1), .val (.int x2), .val (.int x3), .val (.int i), .val (.int (own_f1_0 i)), .val (.int (own_f2_0 i)), .val (.int (((own_f2_0 i) - (own_f1_0 i)) + (1 : Int32))), .val (.int (x3 &&& (3 : Int32))), .val (.int d), .val (.int ex), .val (.int (own_f3_0 d)), .val (.int (1 : Int32)), .unset, .unset, .unset, .unset] []))
      refine own_go (fun t => XS.iconst X204.here hx rfl (hb hby at_120)) ?_
      show own_Fin p e below s (own_Q0 n0) room_1.cells room_1.slots (T204.setTop (mkF m 121 #[.val (.int x0), .val (.int x1), .val (.int x2), .val (.int x3), .val (.int i), .val (.int (own_f1_0 i)), .val (.int (own_f2_0 i)), .val (.int (((own_f2_0 i) - (own_f1_0 i)) + (1 : Int32))), .val (.int (x3 &&& (3 : Int32))), .val (.int d), .val (.int ex), .val (.int (own_f3_0 d)), .val (.int (1 : Int32)), .unset, .unset, .unset, .unset] [(.int (1 : Int32))]))
      refine own_go (fun t => XS.goto X204.here hx rfl (pc0 := 121) (pc' := 125) rfl (hb hby at_121) (by decide) (by decide)) ?_
      show own_Fin p e below s (own_Q0 n0) room_1.cells room_1.slots (T204.setTop (mkF m 125 #[.val (.int x0), .val (.int x1), .val (.int x2), .val (.int x3), .val (.int i), .val (.int (own_f1_0 i)), .val (.int (own_f2_0 i)), .val (.int (((own_f2_0 i) - (own_f1_0 i)) + (1 : Int32))), .val (.int (x3 &&& (3 : Int32))), .val (.int d), .val (.int ex), .val (.int (own_f3_0 d)), .val (.int (1 : Int32)), .unset, .unset, .unset, .unset] [(.int (1 : Int32))]))
      refine own_go (fun t => XS.istore X204.here hx rfl (hb hby at_125) rfl (l' := #[.val (.int x0), .val (.int x1), .val (.int x2), .val (.int x3), .val (.int i), .val (.int (own_f1_0 i)), .val (.int (own_f2_0 i)), .val (.int (((own_f2_0 i) - (own_f1_0 i)) + (1 : Int32))), .val (.int (x3 &&& (3 : Int32))), .val (.int d), .val (.int ex), .val (.int (own_f3_0 d)), .val (.int (1 : Int32)), .val (.int (1 : Int32)), .unset, .unset, .unset]) rfl) ?_
      show own_Fin p e below s (own_Q0 n0) room_1.cells room_1.slots (T204.setTop (mkF m 127 #[.val (.int x0), .val (.int x1), .val (.int x2), .val (.int x3), .val (.int i), .val (.int (own_f1_0 i)), .val (.int (own_f2_0 i)), .val (.int (((own_f2_0 i) - (own_f1_0 i)) + (1 : Int32))), .val (.int (x3 &&& (3 : Int32))), .val (.int d), .val (.int ex), .val (.int (own_f3_0 d)), .val (.int (1 : Int32)), .val (.int (1 : Int32)), .unset, .unset, .unset] []))
      exact Ja _ X204
  by_cases h0 : (x3 &&& (3 : Int32)) = (0 : Int32)
  · refine own_go (fun t => XS.ifNo X2.here hx rfl (hb hby at_38) rfl ((if0 _ _).trans (teq h0).2)) ?_
    show own_Fin p e below s (own_Q0 n0) room_1.cells room_1.slots (T2.setTop (mkF m 41 #[.val (.int x0), .val (.int x1), .val (.int x2), .val (.int x3), .val (.int i), .val (.int (own_f1_0 i)), .val (.int (own_f2_0 i)), .val (.int (((own_f2_0 i) - (own_f1_0 i)) + (1 : Int32))), .val (.int (x3 &&& (3 : Int32))), .unset, .unset, .unset, .unset, .unset, .unset, .unset, .unset] []))
    refine own_go (fun t => XS.iload X2.here hx rfl (hb hby at_41) rfl) ?_
    show own_Fin p e below s (own_Q0 n0) room_1.cells room_1.slots (T2.setTop (mkF m 43 #[.val (.int x0), .val (.int x1), .val (.int x2), .val (.int x3), .val (.int i), .val (.int (own_f1_0 i)), .val (.int (own_f2_0 i)), .val (.int (((own_f2_0 i) - (own_f1_0 i)) + (1 : Int32))), .val (.int (x3 &&& (3 : Int32))), .unset, .unset, .unset, .unset, .unset, .unset, .unset, .unset] [(.int (own_f1_0 i))]))
    refine own_go (fun t => XS.iconst X2.here hx rfl (hb hby at_43)) ?_
    show own_Fin p e below s (own_Q0 n0) room_1.cells room_1.slots (T2.setTop (mkF m 44 #[.val (.int x0), .val (.int x1), .val (.int x2), .val (.int x3), .val (.int i), .val (.int (own_f1_0 i)), .val (.int (own_f2_0 i)), .val (.int (((own_f2_0 i) - (own_f1_0 i)) + (1 : Int32))), .val (.int (x3 &&& (3 : Int32))), .unset, .unset, .unset, .unset, .unset, .unset, .unset, .unset] [(.int (1 : Int32)), (.int (own_f1_0 i))]))
    refine own_go (fun t => XS.isub X2.here hx rfl (hb hby at_44) rfl) ?_
    show own_Fin p e below s (own_Q0 n0) room_1.cells room_1.slots (T2.setTop (mkF m 45 #[.val (.int x0), .val (.int x1), .val (.int x2), .val (.int x3), .val (.int i), .val (.int (own_f1_0 i)), .val (.int (own_f2_0 i)), .val (.int (((own_f2_0 i) - (own_f1_0 i)) + (1 : Int32))), .val (.int (x3 &&& (3 : Int32))), .unset, .unset, .unset, .unset, .unset, .unset, .unset, .unset] [(.int ((own_f1_0 i) - (1 : Int32)))]))
    refine own_go (fun t => XS.istore X2.here hx rfl (hb hby at_45) rfl (l' := #[.val (.int x0), .val (.int x1), .val (.int x2), .val (.int x3), .val (.int i), .val (.int (own_f1_0 i)), .val (.int (own_f2_0 i)), .val (.int (((own_f2_0 i) - (own_f1_0 i)) + (1 : Int32))), .val (.int (x3 &&& (3 : Int32))), .val (.int ((own_f1_0 i) - (1 : Int32))), .unset, .unset, .unset, .unset, .unset, .unset, .unset]) rfl) ?_
    show own_Fin p e below s (own_Q0 n0) room_1.cells room_1.slots (T2.setTop (mkF m 47 #[.val (.int x0), .val (.int x1), .val (.int x2), .val (.int x3), .val (.int i), .val (.int (own_f1_0 i)), .val (.int (own_f2_0 i)), .val (.int (((own_f2_0 i) - (own_f1_0 i)) + (1 : Int32))), .val (.int (x3 &&& (3 : Int32))), .val (.int ((own_f1_0 i) - (1 : Int32))), .unset, .unset, .unset, .unset, .unset, .unset, .unset] []))
    refine own_go (fun t => XS.iconst X2.here hx rfl (hb hby at_47)) ?_
    show own_Fin p e below s (own_Q0 n0) room_1.cells room_1.slots (T2.setTop (mkF m 48 #[.val (.int x0), .val (.int x1), .val (.int x2), .val (.int x3), .val (.int i), .val (.int (own_f1_0 i)), .val (.int (own_f2_0 i)), .val (.int (((own_f2_0 i) - (own_f1_0 i)) + (1 : Int32))), .val (.int (x3 &&& (3 : Int32))), .val (.int ((own_f1_0 i) - (1 : Int32))), .unset, .unset, .unset, .unset, .unset, .unset, .unset] [(.int (0 : Int32))]))
    refine own_go (fun t => XS.istore X2.here hx rfl (hb hby at_48) rfl (l' := #[.val (.int x0), .val (.int x1), .val (.int x2), .val (.int x3), .val (.int i), .val (.int (own_f1_0 i)), .val (.int (own_f2_0 i)), .val (.int (((own_f2_0 i) - (own_f1_0 i)) + (1 : Int32))), .val (.int (x3 &&& (3 : Int32))), .val (.int ((own_f1_0 i) - (1 : Int32))), .val (.int (0 : Int32)), .unset, .unset, .unset, .unset, .unset, .unset]) rfl) ?_
    show own_Fin p e below s (own_Q0 n0) room_1.cells room_1.slots (T2.setTop (mkF m 50 #[.val (.int x0), .val (.int x1), .val (.int x2), .val (.int x3), .val (.int i), .val (.int (own_f1_0 i)), .val (.int (own_f2_0 i)), .val (.int (((own_f2_0 i) - (own_f1_0 i)) + (1 : Int32))), .val (.int (x3 &&& (3 : Int32))), .val (.int ((own_f1_0 i) - (1 : Int32))), .val (.int (0 : Int32)), .unset, .unset, .unset, .unset, .unset, .unset] []))
    refine own_go (fun t => XS.goto X2.here hx rfl (pc0 := 50) (pc' := 86) rfl (hb hby at_50) (by decide) (by decide)) ?_
    show own_Fin p e below s (own_Q0 n0) room_1.cells room_1.slots (T2.setTop (mkF m 86 #[.val (.int x0), .val (.int x1), .val (.int x2), .val (.int x3), .val (.int i), .val (.int (own_f1_0 i)), .val (.int (own_f2_0 i)), .val (.int (((own_f2_0 i) - (own_f1_0 i)) + (1 : Int32))), .val (.int (x3 &&& (3 : Int32))), .val (.int ((own_f1_0 i) - (1 : Int32))), .val (.int (0 : Int32)), .unset, .unset, .unset, .unset, .unset, .unset] []))
    exact J _ _ (own_D0 i hi.1 hi.2)
  · refine own_go (fun t => XS.ifYes X2.here hx rfl (pc0 := 38) (pc' := 53) rfl (hb hby at_38) rfl ((if0 _ _).trans (feq h0).2) (by decide) (by decide)) ?_
    show own_Fin p e below s (own_Q0 n0) room_1.cells room_1.slots (T2.setTop (mkF m 53 #[.val (.int x0), .val (.int x1), .val (.int x2), .val (.int x3), .val (.int i), .val (.int (own_f1_0 i)), .val (.int (own_f2_0 i)), .val (.int (((own_f2_0 i) - (own_f1_0 i)) + (1 : Int32))), .val (.int (x3 &&& (3 : Int32))), .unset, .unset, .unset, .unset, .unset, .unset, .unset, .unset] []))
    refine own_go (fun t => XS.iload X2.here hx rfl (hb hby at_53) rfl) ?_
    show own_Fin p e below s (own_Q0 n0) room_1.cells room_1.slots (T2.setTop (mkF m 55 #[.val (.int x0), .val (.int x1), .val (.int x2), .val (.int x3), .val (.int i), .val (.int (own_f1_0 i)), .val (.int (own_f2_0 i)), .val (.int (((own_f2_0 i) - (own_f1_0 i)) + (1 : Int32))), .val (.int (x3 &&& (3 : Int32))), .unset, .unset, .unset, .unset, .unset, .unset, .unset, .unset] [(.int (x3 &&& (3 : Int32)))]))
    refine own_go (fun t => XS.iconst X2.here hx rfl (hb hby at_55)) ?_
    show own_Fin p e below s (own_Q0 n0) room_1.cells room_1.slots (T2.setTop (mkF m 56 #[.val (.int x0), .val (.int x1), .val (.int x2), .val (.int x3), .val (.int i), .val (.int (own_f1_0 i)), .val (.int (own_f2_0 i)), .val (.int (((own_f2_0 i) - (own_f1_0 i)) + (1 : Int32))), .val (.int (x3 &&& (3 : Int32))), .unset, .unset, .unset, .unset, .unset, .unset, .unset, .unset] [(.int (1 : Int32)), (.int (x3 &&& (3 : Int32)))]))
    by_cases h1 : (x3 &&& (3 : Int32)) = (1 : Int32)
    · refine own_go (fun t => XS.icmpNo X2.here hx rfl (hb hby at_56) rfl (teq h1).2) ?_
      show own_Fin p e below s (own_Q0 n0) room_1.cells room_1.slots (T2.setTop (mkF m 59 #[.val (.int x0), .val (.int x1), .val (.int x2), .val (.int x3), .val (.int i), .val (.int (own_f1_0 i)), .val (.int (own_f2_0 i)), .val (.int (((own_f2_0 i) - (own_f1_0 i)) + (1 : Int32))), .val (.int (x3 &&& (3 : Int32))), .unset, .unset, .unset, .unset, .unset, .unset, .unset, .unset] []))
      refine own_go (fun t => XS.iload X2.here hx rfl (hb hby at_59) rfl) ?_
      show own_Fin p e below s (own_Q0 n0) room_1.cells room_1.slots (T2.setTop (mkF m 61 #[.val (.int x0), .val (.int x1), .val (.int x2), .val (.int x3), .val (.int i), .val (.int (own_f1_0 i)), .val (.int (own_f2_0 i)), .val (.int (((own_f2_0 i) - (own_f1_0 i)) + (1 : Int32))), .val (.int (x3 &&& (3 : Int32))), .unset, .unset, .unset, .unset, .unset, .unset, .unset, .unset] [(.int (own_f2_0 i))]))
      refine own_go (fun t => XS.iconst X2.here hx rfl (hb hby at_61)) ?_
      show own_Fin p e below s (own_Q0 n0) room_1.cells room_1.slots (T2.setTop (mkF m 62 #[.val (.int x0), .val (.int x1), .val (.int x2), .val (.int x3), .val (.int i), .val (.int (own_f1_0 i)), .val (.int (own_f2_0 i)), .val (.int (((own_f2_0 i) - (own_f1_0 i)) + (1 : Int32))), .val (.int (x3 &&& (3 : Int32))), .unset, .unset, .unset, .unset, .unset, .unset, .unset, .unset] [(.int (1 : Int32)), (.int (own_f2_0 i))]))
      refine own_go (fun t => XS.iadd X2.here hx rfl (hb hby at_62) rfl) ?_
      show own_Fin p e below s (own_Q0 n0) room_1.cells room_1.slots (T2.setTop (mkF m 63 #[.val (.int x0), .val (.int x1), .val (.int x2), .val (.int x3), .val (.int i), .val (.int (own_f1_0 i)), .val (.int (own_f2_0 i)), .val (.int (((own_f2_0 i) - (own_f1_0 i)) + (1 : Int32))), .val (.int (x3 &&& (3 : Int32))), .unset, .unset, .unset, .unset, .unset, .unset, .unset, .unset] [(.int ((own_f2_0 i) + (1 : Int32)))]))
      refine own_go (fun t => XS.istore X2.here hx rfl (hb hby at_63) rfl (l' := #[.val (.int x0), .val (.int x1), .val (.int x2), .val (.int x3), .val (.int i), .val (.int (own_f1_0 i)), .val (.int (own_f2_0 i)), .val (.int (((own_f2_0 i) - (own_f1_0 i)) + (1 : Int32))), .val (.int (x3 &&& (3 : Int32))), .val (.int ((own_f2_0 i) + (1 : Int32))), .unset, .unset, .unset, .unset, .unset, .unset, .unset]) rfl) ?_
      show own_Fin p e below s (own_Q0 n0) room_1.cells room_1.slots (T2.setTop (mkF m 65 #[.val (.int x0), .val (.int x1), .val (.int x2), .val (.int x3), .val (.int i), .val (.int (own_f1_0 i)), .val (.int (own_f2_0 i)), .val (.int (((own_f2_0 i) - (own_f1_0 i)) + (1 : Int32))), .val (.int (x3 &&& (3 : Int32))), .val (.int ((own_f2_0 i) + (1 : Int32))), .unset, .unset, .unset, .unset, .unset, .unset, .unset] []))
      refine own_go (fun t => XS.iconst X2.here hx rfl (hb hby at_65)) ?_
      show own_Fin p e below s (own_Q0 n0) room_1.cells room_1.slots (T2.setTop (mkF m 66 #[.val (.int x0), .val (.int x1), .val (.int x2), .val (.int x3), .val (.int i), .val (.int (own_f1_0 i)), .val (.int (own_f2_0 i)), .val (.int (((own_f2_0 i) - (own_f1_0 i)) + (1 : Int32))), .val (.int (x3 &&& (3 : Int32))), .val (.int ((own_f2_0 i) + (1 : Int32))), .unset, .unset, .unset, .unset, .unset, .unset, .unset] [(.int (0 : Int32))]))
      refine own_go (fun t => XS.istore X2.here hx rfl (hb hby at_66) rfl (l' := #[.val (.int x0), .val (.int x1), .val (.int x2), .val (.int x3), .val (.int i), .val (.int (own_f1_0 i)), .val (.int (own_f2_0 i)), .val (.int (((own_f2_0 i) - (own_f1_0 i)) + (1 : Int32))), .val (.int (x3 &&& (3 : Int32))), .val (.int ((own_f2_0 i) + (1 : Int32))), .val (.int (0 : Int32)), .unset, .unset, .unset, .unset, .unset, .unset]) rfl) ?_
      show own_Fin p e below s (own_Q0 n0) room_1.cells room_1.slots (T2.setTop (mkF m 68 #[.val (.int x0), .val (.int x1), .val (.int x2), .val (.int x3), .val (.int i), .val (.int (own_f1_0 i)), .val (.int (own_f2_0 i)), .val (.int (((own_f2_0 i) - (own_f1_0 i)) + (1 : Int32))), .val (.int (x3 &&& (3 : Int32))), .val (.int ((own_f2_0 i) + (1 : Int32))), .val (.int (0 : Int32)), .unset, .unset, .unset, .unset, .unset, .unset] []))
      refine own_go (fun t => XS.goto X2.here hx rfl (pc0 := 68) (pc' := 86) rfl (hb hby at_68) (by decide) (by decide)) ?_
      show own_Fin p e below s (own_Q0 n0) room_1.cells room_1.slots (T2.setTop (mkF m 86 #[.val (.int x0), .val (.int x1), .val (.int x2), .val (.int x3), .val (.int i), .val (.int (own_f1_0 i)), .val (.int (own_f2_0 i)), .val (.int (((own_f2_0 i) - (own_f1_0 i)) + (1 : Int32))), .val (.int (x3 &&& (3 : Int32))), .val (.int ((own_f2_0 i) + (1 : Int32))), .val (.int (0 : Int32)), .unset, .unset, .unset, .unset, .unset, .unset] []))
      exact J _ _ (own_D1 i hi.1 hi.2)
    · refine own_go (fun t => XS.icmpYes X2.here hx rfl (pc0 := 56) (pc' := 71) rfl (hb hby at_56) rfl (feq h1).2 (by decide) (by decide)) ?_
      show own_Fin p e below s (own_Q0 n0) room_1.cells room_1.slots (T2.setTop (mkF m 71 #[.val (.int x0), .val (.int x1), .val (.int x2), .val (.int x3), .val (.int i), .val (.int (own_f1_0 i)), .val (.int (own_f2_0 i)), .val (.int (((own_f2_0 i) - (own_f1_0 i)) + (1 : Int32))), .val (.int (x3 &&& (3 : Int32))), .unset, .unset, .unset, .unset, .unset, .unset, .unset, .unset] []))
      have hnz79 := own_Dz i hi.1 hi.2
      refine own_go (fun t => XS.iload X2.here hx rfl (hb hby at_71) rfl) ?_
      show own_Fin p e below s (own_Q0 n0) room_1.cells room_1.slots (T2.setTop (mkF m 73 #[.val (.int x0), .val (.int x1), .val (.int x2), .val (.int x3), .val (.int i), .val (.int (own_f1_0 i)), .val (.int (own_f2_0 i)), .val (.int (((own_f2_0 i) - (own_f1_0 i)) + (1 : Int32))), .val (.int (x3 &&& (3 : Int32))), .unset, .unset, .unset, .unset, .unset, .unset, .unset, .unset] [(.int (own_f1_0 i))]))
      refine own_go (fun t => XS.iloadN X2.here hx rfl (hb hby at_73) rfl) ?_
      show own_Fin p e below s (own_Q0 n0) room_1.cells room_1.slots (T2.setTop (mkF m 74 #[.val (.int x0), .val (.int x1), .val (.int x2), .val (.int x3), .val (.int i), .val (.int (own_f1_0 i)), .val (.int (own_f2_0 i)), .val (.int (((own_f2_0 i) - (own_f1_0 i)) + (1 : Int32))), .val (.int (x3 &&& (3 : Int32))), .unset, .unset, .unset, .unset, .unset, .unset, .unset, .unset] [(.int x2), (.int (own_f1_0 i))]))
      refine own_go (fun t => X2.ldcInt hx hown (mvT hZ (hw _ (List.mem_of_getElem? (i := 0) rfl))) (g := (mkF m 74 #[.val (.int x0), .val (.int x1), .val (.int x2), .val (.int x3), .val (.int i), .val (.int (own_f1_0 i)), .val (.int (own_f2_0 i)), .val (.int (((own_f2_0 i) - (own_f1_0 i)) + (1 : Int32))), .val (.int (x3 &&& (3 : Int32))), .unset, .unset, .unset, .unset, .unset, .unset, .unset, .unset] [(.int x2), (.int (own_f1_0 i))])) rfl (hb hby at_74) t) ?_
      show own_Fin p e below s (own_Q0 n0) room_1.cells room_1.slots (T2.setTop (mkF m 76 #[.val (.int x0), .val (.int x1), .val (.int x2), .val (.int x3), .val (.int i), .val (.int (own_f1_0 i)), .val (.int (own_f2_0 i)), .val (.int (((own_f2_0 i) - (own_f1_0 i)) + (1 : Int32))), .val (.int (x3 &&& (3 : Int32))), .unset, .unset, .unset, .unset, .unset, .unset, .unset, .unset] [(.int (2147483647 : Int32)), (.int x2), (.int (own_f1_0 i))]))
      refine own_go (fun t => XS.iand X2.here hx rfl (hb hby at_76) rfl) ?_
      show own_Fin p e below s (own_Q0 n0) room_1.cells room_1.slots (T2.setTop (mkF m 77 #[.val (.int x0), .val (.int x1), .val (.int x2), .val (.int x3), .val (.int i), .val (.int (own_f1_0 i)), .val (.int (own_f2_0 i)), .val (.int (((own_f2_0 i) - (own_f1_0 i)) + (1 : Int32))), .val (.int (x3 &&& (3 : Int32))), .unset, .unset, .unset, .unset, .unset, .unset, .unset, .unset] [(.int (x2 &&& (2147483647 : Int32))), (.int (own_f1_0 i))]))
      refine own_go (fun t => XS.iload X2.here hx rfl (hb hby at_77) rfl) ?_
      show own_Fin p e below s (own_Q0 n0) room_1.cells room_1.slots (T2.setTop (mkF m 79 #[.val (.int x0), .val (.int x1), .val (.int x2), .val (.int x3), .val (.int i), .val (.int (own_f1_0 i)), .val (.int (own_f2_0 i)), .val (.int (((own_f2_0 i) - (own_f1_0 i)) + (1 : Int32))), .val (.int (x3 &&& (3 : Int32))), .unset, .unset, .unset, .unset, .unset, .unset, .unset, .unset] [(.int (((own_f2_0 i) - (own_f1_0 i)) + (1 : Int32))), (.int (x2 &&& (2147483647 : Int32))), (.int (own_f1_0 i))]))
      refine own_go (fun t => Jvm.RoadKit.iremM X2 hx rfl (hb hby at_79) rfl hnz79) ?_
      show own_Fin p e below s (own_Q0 n0) room_1.cells room_1.slots (T2.setTop (mkF m 80 #[.val (.int x0), .val (.int x1), .val (.int x2), .val (.int x3), .val (.int i), .val (.int (own_f1_0 i)), .val (.int (own_f2_0 i)), .val (.int (((own_f2_0 i) - (own_f1_0 i)) + (1 : Int32))), .val (.int (x3 &&& (3 : Int32))), .unset, .unset, .unset, .unset, .unset, .unset, .unset, .unset] [(.int ((x2 &&& (2147483647 : Int32)) % (((own_f2_0 i) - (own_f1_0 i)) + (1 : Int32)))), (.int (own_f1_0 i))]))
      refine own_go (fun t => XS.iadd X2.here hx rfl (hb hby at_80) rfl) ?_
      show own_Fin p e below s (own_Q0 n0) room_1.cells room_1.slots (T2.setTop (mkF m 81 #[.val (.int x0), .val (.int x1), .val (.int x2), .val (.int x3), .val (.int i), .val (.int (own_f1_0 i)), .val (.int (own_f2_0 i)), .val (.int (((own_f2_0 i) - (own_f1_0 i)) + (1 : Int32))), .val (.int (x3 &&& (3 : Int32))), .unset, .unset, .unset, .unset, .unset, .unset, .unset, .unset] [(.int ((own_f1_0 i) + ((x2 &&& (2147483647 : Int32)) % (((own_f2_0 i) - (own_f1_0 i)) + (1 : Int32)))))]))
      refine own_go (fun t => XS.istore X2.here hx rfl (hb hby at_81) rfl (l' := #[.val (.int x0), .val (.int x1), .val (.int x2), .val (.int x3), .val (.int i), .val (.int (own_f1_0 i)), .val (.int (own_f2_0 i)), .val (.int (((own_f2_0 i) - (own_f1_0 i)) + (1 : Int32))), .val (.int (x3 &&& (3 : Int32))), .val (.int ((own_f1_0 i) + ((x2 &&& (2147483647 : Int32)) % (((own_f2_0 i) - (own_f1_0 i)) + (1 : Int32))))), .unset, .unset, .unset, .unset, .unset, .unset, .unset]) rfl) ?_
      show own_Fin p e below s (own_Q0 n0) room_1.cells room_1.slots (T2.setTop (mkF m 83 #[.val (.int x0), .val (.int x1), .val (.int x2), .val (.int x3), .val (.int i), .val (.int (own_f1_0 i)), .val (.int (own_f2_0 i)), .val (.int (((own_f2_0 i) - (own_f1_0 i)) + (1 : Int32))), .val (.int (x3 &&& (3 : Int32))), .val (.int ((own_f1_0 i) + ((x2 &&& (2147483647 : Int32)) % (((own_f2_0 i) - (own_f1_0 i)) + (1 : Int32))))), .unset, .unset, .unset, .unset, .unset, .unset, .unset] []))
      refine own_go (fun t => XS.iconst X2.here hx rfl (hb hby at_83)) ?_
      show own_Fin p e below s (own_Q0 n0) room_1.cells room_1.slots (T2.setTop (mkF m 84 #[.val (.int x0), .val (.int x1), .val (.int x2), .val (.int x3), .val (.int i), .val (.int (own_f1_0 i)), .val (.int (own_f2_0 i)), .val (.int (((own_f2_0 i) - (own_f1_0 i)) + (1 : Int32))), .val (.int (x3 &&& (3 : Int32))), .val (.int ((own_f1_0 i) + ((x2 &&& (2147483647 : Int32)) % (((own_f2_0 i) - (own_f1_0 i)) + (1 : Int32))))), .unset, .unset, .unset, .unset, .unset, .unset, .unset] [(.int (1 : Int32))]))
      refine own_go (fun t => XS.istore X2.here hx rfl (hb hby at_84) rfl (l' := #[.val (.int x0), .val (.int x1), .val (.int x2), .val (.int x3), .val (.int i), .val (.int (own_f1_0 i)), .val (.int (own_f2_0 i)), .val (.int (((own_f2_0 i) - (own_f1_0 i)) + (1 : Int32))), .val (.int (x3 &&& (3 : Int32))), .val (.int ((own_f1_0 i) + ((x2 &&& (2147483647 : Int32)) % (((own_f2_0 i) - (own_f1_0 i)) + (1 : Int32))))), .val (.int (1 : Int32)), .unset, .unset, .unset, .unset, .unset, .unset]) rfl) ?_
      show own_Fin p e below s (own_Q0 n0) room_1.cells room_1.slots (T2.setTop (mkF m 86 #[.val (.int x0), .val (.int x1), .val (.int x2), .val (.int x3), .val (.int i), .val (.int (own_f1_0 i)), .val (.int (own_f2_0 i)), .val (.int (((own_f2_0 i) - (own_f1_0 i)) + (1 : Int32))), .val (.int (x3 &&& (3 : Int32))), .val (.int ((own_f1_0 i) + ((x2 &&& (2147483647 : Int32)) % (((own_f2_0 i) - (own_f1_0 i)) + (1 : Int32))))), .val (.int (1 : Int32)), .unset, .unset, .unset, .unset, .unset, .unset] []))
      exact J _ _ (own_D2 i x2 hi.1 hi.2)
theorem own_rm0 (l : Launch) (Z : State) (a0 : Array Value) (hw : ∀ d ∈ tables_1, d.before a0 Z = true) (ws : List Jvm.Cond) (x0 : Int32) (x1 : Int32) (x2 : Int32) (x3 : Int32) (h0 : Heap) (n0 : Nat) (Z0 : n0 ≤ h0.size) : own_Met l Z x code maxLocals ret ws room_1 #[(.int x0), (.int x1), (.int x2), (.int x3)] h0 (own_Q0 n0) :=
  own_enter (plainFor_of_name own_pn0) (own_ef0 x0 x1 x2 x3) hw (fun p e s m below meth c T X C hh => own_law X C hh x0 x1 x2 x3 n0 Z0)
set_option maxRecDepth 65536 in
set_option maxHeartbeats 40000000 in
theorem own_comes {Post : Tables → Env → Array Value → State → Outcome → State → Prop} (hpost : ∀ tb e args s v u, (limb_1_1.after args s (.returned v) u = true ∧ limb_1_2.after args s (.returned v) u = true ∧ True) → FrameEnd s (.returned v) u (Jvm.fieldLocs frame_1_writes args s ++ Jvm.arrayLocs frame_1_arrays args s ++ Jvm.staticLocs frame_1_statics s) 0 0 → Post tb e args s (.returned v) u) :
    ArmFor flags0 classFile x code maxLocals ret World_1 tables_1 room_1 Calls_1 rest_1 Pre_1 Post := by
  intro l hfl _ _ p e ha hc hk s m args below hf hA hF happ hP
  obtain ⟨hcalls, hrest, hpre⟩ := hP
  obtain ⟨-, -, -, hnamed, -, -, -, hat⟩ := (Spec.applies_iff hf).mp happ
  obtain ⟨hg, hn⟩ := and_e (Cond.before_iff.mp (show (Jvm.Cond.and given_1 narrow_1).before args s = true from hpre))
  obtain ⟨g0, r0⟩ := and_e hg
  obtain ⟨g1, r1⟩ := and_e r0
  obtain ⟨g2, r2⟩ := and_e r1
  obtain ⟨g3, r3⟩ := and_e r2
  obtain ⟨w0, w1, w2, w3, rfl⟩ : ∃ w0 w1 w2 w3 : Value, args = #[w0, w1, w2, w3] := by
    have hs : args.size = 4 := by simpa [Cond.value, given_1] using g0
    obtain ⟨L⟩ := args
    match L, hs with
    | [w0, w1, w2, w3], _ => exact ⟨w0, w1, w2, w3, rfl⟩
  have hw := fun d (hd : d ∈ tables_1) => atoms_spec (ws := Jvm.Cond.code x code maxLocals ret :: tables_1) hat d (List.mem_cons_of_mem _ hd)
  obtain ⟨i0, ei0⟩ := is_v g1
  obtain rfl : w0 = (.int i0) := Option.some.inj ei0
  obtain ⟨i1, ei1⟩ := is_v g2
  obtain rfl : w1 = (.int i1) := Option.some.inj ei1
  obtain ⟨i2, ei2⟩ := is_v g3
  obtain rfl : w2 = (.int i2) := Option.some.inj ei2
  obtain ⟨i3, ei3⟩ := is_v r3
  obtain rfl : w3 = (.int i3) := Option.some.inj ei3
  obtain ⟨n, o, h1, h2, h3, _, L, rfl, ⟨rfl, N⟩, hq⟩ := own_rm0 l s _ hw tables_1 i0 i1 i2 i3 s.heap s.heap.size (Nat.le_refl _) p e ha hc hk s m _ below hf ((Spec.applies_iff_loose hf).mp happ).1 ⟨rfl, State.Warmed39.refl s, rfl⟩ trivial
  refine ⟨n, _, h1, h2, h3, hpost _ _ _ _ _ _ ⟨Cond.after_iff.mpr rfl, Cond.after_iff.mpr (eq_i res_at (Term.int_eval (1)) rfl), trivial⟩ ⟨hq.1, hq.2.1, (hq.2.2.sift fun y hy => Or.inr (N y hy)).mono (by decide) (by decide)⟩⟩
theorem main_1_1 : Claimed_1_1 := own_comes fun _ _ _ _ _ _ h hF => ⟨h.1, hF⟩
theorem main_1_2 : Claimed_1_2 := own_comes fun _ _ _ _ _ _ h hF => ⟨h.2.1, hF⟩
end Jvm.Pilot.@@N@@
namespace Jvm.Pilot.@@N@@
open Jvm Jvm.ClassFile Sem Op Lib Jvm.Free Jvm.Stand Jvm.Pilot.@@N@@.Jvm.D
/-! MADE BY PROGRAM (witnessworld.py) out of the Statement's table words and the real class files: 9 classes; the members and pool entries that the words name. The judged class is class 1, her method 5. -/
namespace start1
open Jvm.ClassFile
def u (s : String) : CpInfo := .utf8 (stringToUtf16 s)
/-- a pool by its gaps: so many unusable entries, then the entry; so many at the end -/
def gap : Nat → List CpInfo → List CpInfo
  | 0, r => r
  | n + 1, r => .unusable :: gap n r
def poolList (es : List (Nat × CpInfo)) (last : Nat) : List CpInfo := es.foldr (fun e r => gap e.1 (e.2 :: r)) (gap last [])
def pool (es : List (Nat × CpInfo)) (last : Nat) : Array CpInfo := ⟨poolList es last⟩
def fileOf (pool : Array CpInfo) (this : Nat) (attrs : Array Attribute := #[]) (ms : Array MethodInfo := #[]) (fl : Nat := 33) (sup : Nat := 0) (ifs : Array Nat := #[]) (fds : Array FieldInfo := #[]) : ClassFile where
  minorVersion := 0
  majorVersion := 65
  constantPool := pool
  accessFlags := fl
  thisClass := this
  superClass := sup
  interfaces := ifs
  fields := fds
  methods := ms
  attributes := attrs
def plain (name : String) (sup : Option ClassId) : Class where
  name := name
  kind := .ordinary
  loader := none
  accessFlags := 33
  super := sup
  interfaces := #[]
  cf := none
  fields := #[]
  methods := #[]
  instanceTypes := #[]
  staticTypes := #[]
  resolved := #[]
  callSites := []
  init := .initialized
  statics := none
  mirror := none

def pool0 : Array CpInfo := pool [(5, u "<init>"), (0, u "()V"), (1, .class_ 10), (1, u "java/lang/Object")] 113

def k0m0 : Method := { name := "<init>", desc := "()V", sig := { parameters := [], returnType := none }, accessFlags := 1, code := none }
/-- java/lang/Object -/
def k0 : Class := { plain "java/lang/Object" none with
  accessFlags := 33
  interfaces := #[]
  cf := some (fileOf pool0 8 #[] #[{ accessFlags := 1, nameIndex := 5, descriptorIndex := 6, attributes := #[] }] 33 0 #[] #[])
  fields := #[]
  methods := #[k0m0]
  instanceTypes := #[]
  staticTypes := #[]
  resolved := Array.replicate 124 none
  statics := none }

def pool1 : Array CpInfo := pool [(2, .class_ 4), (1, u "java/lang/Object"), (0, u "<init>"), (0, u "()V"), (0, .methodref 8 9), (0, .class_ 10), (0, .nameAndType 11 12), (0, u "com/example/dovetail/dovetail/xml/XmlNamesMayGoOnPinLaw"), (0, u "lowOf"), (0, u "(I)I"), (0, .methodref 8 14), (0, .nameAndType 15 12), (0, u "highOf"), (0, .methodref 8 17), (0, .nameAndType 18 19), (0, u "within"), (0, u "(II)Z"), (0, .integer 2147483647), (0, .methodref 22 23), (0, .class_ 24), (0, .nameAndType 25 26), (0, u "com/example/dovetail/dovetail/xml/XmlNames"), (0, u "mayGoOn"), (0, u "(I)Z"), (0, .methodref 22 28), (0, .nameAndType 29 26), (0, u "mayStart"), (0, .methodref 8 31), (0, .nameAndType 32 26), (0, u "inSet"), (3, u "law"), (0, u "(IIII)Z")] 2

def k1m0 : Method := { name := "<init>", desc := "()V", sig := { parameters := [], returnType := none }, accessFlags := 2, code := none }
def k1c1 : Code := { maxStack := 2, maxLocals := 1, code := method_2_code, exceptionTable := #[], attributes := #[] }
def k1m1 : Method := { name := "lowOf", desc := "(I)I", sig := { parameters := [.int], returnType := some .int }, accessFlags := 10, code := some k1c1 }
def k1c2 : Code := { maxStack := 2, maxLocals := 1, code := method_3_code, exceptionTable := #[], attributes := #[] }
def k1m2 : Method := { name := "highOf", desc := "(I)I", sig := { parameters := [.int], returnType := some .int }, accessFlags := 10, code := some k1c2 }
def k1c3 : Code := { maxStack := 2, maxLocals := 2, code := method_4_code, exceptionTable := #[], attributes := #[] }
def k1m3 : Method := { name := "within", desc := "(II)Z", sig := { parameters := [.int, .int], returnType := some .boolean }, accessFlags := 10, code := some k1c3 }
def k1c4 : Code := { maxStack := 2, maxLocals := 1, code := method_5_code, exceptionTable := #[], attributes := #[] }
def k1m4 : Method := { name := "inSet", desc := "(I)Z", sig := { parameters := [.int], returnType := some .boolean }, accessFlags := 10, code := some k1c4 }
def k1c5 : Code := { maxStack := 3, maxLocals := 17, code := code, exceptionTable := #[], attributes := #[] }
def k1m5 : Method := { name := "law", desc := "(IIII)Z", sig := { parameters := [.int, .int, .int, .int], returnType := some .boolean }, accessFlags := 9, code := some k1c5 }
/-- com/example/dovetail/dovetail/xml/XmlNamesMayGoOnPinLaw -/
def k1 : Class := { plain "com/example/dovetail/dovetail/xml/XmlNamesMayGoOnPinLaw" (some 0) with
  accessFlags := 49
  interfaces := #[]
  cf := some (fileOf pool1 8 #[] #[{ accessFlags := 2, nameIndex := 5, descriptorIndex := 6, attributes := #[] }, { accessFlags := 10, nameIndex := 11, descriptorIndex := 12, attributes := #[] }, { accessFlags := 10, nameIndex := 15, descriptorIndex := 12, attributes := #[] }, { accessFlags := 10, nameIndex := 18, descriptorIndex := 19, attributes := #[] }, { accessFlags := 10, nameIndex := 32, descriptorIndex := 26, attributes := #[] }, { accessFlags := 9, nameIndex := 36, descriptorIndex := 37, attributes := #[] }] 49 2 #[] #[])
  fields := #[]
  methods := #[k1m0, k1m1, k1m2, k1m3, k1m4, k1m5]
  instanceTypes := #[]
  staticTypes := #[]
  resolved := Array.replicate 40 none
  statics := none }

def pool2 : Array CpInfo := pool [(2, .class_ 4), (1, u "java/lang/Object"), (0, u "<init>"), (0, u "()V"), (7, .class_ 16), (1, u "com/example/dovetail/dovetail/xml/XmlNames"), (24, u "mayStart"), (0, u "(I)Z"), (11, u "mayGoOn"), (0, .integer 55295), (0, .integer 63744), (0, .integer 64975), (0, .integer 65008), (0, .integer 65533), (0, .integer 65536), (0, .integer 983039)] 53

def k2m0 : Method := { name := "<init>", desc := "()V", sig := { parameters := [], returnType := none }, accessFlags := 2, code := none }
def k2c1 : Code := { maxStack := 2, maxLocals := 1, code := prog_121_method_5_code, exceptionTable := #[], attributes := #[] }
def k2m1 : Method := { name := "mayStart", desc := "(I)Z", sig := { parameters := [.int], returnType := some .boolean }, accessFlags := 8, code := some k2c1 }
def k2c2 : Code := { maxStack := 2, maxLocals := 1, code := prog_121_method_6_code, exceptionTable := #[], attributes := #[] }
def k2m2 : Method := { name := "mayGoOn", desc := "(I)Z", sig := { parameters := [.int], returnType := some .boolean }, accessFlags := 8, code := some k2c2 }
/-- com/example/dovetail/dovetail/xml/XmlNames -/
def k2 : Class := { plain "com/example/dovetail/dovetail/xml/XmlNames" (some 0) with
  accessFlags := 48
  interfaces := #[]
  cf := some (fileOf pool2 14 #[] #[{ accessFlags := 2, nameIndex := 5, descriptorIndex := 6, attributes := #[] }, { accessFlags := 8, nameIndex := 41, descriptorIndex := 42, attributes := #[] }, { accessFlags := 8, nameIndex := 54, descriptorIndex := 42, attributes := #[] }] 48 2 #[] #[])
  fields := #[]
  methods := #[k2m0, k2m1, k2m2]
  instanceTypes := #[]
  staticTypes := #[]
  resolved := Array.replicate 115 none
  statics := none }

def pool3 : Array CpInfo := pool [(1, u "java/lang/Cloneable"), (0, .class_ 1), (0, u "java/lang/Object"), (0, .class_ 3)] 3

/-- java/lang/Cloneable -/
def k3 : Class := { plain "java/lang/Cloneable" (some 0) with
  accessFlags := 1537
  interfaces := #[]
  cf := some (fileOf pool3 2 #[] #[] 1537 4 #[] #[])
  fields := #[]
  methods := #[]
  instanceTypes := #[]
  staticTypes := #[]
  resolved := Array.replicate 8 none
  statics := none }

def pool4 : Array CpInfo := pool [(1, u "java/io/Serializable"), (0, .class_ 1), (0, u "java/lang/Object"), (0, .class_ 3)] 3

/-- java/io/Serializable -/
def k4 : Class := { plain "java/io/Serializable" (some 0) with
  accessFlags := 1537
  interfaces := #[]
  cf := some (fileOf pool4 2 #[] #[] 1537 4 #[] #[])
  fields := #[]
  methods := #[]
  instanceTypes := #[]
  staticTypes := #[]
  resolved := Array.replicate 8 none
  statics := none }

/-- the primitive byte -/
def k5 : Class := { plain "byte" none with kind := .primitive 'B', accessFlags := 0x411 }
/-- [B -/
def k6 : Class := { plain "[B" (some 0) with kind := .array 5 .byte, interfaces := #[3, 4], accessFlags := 1041 }

/-- the primitive int -/
def k7 : Class := { plain "int" none with kind := .primitive 'I', accessFlags := 0x411 }
/-- [I -/
def k8 : Class := { plain "[I" (some 0) with kind := .array 7 .int, interfaces := #[3, 4], accessFlags := 1041 }

def heap : Heap := #[]
def classes : Array Class := #[k0, k1, k2, k3, k4, k5, k6, k7, k8]
def interned : List (Array UInt16 × Addr) := []
def slotsUsed : Nat := 0
def theMethod : MethodId := ⟨1, 5⟩
def args0 : Array Value := #[.int 5, .int 3, .int 2, .int 1]
def aboutOver (below : List Frame) : State where
  vm := { classes := classes, interned := interned.toArray }
  heap := heap
  slotsUsed := slotsUsed
  threads := #[{ frames := .invoking theMethod args0 :: below }]
def below0 : List Frame := [.native { method := ⟨0, 0⟩, args := #[] }]
def about1 : State := aboutOver below0
def p0 : Program := .bare "" "" ""
def e0 : Env := launch0.env 0 0 0
theorem w_frames : about1.frames = Frame.invoking theMethod args0 :: below0 := rfl
set_option maxRecDepth 65536 in
theorem w_args : argsFit about1.vm theMethod args0 = true := by decide +kernel
set_option maxRecDepth 65536 in
theorem w_heap : heapFits about1 = true := by decide +kernel
set_option maxRecDepth 65536 in
theorem w_runnable : about1.curStatus? = some .runnable := by decide +kernel
set_option maxRecDepth 65536 in
theorem w_alone : about1.alone = true := by decide +kernel
set_option maxRecDepth 65536 in
theorem w_named : about1.methodNamed? x = some theMethod := by decide +kernel
set_option maxRecDepth 65536 in
theorem w_hears : about1.hears theMethod below0 = true := by decide +kernel
set_option maxRecDepth 65536 in
theorem w_ripe : about1.ripe theMethod args0 below0 = true := by decide +kernel
theorem w_running : about1.status = .running := rfl
set_option maxRecDepth 65536 in
theorem w_room : about1.hasRoom e0.platform room_1 = true :=
  launch0.hasRoom_least _ room_1 (by decide +kernel) (by decide +kernel) (by decide +kernel) (by decide +kernel) (by decide +kernel) (by decide +kernel)
theorem allAtoms_all (ts : List Jvm.Cond) (a : Array Jvm.Value) (st : Jvm.State) : (allAtoms ts).before a st = ts.all (fun c => c.before a st) := by
  induction ts with
  | nil => rfl
  | cons c t ih =>
    show (Jvm.Cond.and c (allAtoms t)).before a st = _
    rw [Jvm.Cond.before_and, ih, List.all_cons]
def words1 : List Jvm.Cond := Jvm.Cond.code x code maxLocals ret :: tables_1
/-- a 'code' word, met by the world's own term for the bytes: nothing is compared byte by byte -/
theorem code_word {y : MethodName} {bytes : ByteArray} {mx : Nat} {rt : Option FieldType} {a : Array Value} {s : State} {m : MethodId} {meth : Method} {c : Code} (h1 : s.methodNamed? y = some m) (h2 : s.vm.method? m = some meth) (h3 : meth.code = some c) (h4 : c.code = bytes)
    (h5 : (c.maxLocals == mx && c.exceptionTable.isEmpty && decide (c.maxStack ≤ mostOperands) && decide (meth.sig.returnType = rt) && !meth.locks && decide (parseMethodDescriptor y.desc = some meth.sig)) = true) : (Jvm.Cond.code y bytes mx rt).before a s = true := by
  simp only [Bool.and_eq_true, beq_iff_eq, Bool.not_eq_true', decide_eq_true_eq] at h5
  obtain ⟨⟨⟨⟨⟨g1, g2⟩, g3⟩, g4⟩, g5⟩, g6⟩ := h5
  simp [Cond.before, Cond.holds, Cond.value, h1, h2, h3, h4, g1, g2, g3, g4, g5, g6]
def isCode : Jvm.Cond → Bool
  | .code _ _ _ _ => true
  | _ => false
theorem all_split {L : List Jvm.Cond} {P : Jvm.Cond → Bool} (h1 : L.all (fun c => isCode c || P c) = true) (h2 : ∀ c ∈ L.filter isCode, P c = true) : L.all P = true := by
  refine List.all_eq_true.mpr fun c hc => ?_
  have h := List.all_eq_true.mp h1 c hc
  rcases Bool.eq_false_or_eq_true (isCode c) with hi | hi
  · exact h2 c (List.mem_filter.mpr ⟨hc, hi⟩)
  · simpa [hi] using h
set_option maxRecDepth 65536 in
theorem w_c0 : (Jvm.Cond.code x code maxLocals ret).before args0 about1 = true := code_word (m := ⟨1, 5⟩) (meth := k1m5) (c := k1c5) (by decide +kernel) rfl rfl rfl (by decide +kernel)
set_option maxRecDepth 65536 in
theorem w_c1 : (Jvm.Cond.code ({ cls := "com/example/dovetail/dovetail/xml/XmlNamesMayGoOnPinLaw", name := "lowOf", desc := "(I)I" } : Jvm.MethodName) method_2_code (1 : Nat) (Option.some Jvm.ClassFile.FieldType.int)).before args0 about1 = true := code_word (m := ⟨1, 1⟩) (meth := k1m1) (c := k1c1) (by decide +kernel) rfl rfl rfl (by decide +kernel)
set_option maxRecDepth 65536 in
theorem w_c2 : (Jvm.Cond.code ({ cls := "com/example/dovetail/dovetail/xml/XmlNamesMayGoOnPinLaw", name := "highOf", desc := "(I)I" } : Jvm.MethodName) method_3_code (1 : Nat) (Option.some Jvm.ClassFile.FieldType.int)).before args0 about1 = true := code_word (m := ⟨1, 2⟩) (meth := k1m2) (c := k1c2) (by decide +kernel) rfl rfl rfl (by decide +kernel)
set_option maxRecDepth 65536 in
theorem w_c3 : (Jvm.Cond.code ({ cls := "com/example/dovetail/dovetail/xml/XmlNames", name := "mayGoOn", desc := "(I)Z" } : Jvm.MethodName) prog_121_method_6_code (1 : Nat) (Option.some Jvm.ClassFile.FieldType.boolean)).before args0 about1 = true := code_word (m := ⟨2, 2⟩) (meth := k2m2) (c := k2c2) (by decide +kernel) rfl rfl rfl (by decide +kernel)
set_option maxRecDepth 65536 in
theorem w_c4 : (Jvm.Cond.code ({ cls := "com/example/dovetail/dovetail/xml/XmlNamesMayGoOnPinLaw", name := "inSet", desc := "(I)Z" } : Jvm.MethodName) method_5_code (1 : Nat) (Option.some Jvm.ClassFile.FieldType.boolean)).before args0 about1 = true := code_word (m := ⟨1, 4⟩) (meth := k1m4) (c := k1c4) (by decide +kernel) rfl rfl rfl (by decide +kernel)
set_option maxRecDepth 65536 in
theorem w_c5 : (Jvm.Cond.code ({ cls := "com/example/dovetail/dovetail/xml/XmlNamesMayGoOnPinLaw", name := "within", desc := "(II)Z" } : Jvm.MethodName) method_4_code (2 : Nat) (Option.some Jvm.ClassFile.FieldType.boolean)).before args0 about1 = true := code_word (m := ⟨1, 3⟩) (meth := k1m3) (c := k1c3) (by decide +kernel) rfl rfl rfl (by decide +kernel)
set_option maxRecDepth 65536 in
theorem w_c6 : (Jvm.Cond.code ({ cls := "com/example/dovetail/dovetail/xml/XmlNames", name := "mayStart", desc := "(I)Z" } : Jvm.MethodName) prog_121_method_5_code (1 : Nat) (Option.some Jvm.ClassFile.FieldType.boolean)).before args0 about1 = true := code_word (m := ⟨2, 1⟩) (meth := k2m1) (c := k2c1) (by decide +kernel) rfl rfl rfl (by decide +kernel)
def codes1 : List Jvm.Cond := [Jvm.Cond.code x code maxLocals ret, Jvm.Cond.code ({ cls := "com/example/dovetail/dovetail/xml/XmlNamesMayGoOnPinLaw", name := "lowOf", desc := "(I)I" } : Jvm.MethodName) method_2_code (1 : Nat) (Option.some Jvm.ClassFile.FieldType.int), Jvm.Cond.code ({ cls := "com/example/dovetail/dovetail/xml/XmlNamesMayGoOnPinLaw", name := "highOf", desc := "(I)I" } : Jvm.MethodName) method_3_code (1 : Nat) (Option.some Jvm.ClassFile.FieldType.int), Jvm.Cond.code ({ cls := "com/example/dovetail/dovetail/xml/XmlNames", name := "mayGoOn", desc := "(I)Z" } : Jvm.MethodName) prog_121_method_6_code (1 : Nat) (Option.some Jvm.ClassFile.FieldType.boolean), Jvm.Cond.code ({ cls := "com/example/dovetail/dovetail/xml/XmlNamesMayGoOnPinLaw", name := "inSet", desc := "(I)Z" } : Jvm.MethodName) method_5_code (1 : Nat) (Option.some Jvm.ClassFile.FieldType.boolean), Jvm.Cond.code ({ cls := "com/example/dovetail/dovetail/xml/XmlNamesMayGoOnPinLaw", name := "within", desc := "(II)Z" } : Jvm.MethodName) method_4_code (2 : Nat) (Option.some Jvm.ClassFile.FieldType.boolean), Jvm.Cond.code ({ cls := "com/example/dovetail/dovetail/xml/XmlNames", name := "mayStart", desc := "(I)Z" } : Jvm.MethodName) prog_121_method_5_code (1 : Nat) (Option.some Jvm.ClassFile.FieldType.boolean)]
set_option maxRecDepth 65536 in
theorem codes_eq : words1.filter isCode = codes1 := rfl
theorem w_codes : ∀ c ∈ words1.filter isCode, c.before args0 about1 = true := by
  rw [codes_eq]
  intro c hc
  simp only [codes1, List.mem_cons, List.not_mem_nil, or_false] at hc
  rcases hc with rfl | rfl | rfl | rfl | rfl | rfl | rfl
  · exact w_c0
  · exact w_c1
  · exact w_c2
  · exact w_c3
  · exact w_c4
  · exact w_c5
  · exact w_c6
set_option maxRecDepth 65536 in
theorem w_t1 : (words1.take 24).all (fun c => isCode c || c.before args0 about1) = true := by decide +kernel
set_option maxRecDepth 65536 in
theorem w_t2 : (words1.drop 24).all (fun c => isCode c || c.before args0 about1) = true := by decide +kernel
theorem w_tables : (allAtoms (Jvm.Cond.code x code maxLocals ret :: tables_1)).before args0 about1 = true := by
  rw [allAtoms_all]
  show words1.all (fun c => c.before args0 about1) = true
  refine all_split ?_ w_codes
  rw [← List.take_append_drop 24 words1, List.all_append, w_t1, w_t2]
  rfl
set_option maxRecDepth 65536 in
theorem w_case : (Jvm.Cond.and given_1 narrow_1).before args0 about1 = true := by decide +kernel
theorem w_applies : (headSpec (Jvm.Cond.code x code maxLocals ret :: tables_1) room_1).applies x e0.platform about1 = true :=
  (Spec.applies_iff w_frames).mpr ⟨w_running, w_runnable, w_alone, w_named, w_hears, w_ripe, w_room, w_tables⟩
theorem atStart : AtStart classFile x code maxLocals ret World_1 tables_1 room_1 Calls_1 rest_1 Pre_1 launch0 p0 e0 about1 theMethod args0 below0 :=
  ⟨lists_1, trivial, launch0.admits_env _ _ _, launch0.least_env, fairChoices_fair.cas, fairChoices_fair.clock, w_frames, w_args, w_heap, w_applies, trivial, trivial, w_case⟩
end start1
theorem witness_1 : WitnessClaimed_1 := ⟨start1.p0, start1.e0, start1.about1, start1.theMethod, start1.args0, start1.below0, start1.atStart⟩
end Jvm.Pilot.@@N@@
