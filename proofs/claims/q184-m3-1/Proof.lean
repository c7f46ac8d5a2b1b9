import JvmDerived
import JvmDerived.Pilot.@@N@@Statement
import JvmDerived.Pilot.@@N@@Code
set_option linter.unusedVariables false
set_option linter.unusedSimpArgs false
namespace Jvm.RoadKit
open Sem ClassFile Op Lib Jvm.Stand Jvm.Free Jvm.LawKit
section OwnKit
variable {p : Program} {l : Launch} {e : Env} {R : Room} {s : State} {m : MethodId} {args : Array Value} {below : List Frame} {meth : Method} {c : Code} {T : State} {locs : List Loc} {cells slots : Nat} {Z : State} {a0 : Array Value} {Q : Option Value → Heap → List Loc → Prop} {kc ks : Nat}
/-- the run from A ends, returns, and leaves what Q says -/
def own_Fin (p : Program) (e : Env) (below : List Frame) (s : State) (Q : Option Value → Heap → List Loc → Prop) (kc ks : Nat) (A : State) : Prop :=
  ∃ s₂ o, Steps p.tables e below A s₂ ∧ s₂.status = .running ∧ Ended s₂ below o ∧ ∃ v L, o = .returned v ∧ Q v s₂.heap L ∧ FrameEnd s o s₂ L kc ks
theorem own_go {A A' : State} (h : ∀ t, Steps p.tables e below A' t → Steps p.tables e below A t) (k : own_Fin p e below s Q kc ks A') : own_Fin p e below s Q kc ks A := by
  obtain ⟨s₂, o, h1, r⟩ := k
  exact ⟨s₂, o, h _ h1, r⟩
theorem own_to {A A' : State} (h : Steps p.tables e below A A') (k : own_Fin p e below s Q kc ks A') : own_Fin p e below s Q kc ks A := own_go (fun _ q => h.trans q) k
theorem own_mono {A : State} {Q' : Option Value → Heap → List Loc → Prop} (k : own_Fin p e below s Q kc ks A) (q : ∀ v h L, Q v h L → Q' v h L) : own_Fin p e below s Q' kc ks A := by
  obtain ⟨s₂, o, h1, h2, h3, v, L, h4, h5, h6⟩ := k
  exact ⟨s₂, o, h1, h2, h3, v, L, h4, q _ _ _ h5, h6⟩
/-- what a body knows of itself -/
def own_Ctx (p : Program) (s : State) (m : MethodId) (meth : Method) (c : Code) (Z : State) (a0 : Array Value) (tb : List Cond) (y : MethodName) (bytes : ByteArray) (maxL : Nat) (ret : Option FieldType) : Prop :=
  p.tables.exec = Jvm.exec ∧ c.code = bytes ∧ c.maxLocals = maxL ∧ Z.Warmed39 s.vm ∧ s.vm.findClass y.cls = some m.cls ∧ meth.name = y.name ∧ meth.sig.returnType = ret ∧ meth.locks = false ∧ (∀ d ∈ tb, d.before a0 Z = true)
/-- a contract -/
def own_Met (l : Launch) (Z : State) (y : MethodName) (bytes : ByteArray) (maxL : Nat) (ret : Option FieldType) (ws : List Cond) (rm : Room) (as' : Array Value) (h0 : Heap) (Q : Option Value → Heap → List Loc → Prop) : Prop :=
  MetFree l y (head1 (Cond.code y bytes maxL ret :: ws) rm) (fun a U => a = as' ∧ Z.Warmed39 U.vm ∧ U.heap = h0) (fun _ _ _ _ _ => True) (fun _ U o U' => ∃ v L, o = .returned v ∧ Q v U'.heap L ∧ FrameEnd U o U' L rm.cells rm.slots)
theorem own_enter {y : MethodName} {bytes : ByteArray} {maxL : Nat} {ret : Option FieldType} {rm : Room} {as' : Array Value} {h0 : Heap} {ws tb : List Cond} {Ls : Array Slot} (hp : plainFor y = true) (hef : ∀ m, entryFrame m as' maxL = mkF m 0 Ls []) (hw : ∀ d ∈ tb, d.before a0 Z = true)
    (body : ∀ (p : Program) (e : Env) (s : State) (m : MethodId) (below : List Frame) (meth : Method) (c : Code) (T : State), Stand p l e rm s m as' below meth c T [] 0 0 → own_Ctx p s m meth c Z a0 tb y bytes maxL ret → T.heap = h0 → own_Fin p e below s Q rm.cells rm.slots (T.setTop (mkF m 0 Ls []))) :
    own_Met l Z y bytes maxL ret ws rm as' h0 Q := by
  refine MetFree.of_bodySF hp hisR ?_
  intro p e s m args below meth c s₁ Bd hml0 hP hK
  obtain ⟨rfl, hZ, hh⟩ := hP
  have e0 : s₁.heap = h0 := by rw [← hh, Bd.state]; rfl
  obtain ⟨s₂, o, h1, r⟩ := body p e s m below meth c s₁ (Stand.of_body Bd) ⟨Bd.exec, Bd.bytes, hml0, hZ, findClass_of_methodNamed Bd.named, (name_of_methodNamed Bd.named Bd.method).1, Bd.returns, Bd.notSynchronized, hw⟩ e0
  exact ⟨s₂, o, castTop (hef m) h1, r⟩
/-- a return of a value -/
theorem own_ret (X : Stand p l e R s m args below meth c T locs cells slots) (hlk : meth.locks = false) (hx : p.tables.exec = Jvm.exec) {pc : Nat} {Ls : Array Slot} {w : Value} {t : FieldType} {i : Instr} {rest : List Value} (hret : meth.sig.returnType = some t) (hn : narrow t w = w)
    (hi : (i = .ireturn ∧ (t = .int ∨ t = .boolean ∨ t = .byte ∨ t = .char ∨ t = .short) ∧ ∃ z, w = .int z) ∨ (i = .lreturn ∧ t = .long ∧ ∃ z, w = .long z) ∨ (i = .dreturn ∧ t = .double ∧ ∃ z, w = .double z) ∨ (i = .freturn ∧ t = .float ∧ ∃ z, w = .float z) ∨ (i = .areturn ∧ t.isReference = true ∧ w.isRef = true))
    (hd : decode c.code pc = .ok (i, 1)) (hq : Q (some w) T.heap locs) (hc : cells ≤ kc) (hs : slots ≤ ks) : own_Fin p e below s Q kc ks (T.setTop (mkF m pc Ls (w :: rest))) := by
  obtain ⟨fs, hr, hrun, hended, hW, hsame⟩ := X.leave (v := some w) (fun h => by rw [hret] at h; cases h) hlk
  exact ⟨_, _, retOut X hx hret hn hi hd hr, hrun, hended, _, _, rfl, hq, ⟨_, rfl⟩, hW, hsame.mono hc hs⟩
/-- a return of a boolean, byte, char, short that may be narrowed -/
theorem own_retN (X : Stand p l e R s m args below meth c T locs cells slots) (hlk : meth.locks = false) (hx : p.tables.exec = Jvm.exec) {pc : Nat} {Ls : Array Slot} {z : Int32} {t : FieldType} {rest : List Value} (hret : meth.sig.returnType = some t) (ht : t = .boolean ∨ t = .byte ∨ t = .char ∨ t = .short)
    (hd : decode c.code pc = .ok (.ireturn, 1)) (hq : Q (some (.int (nar t z))) T.heap locs) (hc : cells ≤ kc) (hs : slots ≤ ks) : own_Fin p e below s Q kc ks (T.setTop (mkF m pc Ls (.int z :: rest))) := by
  obtain ⟨fs, hr, hrun, hended, hW, hsame⟩ := X.leave (v := some (.int (nar t z))) (fun h => by rw [hret] at h; cases h) hlk
  exact ⟨_, _, retN X hx hret ht hd hr, hrun, hended, _, _, rfl, hq, ⟨_, rfl⟩, hW, hsame.mono hc hs⟩
/-- a return of nothing -/
theorem own_ret0 (X : Stand p l e R s m args below meth c T locs cells slots) (hlk : meth.locks = false) (hx : p.tables.exec = Jvm.exec) {pc : Nat} {Ls : Array Slot} (hret : meth.sig.returnType = none)
    (hd : decode c.code pc = .ok (.return_, 1)) (hq : Q none T.heap locs) (hc : cells ≤ kc) (hs : slots ≤ ks) : own_Fin p e below s Q kc ks (T.setTop (mkF m pc Ls [])) := by
  obtain ⟨fs, hr, hrun, hended, hW, hsame⟩ := X.leave (v := none) (fun _ => rfl) hlk
  exact ⟨_, _, X.returnOut hx hret hd hr, hrun, hended, _, _, rfl, hq, ⟨_, rfl⟩, hW, hsame.mono hc hs⟩
/-- calls by contract -/
theorem own_callS (X : Stand p l e R s m args below meth c T locs cells slots) (hx : p.tables.exec = Jvm.exec) (hZ : Z.Warmed39 s.vm) {h : Heap} (eT : T.heap = h) {own : String} {index : Nat} {y : MethodName} {bytes : ByteArray} {maxL : Nat} {ret : Option FieldType} (hown : s.vm.findClass own = some m.cls)
    (w1 : (Cond.methodLink own index y).before a0 Z = true) (w2 : (Cond.static y).before a0 Z = true) (w3 : (Cond.initialized y.cls).before a0 Z = true) (w4 : (Cond.code y bytes maxL ret).before a0 Z = true) (hy : y.cls ≠ "java/lang/invoke/MethodHandle" ∧ y.cls ≠ "java/lang/invoke/VarHandle")
    {rm : Room} {argsL rest : List Value} (hM : own_Met l Z y bytes maxL ret [] rm argsL.toArray h Q) (hf : rm.frames + 1 ≤ R.frames) (W : Nat) (hl : W + (maxL + 11) + rm.locals ≤ R.locals) (hcR : cells + rm.cells ≤ R.cells) (hsR : slots + rm.slots ≤ R.slots)
    {g : JFrame} (hg : g.method = m) (hsize : g.locals.size = c.maxLocals) (hlen : ∀ sig, parseMethodDescriptor y.desc = some sig → argsL.length = sig.parameters.length) (hstack : g.stack = argsL.reverse ++ rest) (hW : 2 * g.monitorRoom + (rest.map fun v => v.category).sum ≤ W) (hdg : decode c.code g.pc = .ok (.invokestatic index, 3)) :
    ∃ v T' L, Stand p l e R s m args below meth c T' (locs ++ L) (cells + rm.cells) (slots + rm.slots) ∧ Q v T'.heap L ∧ ∀ target, Steps p.tables e below (T'.setTop { g with pc := g.pc + 3, stack := v.toList ++ rest }) target → Steps p.tables e below (T.setTop g) target := by
  obtain ⟨v, _, ⟨T', L', k', n'⟩, -, X', ⟨L, hQ, l1, y1, z1⟩, st⟩ := Jvm.LawKit.callS X hx hown (mvT hZ w1) (mvT hZ w2) (mvT hZ w3) (mvT hZ w4) hy (backOf (W := W) hM hZ w4 w3 hf hl) hg hsize hlen hstack hW hdg (fun _ _ => ⟨rfl, eT, hcR, hsR⟩)
  dsimp only [Pt.U, Pt.locs, Pt.cells, Pt.slots] at X' l1 y1 z1 st hQ
  subst l1 y1 z1
  exact ⟨v, T', L, X', hQ, st⟩
/-- a result, and nothing else -/
def own_QP (r : Option Value) (h0 : Heap) (v : Option Value) (h : Heap) (L : List Loc) : Prop := v = r ∧ L = [] ∧ h = h0
theorem own_callP (X : Stand p l e R s m args below meth c T locs cells slots) (hx : p.tables.exec = Jvm.exec) (hZ : Z.Warmed39 s.vm) {h : Heap} (eT : T.heap = h) {own : String} {index : Nat} {y : MethodName} {bytes : ByteArray} {maxL : Nat} {ret : Option FieldType} (hown : s.vm.findClass own = some m.cls)
    (w1 : (Cond.methodLink own index y).before a0 Z = true) (w2 : (Cond.static y).before a0 Z = true) (w3 : (Cond.initialized y.cls).before a0 Z = true) (w4 : (Cond.code y bytes maxL ret).before a0 Z = true) (hy : y.cls ≠ "java/lang/invoke/MethodHandle" ∧ y.cls ≠ "java/lang/invoke/VarHandle")
    {fr lo : Nat} {r : Option Value} {argsL rest : List Value} (hM : own_Met l Z y bytes maxL ret [] { frames := fr, cells := 0, slots := 0, locals := lo } argsL.toArray h (own_QP r h)) (hf : fr + 1 ≤ R.frames) (W : Nat) (hl : W + (maxL + 11) + lo ≤ R.locals) (hcR : cells ≤ R.cells) (hsR : slots ≤ R.slots)
    {g : JFrame} (hg : g.method = m) (hsize : g.locals.size = c.maxLocals) (hlen : ∀ sig, parseMethodDescriptor y.desc = some sig → argsL.length = sig.parameters.length) (hstack : g.stack = argsL.reverse ++ rest) (hW : 2 * g.monitorRoom + (rest.map fun v => v.category).sum ≤ W) (hdg : decode c.code g.pc = .ok (.invokestatic index, 3)) :
    ∃ T', Stand p l e R s m args below meth c T' locs cells slots ∧ T'.heap = h ∧ ∀ target, Steps p.tables e below (T'.setTop { g with pc := g.pc + 3, stack := r.toList ++ rest }) target → Steps p.tables e below (T.setTop g) target := by
  obtain ⟨v, T', L, X', ⟨rfl, rfl, e1⟩, st⟩ := own_callS X hx hZ eT hown w1 w2 w3 w4 hy hM hf W hl hcR hsR hg hsize hlen hstack hW hdg
  rw [List.append_nil] at X'
  exact ⟨T', X', e1, st⟩
theorem own_callI (X : Stand p l e R s m args below meth c T locs cells slots) (hx : p.tables.exec = Jvm.exec) (hZ : Z.Warmed39 s.vm) {h : Heap} (eT : T.heap = h) {own : String} {index : Nat} {y : MethodName} {bytes : ByteArray} {maxL : Nat} (hy1 : y.name = "<init>") (hown : s.vm.findClass own = some m.cls)
    (w1 : (Cond.methodLink own index y).before a0 Z = true) (w2 : (Cond.instanceMethod y).before a0 Z = true) (w3 : (Cond.initialized y.cls).before a0 Z = true) (w4 : (Cond.code y bytes maxL none).before a0 Z = true) (hy : y.cls ≠ "java/lang/invoke/MethodHandle" ∧ y.cls ≠ "java/lang/invoke/VarHandle")
    {rm : Room} {a : Addr} {argsL rest : List Value} (hM : own_Met l Z y bytes maxL none [] rm (.ref a :: argsL).toArray h Q) (hf : rm.frames + 1 ≤ R.frames) (W : Nat) (hl : W + (maxL + 11) + rm.locals ≤ R.locals) (hcR : cells + rm.cells ≤ R.cells) (hsR : slots + rm.slots ≤ R.slots)
    {g : JFrame} (hg : g.method = m) (hsize : g.locals.size = c.maxLocals) (hlen : ∀ sig, parseMethodDescriptor y.desc = some sig → argsL.length = sig.parameters.length) (hstack : g.stack = argsL.reverse ++ .ref a :: rest) (hW : 2 * g.monitorRoom + (rest.map fun v => v.category).sum ≤ W) (hdg : decode c.code g.pc = .ok (.invokespecial index, 3)) :
    ∃ v T' L, Stand p l e R s m args below meth c T' (locs ++ L) (cells + rm.cells) (slots + rm.slots) ∧ Q v T'.heap L ∧ ∀ target, Steps p.tables e below (T'.setTop { g with pc := g.pc + 3, stack := v.toList ++ rest }) target → Steps p.tables e below (T.setTop g) target := by
  obtain ⟨v, _, ⟨T', L', k', n'⟩, -, X', ⟨L, hQ, l1, y1, z1⟩, st⟩ := X.specialBack hx hy1 hown (mvT hZ w1) (mvT hZ w2) (mvT hZ w4) hy (backOf (W := W) hM hZ w4 w3 hf hl) hg hsize (Steps.refl _) hlen hstack hW hdg (fun _ _ => ⟨rfl, eT, hcR, hsR⟩)
  dsimp only [Pt.U, Pt.locs, Pt.cells, Pt.slots] at X' l1 y1 z1 st hQ
  subst l1 y1 z1
  exact ⟨v, T', L, X', hQ, fun _ q => st.trans q⟩
theorem own_callIP (X : Stand p l e R s m args below meth c T locs cells slots) (hx : p.tables.exec = Jvm.exec) (hZ : Z.Warmed39 s.vm) {h : Heap} (eT : T.heap = h) {own : String} {index : Nat} {y : MethodName} {bytes : ByteArray} {maxL : Nat} (hy1 : y.name = "<init>") (hown : s.vm.findClass own = some m.cls)
    (w1 : (Cond.methodLink own index y).before a0 Z = true) (w2 : (Cond.instanceMethod y).before a0 Z = true) (w3 : (Cond.initialized y.cls).before a0 Z = true) (w4 : (Cond.code y bytes maxL none).before a0 Z = true) (hy : y.cls ≠ "java/lang/invoke/MethodHandle" ∧ y.cls ≠ "java/lang/invoke/VarHandle")
    {fr lo : Nat} {a : Addr} {argsL rest : List Value} (hM : own_Met l Z y bytes maxL none [] { frames := fr, cells := 0, slots := 0, locals := lo } (.ref a :: argsL).toArray h (own_QP none h)) (hf : fr + 1 ≤ R.frames) (W : Nat) (hl : W + (maxL + 11) + lo ≤ R.locals) (hcR : cells ≤ R.cells) (hsR : slots ≤ R.slots)
    {g : JFrame} (hg : g.method = m) (hsize : g.locals.size = c.maxLocals) (hlen : ∀ sig, parseMethodDescriptor y.desc = some sig → argsL.length = sig.parameters.length) (hstack : g.stack = argsL.reverse ++ .ref a :: rest) (hW : 2 * g.monitorRoom + (rest.map fun v => v.category).sum ≤ W) (hdg : decode c.code g.pc = .ok (.invokespecial index, 3)) :
    ∃ T', Stand p l e R s m args below meth c T' locs cells slots ∧ T'.heap = h ∧ ∀ target, Steps p.tables e below (T'.setTop { g with pc := g.pc + 3, stack := rest }) target → Steps p.tables e below (T.setTop g) target := by
  obtain ⟨v, T', L, X', ⟨rfl, rfl, e1⟩, st⟩ := own_callI X hx hZ eT hy1 hown w1 w2 w3 w4 hy hM hf W hl hcR hsR hg hsize hlen hstack hW hdg
  rw [List.append_nil] at X'
  exact ⟨T', X', e1, st⟩
theorem own_callV (X : Stand p l e R s m args below meth c T locs cells slots) (hx : p.tables.exec = Jvm.exec) (hZ : Z.Warmed39 s.vm) {h : Heap} (eT : T.heap = h) {own C : String} {index : Nat} {y : MethodName} {bytes : ByteArray} {maxL : Nat} {ret : Option FieldType} (hown : s.vm.findClass own = some m.cls)
    (w1 : (Cond.methodLink own index y).before a0 Z = true) (wd : (Cond.declares y).before a0 Z = true) (ws : (Cond.selects C y y).before a0 Z = true) (w2 : (Cond.instanceMethod y).before a0 Z = true) (w3 : (Cond.initialized y.cls).before a0 Z = true) (w4 : (Cond.code y bytes maxL ret).before a0 Z = true) (hy : y.cls ≠ "java/lang/invoke/MethodHandle" ∧ y.cls ≠ "java/lang/invoke/VarHandle")
    {rm : Room} {a : Addr} (hE : Exa Z h a C) {argsL rest : List Value} (hM : own_Met l Z y bytes maxL ret [] rm (.ref a :: argsL).toArray h Q) (hf : rm.frames + 1 ≤ R.frames) (W : Nat) (hl : W + (maxL + 11) + rm.locals ≤ R.locals) (hcR : cells + rm.cells ≤ R.cells) (hsR : slots + rm.slots ≤ R.slots)
    {g : JFrame} (hg : g.method = m) (hsize : g.locals.size = c.maxLocals) (hlen : ∀ sig, parseMethodDescriptor y.desc = some sig → argsL.length = sig.parameters.length) (hstack : g.stack = argsL.reverse ++ .ref a :: rest) (hW : 2 * g.monitorRoom + (rest.map fun v => v.category).sum ≤ W) (hdg : decode c.code g.pc = .ok (.invokevirtual index, 3)) :
    ∃ v T' L, Stand p l e R s m args below meth c T' (locs ++ L) (cells + rm.cells) (slots + rm.slots) ∧ Q v T'.heap L ∧ ∀ target, Steps p.tables e below (T'.setTop { g with pc := g.pc + 3, stack := v.toList ++ rest }) target → Steps p.tables e below (T.setTop g) target := by
  obtain ⟨cq, kq, qa, qb, qc⟩ := isOf hZ eT hE
  obtain ⟨v, _, ⟨T', L', k', n'⟩, -, X', ⟨L, hQ, l1, y1, z1⟩, st⟩ := X.virtualBack hx hown (mvT hZ w1) (mvT hZ wd) (notFace_of_selects (args := #[]) (mvT hZ ws)) (mvT hZ ws) (mvT hZ w2) hy (backOf (W := W) hM hZ w4 w3 hf hl) qa qc hg hsize (Steps.refl _) hlen hstack hW hdg (fun _ _ => ⟨rfl, eT, hcR, hsR⟩)
  dsimp only [Pt.U, Pt.locs, Pt.cells, Pt.slots] at X' l1 y1 z1 st hQ
  subst l1 y1 z1
  exact ⟨v, T', L, X', hQ, fun _ q => st.trans q⟩
/-- a virtual call that only reads -/
theorem own_callVP (X : Stand p l e R s m args below meth c T locs cells slots) (hx : p.tables.exec = Jvm.exec) (hZ : Z.Warmed39 s.vm) {h : Heap} (eT : T.heap = h) {own C : String} {index : Nat} {y : MethodName} {bytes : ByteArray} {maxL : Nat} {ret : Option FieldType} (hown : s.vm.findClass own = some m.cls)
    (w1 : (Cond.methodLink own index y).before a0 Z = true) (wd : (Cond.declares y).before a0 Z = true) (ws : (Cond.selects C y y).before a0 Z = true) (w2 : (Cond.instanceMethod y).before a0 Z = true) (w3 : (Cond.initialized y.cls).before a0 Z = true) (w4 : (Cond.code y bytes maxL ret).before a0 Z = true) (hy : y.cls ≠ "java/lang/invoke/MethodHandle" ∧ y.cls ≠ "java/lang/invoke/VarHandle")
    {fr lo : Nat} {r : Option Value} {a : Addr} (hE : Exa Z h a C) {argsL rest : List Value} (hM : own_Met l Z y bytes maxL ret [] { frames := fr, cells := 0, slots := 0, locals := lo } (.ref a :: argsL).toArray h (own_QP r h)) (hf : fr + 1 ≤ R.frames) (W : Nat) (hl : W + (maxL + 11) + lo ≤ R.locals) (hcR : cells ≤ R.cells) (hsR : slots ≤ R.slots)
    {g : JFrame} (hg : g.method = m) (hsize : g.locals.size = c.maxLocals) (hlen : ∀ sig, parseMethodDescriptor y.desc = some sig → argsL.length = sig.parameters.length) (hstack : g.stack = argsL.reverse ++ .ref a :: rest) (hW : 2 * g.monitorRoom + (rest.map fun v => v.category).sum ≤ W) (hdg : decode c.code g.pc = .ok (.invokevirtual index, 3)) :
    ∃ T', Stand p l e R s m args below meth c T' locs cells slots ∧ T'.heap = h ∧ ∀ target, Steps p.tables e below (T'.setTop { g with pc := g.pc + 3, stack := r.toList ++ rest }) target → Steps p.tables e below (T.setTop g) target := by
  obtain ⟨v, T', L, X', ⟨rfl, rfl, e1⟩, st⟩ := own_callV X hx hZ eT hown w1 wd ws w2 w3 w4 hy hE hM hf W hl hcR hsR hg hsize hlen hstack hW hdg
  rw [List.append_nil] at X'
  exact ⟨T', X', e1, st⟩
/-- an array of ints or bytes, its elements by a function -/
def own_A (Z : State) (h : Heap) (a : Addr) (ty : FieldType) (z : Int32) (f : Int32 → Int32) : Prop :=
  ∃ cl : Cell, Arr Z h a cl ty ∧ cl.slots.size = z.toNatClampNeg ∧ ¬ z < 0 ∧ ∀ j : Int32, ¬ j < 0 → j < z → cl.slots[j.toNatClampNeg]? = some (.int (f j))
section A
variable {h h' : Heap} {a b : Addr} {ty : FieldType} {z : Int32} {f : Int32 → Int32} {ws : List Addr} {sl : Nat} {v : Value}
theorem own_A.lt (F : own_A Z h a ty z f) : a < h.size := by obtain ⟨cl, A, -⟩ := F; exact A.lt
theorem own_A.ext (F : own_A Z h a ty z f) (E : Ext h h') : own_A Z h' a ty z f := by obtain ⟨cl, A, r⟩ := F; exact ⟨cl, A.ext E, r⟩
theorem own_A.other (F : own_A Z h a ty z f) (W : Wr h h' b sl v) (q : a ≠ b) : own_A Z h' a ty z f := by obtain ⟨cl, A, r⟩ := F; exact ⟨cl, A.other W q, r⟩
theorem own_A.keep (F : own_A Z h a ty z f) (K : Keep h h' ws) (q : a ∉ ws) : own_A Z h' a ty z f := by obtain ⟨cl, A, r⟩ := F; exact ⟨cl, ⟨K.2.1 a cl A.1 q, A.2⟩, r⟩
theorem own_A.cong (F : own_A Z h a ty z f) {f' : Int32 → Int32} (q : ∀ j : Int32, ¬ j < 0 → j < z → f j = f' j) : own_A Z h a ty z f' := by
  obtain ⟨cl, A, S, n, H⟩ := F
  exact ⟨cl, A, S, n, fun j h1 h2 => by rw [← q j h1 h2]; exact H j h1 h2⟩
theorem own_A.set (F : own_A Z h a ty z f) {j w : Int32} (h0 : ¬ j < 0) (hj : j < z) (W : Wr h h' a j.toNatClampNeg (.int w)) : own_A Z h' a ty z (fun i => if i = j then w else f i) := by
  obtain ⟨cl, A, S, n, H⟩ := F
  refine ⟨_, A.same W, by rw [sz_set]; exact S, n, fun i h1 h2 => ?_⟩
  by_cases q : i = j
  · rw [get_hit (inb_of S ⟨h0, hj⟩) q]; show _ = some (Value.int (if i = j then w else f i)); rw [if_pos q]
  · rw [get_miss h0 h1 q, H i h1 h2]; show _ = some (Value.int (if i = j then w else f i)); rw [if_neg q]
theorem own_A.new {k : ClassId} (A : Arr Z h a (newA k ty z) ty) (q : ¬ z < 0) (d : defaultValue ty = .int 0) : own_A Z h a ty z (fun _ => 0) :=
  ⟨_, A, sz_new _ _ _, q, fun j h1 h2 => by rw [get_new (by have := inb_of (sz_new k ty z) ⟨h1, h2⟩; rw [sz_new] at this; exact this), d]⟩
theorem own_A.nn (F : own_A Z h a ty z f) : ¬ z < 0 := by obtain ⟨cl, A, S, n, H⟩ := F; exact n
end A
theorem own_newI (X : Stand p l e R s m args below meth c T locs cells slots) (hx : p.tables.exec = Jvm.exec) (hZ : Z.Warmed39 s.vm) {h : Heap} (eT : T.heap = h) (w : (Cond.arrayClass .int).before a0 Z = true) {g : JFrame} (hg : g.method = m) (hd : decode c.code g.pc = .ok (.newarray .int, 2)) {n : Int32} {rest : List Value} (hs : g.stack = .int n :: rest)
    (hn : ¬ n < 0) (cap : Nat) (hcap : n.toNatClampNeg ≤ cap) (hb : cap * 8 ≤ 536870912) (hc : cells + 1 ≤ R.cells) (hl : slots + cap ≤ R.slots) :
    ∃ T' a, Stand p l e R s m args below meth c T' locs (cells + 1) (slots + cap) ∧ Ext h T'.heap ∧ a = h.size ∧ own_A Z T'.heap a .int n (fun _ => 0) ∧ ∀ target, Steps p.tables e below (T'.setTop { g with pc := g.pc + 2, stack := .ref a :: rest }) target → Steps p.tables e below (T.setTop g) target := by
  obtain ⟨T', h', cA, X', e1, E, A, st⟩ := newP (aty := .int) X hx hZ w eT hg hd hs hn hcap hb hc hl
  subst e1
  exact ⟨T', _, X', E, rfl, own_A.new A hn rfl, st⟩
theorem own_newB (X : Stand p l e R s m args below meth c T locs cells slots) (hx : p.tables.exec = Jvm.exec) (hZ : Z.Warmed39 s.vm) {h : Heap} (eT : T.heap = h) (w : (Cond.arrayClass .byte).before a0 Z = true) {g : JFrame} (hg : g.method = m) (hd : decode c.code g.pc = .ok (.newarray .byte, 2)) {n : Int32} {rest : List Value} (hs : g.stack = .int n :: rest)
    (hn : ¬ n < 0) (cap : Nat) (hcap : n.toNatClampNeg ≤ cap) (hb : cap * 8 ≤ 536870912) (hc : cells + 1 ≤ R.cells) (hl : slots + cap ≤ R.slots) :
    ∃ T' a, Stand p l e R s m args below meth c T' locs (cells + 1) (slots + cap) ∧ Ext h T'.heap ∧ a = h.size ∧ own_A Z T'.heap a .byte n (fun _ => 0) ∧ ∀ target, Steps p.tables e below (T'.setTop { g with pc := g.pc + 2, stack := .ref a :: rest }) target → Steps p.tables e below (T.setTop g) target := by
  obtain ⟨T', h', cA, X', e1, E, A, st⟩ := newP (aty := .byte) X hx hZ w eT hg hd hs hn hcap hb hc hl
  subst e1
  exact ⟨T', _, X', E, rfl, own_A.new A hn rfl, st⟩
theorem own_stI (X : Stand p l e R s m args below meth c T locs cells slots) (hx : p.tables.exec = Jvm.exec) (hZ : Z.Warmed39 s.vm) {h : Heap} (eT : T.heap = h) {a : Addr} {z : Int32} {f : Int32 → Int32} (F : own_A Z h a .int z f) {j x : Int32} (h0 : ¬ j < 0) (hj : j < z) {g : JFrame} (hg : g.method = m) {rest : List Value} (hs : g.stack = .int x :: .int j :: .ref a :: rest) (hd : decode c.code g.pc = .ok (.iastore, 1)) :
    ∃ T', Stand p l e R s m args below meth c T' (locs ++ [⟨a, j.toNatClampNeg⟩]) cells slots ∧ Wr h T'.heap a j.toNatClampNeg (.int x) ∧ own_A Z T'.heap a .int z (fun i => if i = j then x else f i) ∧ ∀ target, Steps p.tables e below (T'.setTop { g with pc := g.pc + 1, stack := rest }) target → Steps p.tables e below (T.setTop g) target := by
  obtain ⟨cl, A, S, n, H⟩ := id F
  obtain ⟨T', h', X', e1, W, st⟩ := stI X hx hZ eT A (inb_of S ⟨h0, hj⟩) hg hs hd
  subst e1
  exact ⟨T', X', W, F.set h0 hj W, st⟩
theorem own_stB (X : Stand p l e R s m args below meth c T locs cells slots) (hx : p.tables.exec = Jvm.exec) (hZ : Z.Warmed39 s.vm) {h : Heap} (eT : T.heap = h) {a : Addr} {z : Int32} {f : Int32 → Int32} (F : own_A Z h a .byte z f) {j x : Int32} (h0 : ¬ j < 0) (hj : j < z) {g : JFrame} (hg : g.method = m) {rest : List Value} (hs : g.stack = .int x :: .int j :: .ref a :: rest) (hd : decode c.code g.pc = .ok (.bastore, 1)) :
    ∃ T', Stand p l e R s m args below meth c T' (locs ++ [⟨a, j.toNatClampNeg⟩]) cells slots ∧ Wr h T'.heap a j.toNatClampNeg (.int x.toInt8.toInt32) ∧ own_A Z T'.heap a .byte z (fun i => if i = j then x.toInt8.toInt32 else f i) ∧ ∀ target, Steps p.tables e below (T'.setTop { g with pc := g.pc + 1, stack := rest }) target → Steps p.tables e below (T.setTop g) target := by
  obtain ⟨cl, A, S, n, H⟩ := id F
  obtain ⟨T', h', X', e1, W, st⟩ := stB X hx hZ eT A (inb_of S ⟨h0, hj⟩) hg hs hd
  subst e1
  exact ⟨T', X', W, F.set h0 hj W, st⟩
theorem own_ldI (X : Stand p l e R s m args below meth c T locs cells slots) (hx : p.tables.exec = Jvm.exec) (hZ : Z.Warmed39 s.vm) {h : Heap} (eT : T.heap = h) {a : Addr} {z : Int32} {f : Int32 → Int32} (F : own_A Z h a .int z f) {j : Int32} (h0 : ¬ j < 0) (hj : j < z) {g : JFrame} (hg : g.method = m) {rest : List Value} (hs : g.stack = .int j :: .ref a :: rest) (hd : decode c.code g.pc = .ok (.iaload, 1)) :
    ∀ target, Steps p.tables e below (T.setTop { g with pc := g.pc + 1, stack := .int (f j) :: rest }) target → Steps p.tables e below (T.setTop g) target := by
  obtain ⟨cl, A, S, n, H⟩ := id F
  exact fun target q => X.iaload hx (by rw [eT]; exact A.1) (State.isArrayOf_alike hZ.alike A.2.1) A.2.2 (inb_of S ⟨h0, hj⟩) (H j h0 hj) hg hs hd target q
theorem own_ldB (X : Stand p l e R s m args below meth c T locs cells slots) (hx : p.tables.exec = Jvm.exec) (hZ : Z.Warmed39 s.vm) {h : Heap} (eT : T.heap = h) {a : Addr} {z : Int32} {f : Int32 → Int32} (F : own_A Z h a .byte z f) {j : Int32} (h0 : ¬ j < 0) (hj : j < z) {g : JFrame} (hg : g.method = m) {rest : List Value} (hs : g.stack = .int j :: .ref a :: rest) (hd : decode c.code g.pc = .ok (.baload, 1)) :
    ∀ target, Steps p.tables e below (T.setTop { g with pc := g.pc + 1, stack := .int (f j) :: rest }) target → Steps p.tables e below (T.setTop g) target := by
  obtain ⟨cl, A, S, n, H⟩ := id F
  exact fun target q => X.baloadBytes hx (by rw [eT]; exact A.1) (State.isArrayOf_alike hZ.alike A.2.1) A.2.2 (inb_of S ⟨h0, hj⟩) (H j h0 hj) hg hs hd target q
theorem own_len (X : Stand p l e R s m args below meth c T locs cells slots) (hx : p.tables.exec = Jvm.exec) (hZ : Z.Warmed39 s.vm) {h : Heap} (eT : T.heap = h) {a : Addr} {ty : FieldType} {z : Int32} {f : Int32 → Int32} (F : own_A Z h a ty z f) {g : JFrame} (hg : g.method = m) {rest : List Value} (hs : g.stack = .ref a :: rest) (hd : decode c.code g.pc = .ok (.arraylength, 1)) :
    ∀ target, Steps p.tables e below (T.setTop { g with pc := g.pc + 1, stack := .int z :: rest }) target → Steps p.tables e below (T.setTop g) target := by
  obtain ⟨cl, A, S, n, H⟩ := id F
  exact fun target q => X.arraylength hx (by rw [eT]; exact A.1) (State.isArrayOf_alike hZ.alike A.2.1) hg hs hd target (by rw [len_of S n]; exact q)
/-- fields -/
theorem own_getF (X : Stand p l e R s m args below meth c T locs cells slots) (hx : p.tables.exec = Jvm.exec) (hZ : Z.Warmed39 s.vm) {h : Heap} (eT : T.heap = h) {own O n d : String} {index : Nat} (hown : s.vm.findClass own = some m.cls) (w : (Cond.fieldLink own index O n d).before a0 Z = true)
    {a : Addr} {v : Value} (F : Fld Z h a O n d v) {g : JFrame} (hg : g.method = m) {rest : List Value} (hs : g.stack = .ref a :: rest) (hd : decode c.code g.pc = .ok (.getfield index, 3)) :
    ∃ T', Stand p l e R s m args below meth c T' locs cells slots ∧ T'.heap = h ∧ ∀ target, Steps p.tables e below (T'.setTop { g with pc := g.pc + 3, stack := v :: rest }) target → Steps p.tables e below (T.setTop g) target :=
  getF X hx hZ hown (host := "") (Or.inl w) Via.refl eT F hg hs hd
theorem own_putF (X : Stand p l e R s m args below meth c T locs cells slots) (hx : p.tables.exec = Jvm.exec) (hZ : Z.Warmed39 s.vm) {h : Heap} (eT : T.heap = h) {own O n d C : String} {index kk : Nat} {ty : FieldType} (hown : s.vm.findClass own = some m.cls) (w : (Cond.fieldLink own index O n d).before a0 Z = true)
    {a : Addr} {v old : Value} (F : Fld Z h a O n d old) (E : Exa Z h a C) (L : (Cond.lays C O n d).before a0 Z = true ∨ ((Cond.laysFinal C O n d).before a0 Z = true ∧ own = O ∧ meth.name = "<init>")) (wi : (Cond.instantiable C kk).before a0 Z = true)
    (hty : parseFieldDescriptor d = some ty) (hn : narrow ty v = v) (hf : fits ty v = true) {g : JFrame} (hg : g.method = m) {rest : List Value} (hs : g.stack = v :: .ref a :: rest) (hd : decode c.code g.pc = .ok (.putfield index, 3)) :
    ∃ T', Stand p l e R s m args below meth c T' (locs ++ [⟨a, slotOf Z O n d⟩]) cells slots ∧ Wr h T'.heap a (slotOf Z O n d) v ∧ ∀ target, Steps p.tables e below (T'.setTop { g with pc := g.pc + 3, stack := rest }) target → Steps p.tables e below (T.setTop g) target := by
  obtain ⟨T', h', X', e1, W, st⟩ := putF X hx hZ hown (host := "") (Or.inl w) Via.refl eT F E L wi hty hn hf hg hs hd
  subst e1
  exact ⟨T', X', W, st⟩
/-- comparisons with literals, through Int -/
theorem own_lt {x k : Int32} (K : Int) (hk : k.toInt = K) (h : x.toInt < K) : x < k := by rw [Int32.lt_iff_toInt_lt, hk]; exact h
theorem own_nlt {x k : Int32} (K : Int) (hk : k.toInt = K) (h : K ≤ x.toInt) : ¬ x < k := by rw [Int32.lt_iff_toInt_lt, hk]; omega
theorem own_gt {x k : Int32} (K : Int) (hk : k.toInt = K) (h : K < x.toInt) : k < x := by rw [Int32.lt_iff_toInt_lt, hk]; exact h
theorem own_ngt {x k : Int32} (K : Int) (hk : k.toInt = K) (h : x.toInt ≤ K) : ¬ k < x := by rw [Int32.lt_iff_toInt_lt, hk]; omega
theorem own_ieq {x k : Int32} (K : Int) (hk : k.toInt = K) (h : x.toInt = K) : x = k := Int32.toInt_inj.mp (by rw [hk]; exact h)
theorem own_ineq {x k : Int32} (K : Int) (hk : k.toInt = K) (h : x.toInt < K ∨ K < x.toInt) : ¬ x = k := fun q => by subst q; omega
end OwnKit
end Jvm.RoadKit
namespace Jvm.RoadKit
open Sem ClassFile Op Lib Jvm.Stand Jvm.Free Jvm.LawKit
theorem own_mask31 (b : Int32) : 0 ≤ (b &&& 2147483647).toInt := by
  have h := c_mask b 2147483647 31 (by decide) (by decide)
  rw [h]; exact Int.emod_nonneg _ (by decide)
theorem own_modpos (b k : Int32) (K : Int) (hk : k.toInt = K) (h0 : 0 < K) : 0 ≤ ((b &&& 2147483647) % k).toInt ∧ ((b &&& 2147483647) % k).toInt < K := by
  rw [(c_irem (b &&& 2147483647) k K hk).1 (own_mask31 b)]
  exact ⟨Int.emod_nonneg _ (by omega), Int.emod_lt_of_pos _ h0⟩
theorem own_maskpos (b m : Int32) (k : Nat) (hk : k ≤ 31) (hm : m.toBitVec.toNat = 2 ^ k - 1) (K : Int) (hK : K = ((2 ^ k : Nat) : Int)) (h0 : 0 < K) : 0 ≤ (b &&& m).toInt ∧ (b &&& m).toInt < K := by
  rw [c_mask b m k hk hm, ← hK]
  exact ⟨Int.emod_nonneg _ (by omega), Int.emod_lt_of_pos _ h0⟩
end Jvm.RoadKit
namespace Jvm.RoadKit
open Sem ClassFile Op Lib Jvm.Stand Jvm.Free Jvm.LawKit
theorem own_clamp (n : Int32) (k : Nat) (h : n.toInt ≤ k) : n.toNatClampNeg ≤ k := by
  show n.toInt.toNat ≤ k
  omega
theorem own_bb (x : Int32) : x.toInt8.toInt32.toInt8.toInt32 = x.toInt8.toInt32 := by rw [Int8.toInt8_toInt32]
theorem own_ltT {x y : Int32} (h : x < y) : x.toInt < y.toInt := Int32.lt_iff_toInt_lt.mp h
theorem own_nltT {x y : Int32} (h : ¬ x < y) : y.toInt ≤ x.toInt := by rw [Int32.lt_iff_toInt_lt] at h; omega
theorem own_Tlt {x y : Int32} (h : x.toInt < y.toInt) : x < y := Int32.lt_iff_toInt_lt.mpr h
theorem own_Tnlt {x y : Int32} (h : y.toInt ≤ x.toInt) : ¬ x < y := by rw [Int32.lt_iff_toInt_lt]; omega
theorem own_neT {x y : Int32} (h : ¬ x = y) : ¬ x.toInt = y.toInt := fun q => h (Int32.toInt_inj.mp q)
end Jvm.RoadKit
namespace Jvm.Pilot.@@N@@
open Jvm Jvm.ClassFile Sem Op Lib Jvm.Free Jvm.Stand Jvm.LawKit Jvm.RoadKit Bundle Jvm.Pilot.@@N@@.Jvm.D
theorem own_d1_0 : decode prog_120_method_23_code 0 = .ok (.iload_n 0, 1) := by decide +kernel
theorem own_d1_1 : decode prog_120_method_23_code 1 = .ok (.bipush 9, 2) := by decide +kernel
theorem own_d1_3 : decode prog_120_method_23_code 3 = .ok (.if_icmp .eq 51, 3) := by decide +kernel
theorem own_d1_6 : decode prog_120_method_23_code 6 = .ok (.iload_n 0, 1) := by decide +kernel
theorem own_d1_7 : decode prog_120_method_23_code 7 = .ok (.bipush 10, 2) := by decide +kernel
theorem own_d1_9 : decode prog_120_method_23_code 9 = .ok (.if_icmp .eq 45, 3) := by decide +kernel
theorem own_d1_12 : decode prog_120_method_23_code 12 = .ok (.iload_n 0, 1) := by decide +kernel
theorem own_d1_13 : decode prog_120_method_23_code 13 = .ok (.bipush 13, 2) := by decide +kernel
theorem own_d1_15 : decode prog_120_method_23_code 15 = .ok (.if_icmp .eq 39, 3) := by decide +kernel
theorem own_d1_18 : decode prog_120_method_23_code 18 = .ok (.iload_n 0, 1) := by decide +kernel
theorem own_d1_19 : decode prog_120_method_23_code 19 = .ok (.bipush 32, 2) := by decide +kernel
theorem own_d1_21 : decode prog_120_method_23_code 21 = .ok (.if_icmp .lt 9, 3) := by decide +kernel
theorem own_d1_24 : decode prog_120_method_23_code 24 = .ok (.iload_n 0, 1) := by decide +kernel
theorem own_d1_25 : decode prog_120_method_23_code 25 = .ok (.ldc 198, 2) := by decide +kernel
theorem own_d1_27 : decode prog_120_method_23_code 27 = .ok (.if_icmp .le 27, 3) := by decide +kernel
theorem own_d1_30 : decode prog_120_method_23_code 30 = .ok (.iload_n 0, 1) := by decide +kernel
theorem own_d1_31 : decode prog_120_method_23_code 31 = .ok (.ldc 199, 2) := by decide +kernel
theorem own_d1_33 : decode prog_120_method_23_code 33 = .ok (.if_icmp .lt 9, 3) := by decide +kernel
theorem own_d1_36 : decode prog_120_method_23_code 36 = .ok (.iload_n 0, 1) := by decide +kernel
theorem own_d1_37 : decode prog_120_method_23_code 37 = .ok (.ldc 200, 2) := by decide +kernel
theorem own_d1_39 : decode prog_120_method_23_code 39 = .ok (.if_icmp .le 15, 3) := by decide +kernel
theorem own_d1_42 : decode prog_120_method_23_code 42 = .ok (.iload_n 0, 1) := by decide +kernel
theorem own_d1_43 : decode prog_120_method_23_code 43 = .ok (.ldc 201, 2) := by decide +kernel
theorem own_d1_45 : decode prog_120_method_23_code 45 = .ok (.if_icmp .lt 13, 3) := by decide +kernel
theorem own_d1_48 : decode prog_120_method_23_code 48 = .ok (.iload_n 0, 1) := by decide +kernel
theorem own_d1_49 : decode prog_120_method_23_code 49 = .ok (.ldc 202, 2) := by decide +kernel
theorem own_d1_51 : decode prog_120_method_23_code 51 = .ok (.if_icmp .gt 7, 3) := by decide +kernel
theorem own_d1_54 : decode prog_120_method_23_code 54 = .ok (.iconst 1, 1) := by decide +kernel
theorem own_d1_55 : decode prog_120_method_23_code 55 = .ok (.goto 4, 3) := by decide +kernel
theorem own_d1_58 : decode prog_120_method_23_code 58 = .ok (.iconst 0, 1) := by decide +kernel
theorem own_d1_59 : decode prog_120_method_23_code 59 = .ok (.ireturn, 1) := by decide +kernel
theorem own_ef1 (x0 : Int32) : ∀ m, entryFrame m #[(.int x0)] 1 = mkF m 0 #[.val (.int x0)] [] := fun m => by first | (simp [entryFrame, mkF, argsToLocals, Value.category]; done) | rfl
def own_f1_54 (v0 : Int32) : Int32 := (1 : Int32)
set_option maxRecDepth 65536 in
theorem own_b1_54 {l : Launch} {p : Program} {e : Env} {below : List Frame} {s : State} {m : MethodId} {meth : Method} {c : Code} {Z : State} {a0 args : Array Value} {T : State} {h0 : Heap} (X : Stand p l e ({ frames := 0, cells := 0, slots := 0, locals := 0 } : Room) s m args below meth c T [] 0 0) (C : own_Ctx p s m meth c Z a0 tables_1 (⟨"com/example/dovetail/dovetail/xml/XmlInput", "isXmlCharacter", "(I)Z"⟩ : MethodName) prog_120_method_23_code 1 (some .boolean)) (hh : T.heap = h0) (v0 : Int32) :
    own_Fin p e below s (own_QP (some (.int (own_f1_54 v0))) h0) 0 0 (T.setTop (mkF m 54 #[.val (.int v0)] [])) := by
  obtain ⟨hx, hby, hml, hZ, hown, hnm, hret, hlk, hw⟩ := id C
  refine own_go (fun t => XS.iconst X.here hx rfl (hb hby own_d1_54)) ?_
  show own_Fin p e below s (own_QP (some (.int (own_f1_54 v0))) h0) 0 0 (T.setTop (mkF m 55 #[.val (.int v0)] [(.int (1 : Int32))]))
  refine own_go (fun t => XS.goto X.here hx rfl (pc0 := 55) (pc' := 59) rfl (hb hby own_d1_55) (by decide) (by decide)) ?_
  show own_Fin p e below s (own_QP (some (.int (own_f1_54 v0))) h0) 0 0 (T.setTop (mkF m 59 #[.val (.int v0)] [(.int (1 : Int32))]))
  exact own_ret X hlk hx (t := .boolean) hret rfl (Or.inl ⟨rfl, by simp, _, rfl⟩) (hb hby own_d1_59) ⟨rfl, rfl, hh⟩ (by decide) (by decide)
def own_f1_58 (v0 : Int32) : Int32 := (0 : Int32)
set_option maxRecDepth 65536 in
theorem own_b1_58 {l : Launch} {p : Program} {e : Env} {below : List Frame} {s : State} {m : MethodId} {meth : Method} {c : Code} {Z : State} {a0 args : Array Value} {T : State} {h0 : Heap} (X : Stand p l e ({ frames := 0, cells := 0, slots := 0, locals := 0 } : Room) s m args below meth c T [] 0 0) (C : own_Ctx p s m meth c Z a0 tables_1 (⟨"com/example/dovetail/dovetail/xml/XmlInput", "isXmlCharacter", "(I)Z"⟩ : MethodName) prog_120_method_23_code 1 (some .boolean)) (hh : T.heap = h0) (v0 : Int32) :
    own_Fin p e below s (own_QP (some (.int (own_f1_58 v0))) h0) 0 0 (T.setTop (mkF m 58 #[.val (.int v0)] [])) := by
  obtain ⟨hx, hby, hml, hZ, hown, hnm, hret, hlk, hw⟩ := id C
  refine own_go (fun t => XS.iconst X.here hx rfl (hb hby own_d1_58)) ?_
  show own_Fin p e below s (own_QP (some (.int (own_f1_58 v0))) h0) 0 0 (T.setTop (mkF m 59 #[.val (.int v0)] [(.int (0 : Int32))]))
  exact own_ret X hlk hx (t := .boolean) hret rfl (Or.inl ⟨rfl, by simp, _, rfl⟩) (hb hby own_d1_59) ⟨rfl, rfl, hh⟩ (by decide) (by decide)
def own_f1_48 (v0 : Int32) : Int32 := if (1114111 : Int32) < v0 then (own_f1_58 v0) else (own_f1_54 v0)
set_option maxRecDepth 65536 in
theorem own_b1_48 {l : Launch} {p : Program} {e : Env} {below : List Frame} {s : State} {m : MethodId} {meth : Method} {c : Code} {Z : State} {a0 args : Array Value} {T : State} {h0 : Heap} (X : Stand p l e ({ frames := 0, cells := 0, slots := 0, locals := 0 } : Room) s m args below meth c T [] 0 0) (C : own_Ctx p s m meth c Z a0 tables_1 (⟨"com/example/dovetail/dovetail/xml/XmlInput", "isXmlCharacter", "(I)Z"⟩ : MethodName) prog_120_method_23_code 1 (some .boolean)) (hh : T.heap = h0) (v0 : Int32) :
    own_Fin p e below s (own_QP (some (.int (own_f1_48 v0))) h0) 0 0 (T.setTop (mkF m 48 #[.val (.int v0)] [])) := by
  obtain ⟨hx, hby, hml, hZ, hown, hnm, hret, hlk, hw⟩ := id C
  refine own_go (fun t => XS.iloadN X.here hx rfl (hb hby own_d1_48) rfl) ?_
  show own_Fin p e below s (own_QP (some (.int (own_f1_48 v0))) h0) 0 0 (T.setTop (mkF m 49 #[.val (.int v0)] [(.int v0)]))
  refine own_go (fun t => X.ldcInt hx hown (mvT hZ (hw _ (List.mem_of_getElem? (i := 20) rfl))) (g := (mkF m 49 #[.val (.int v0)] [(.int v0)])) rfl (hb hby own_d1_49) t) ?_
  show own_Fin p e below s (own_QP (some (.int (own_f1_48 v0))) h0) 0 0 (T.setTop (mkF m 51 #[.val (.int v0)] [(.int (1114111 : Int32)), (.int v0)]))
  by_cases hq : (1114111 : Int32) < v0
  · show own_Fin p e below s (own_QP (some (.int (own_f1_48 v0))) h0) 0 0 _
    rw [show (own_f1_48 v0) = (own_f1_58 v0) from if_pos hq]
    refine own_go (fun t => XS.icmpYes X.here hx rfl (pc0 := 51) (pc' := 58) rfl (hb hby own_d1_51) rfl (tlt hq).2.2.1 (by decide) (by decide)) ?_
    show own_Fin p e below s (own_QP (some (.int (own_f1_58 v0))) h0) 0 0 (T.setTop (mkF m 58 #[.val (.int v0)] []))
    exact own_b1_58 X C hh v0
  · show own_Fin p e below s (own_QP (some (.int (own_f1_48 v0))) h0) 0 0 _
    rw [show (own_f1_48 v0) = (own_f1_54 v0) from if_neg hq]
    refine own_go (fun t => XS.icmpNo X.here hx rfl (hb hby own_d1_51) rfl (flt hq).2.2.1) ?_
    show own_Fin p e below s (own_QP (some (.int (own_f1_54 v0))) h0) 0 0 (T.setTop (mkF m 54 #[.val (.int v0)] []))
    exact own_b1_54 X C hh v0
def own_f1_42 (v0 : Int32) : Int32 := if v0 < (65536 : Int32) then (own_f1_58 v0) else (own_f1_48 v0)
set_option maxRecDepth 65536 in
theorem own_b1_42 {l : Launch} {p : Program} {e : Env} {below : List Frame} {s : State} {m : MethodId} {meth : Method} {c : Code} {Z : State} {a0 args : Array Value} {T : State} {h0 : Heap} (X : Stand p l e ({ frames := 0, cells := 0, slots := 0, locals := 0 } : Room) s m args below meth c T [] 0 0) (C : own_Ctx p s m meth c Z a0 tables_1 (⟨"com/example/dovetail/dovetail/xml/XmlInput", "isXmlCharacter", "(I)Z"⟩ : MethodName) prog_120_method_23_code 1 (some .boolean)) (hh : T.heap = h0) (v0 : Int32) :
    own_Fin p e below s (own_QP (some (.int (own_f1_42 v0))) h0) 0 0 (T.setTop (mkF m 42 #[.val (.int v0)] [])) := by
  obtain ⟨hx, hby, hml, hZ, hown, hnm, hret, hlk, hw⟩ := id C
  refine own_go (fun t => XS.iloadN X.here hx rfl (hb hby own_d1_42) rfl) ?_
  show own_Fin p e below s (own_QP (some (.int (own_f1_42 v0))) h0) 0 0 (T.setTop (mkF m 43 #[.val (.int v0)] [(.int v0)]))
  refine own_go (fun t => X.ldcInt hx hown (mvT hZ (hw _ (List.mem_of_getElem? (i := 13) rfl))) (g := (mkF m 43 #[.val (.int v0)] [(.int v0)])) rfl (hb hby own_d1_43) t) ?_
  show own_Fin p e below s (own_QP (some (.int (own_f1_42 v0))) h0) 0 0 (T.setTop (mkF m 45 #[.val (.int v0)] [(.int (65536 : Int32)), (.int v0)]))
  by_cases hq : v0 < (65536 : Int32)
  · show own_Fin p e below s (own_QP (some (.int (own_f1_42 v0))) h0) 0 0 _
    rw [show (own_f1_42 v0) = (own_f1_58 v0) from if_pos hq]
    refine own_go (fun t => XS.icmpYes X.here hx rfl (pc0 := 45) (pc' := 58) rfl (hb hby own_d1_45) rfl (tlt hq).1 (by decide) (by decide)) ?_
    show own_Fin p e below s (own_QP (some (.int (own_f1_58 v0))) h0) 0 0 (T.setTop (mkF m 58 #[.val (.int v0)] []))
    exact own_b1_58 X C hh v0
  · show own_Fin p e below s (own_QP (some (.int (own_f1_42 v0))) h0) 0 0 _
    rw [show (own_f1_42 v0) = (own_f1_48 v0) from if_neg hq]
    refine own_go (fun t => XS.icmpNo X.here hx rfl (hb hby own_d1_45) rfl (flt hq).1) ?_
    show own_Fin p e below s (own_QP (some (.int (own_f1_48 v0))) h0) 0 0 (T.setTop (mkF m 48 #[.val (.int v0)] []))
    exact own_b1_48 X C hh v0
def own_f1_36 (v0 : Int32) : Int32 := if (65533 : Int32) < v0 then (own_f1_42 v0) else (own_f1_54 v0)
set_option maxRecDepth 65536 in
theorem own_b1_36 {l : Launch} {p : Program} {e : Env} {below : List Frame} {s : State} {m : MethodId} {meth : Method} {c : Code} {Z : State} {a0 args : Array Value} {T : State} {h0 : Heap} (X : Stand p l e ({ frames := 0, cells := 0, slots := 0, locals := 0 } : Room) s m args below meth c T [] 0 0) (C : own_Ctx p s m meth c Z a0 tables_1 (⟨"com/example/dovetail/dovetail/xml/XmlInput", "isXmlCharacter", "(I)Z"⟩ : MethodName) prog_120_method_23_code 1 (some .boolean)) (hh : T.heap = h0) (v0 : Int32) :
    own_Fin p e below s (own_QP (some (.int (own_f1_36 v0))) h0) 0 0 (T.setTop (mkF m 36 #[.val (.int v0)] [])) := by
  obtain ⟨hx, hby, hml, hZ, hown, hnm, hret, hlk, hw⟩ := id C
  refine own_go (fun t => XS.iloadN X.here hx rfl (hb hby own_d1_36) rfl) ?_
  show own_Fin p e below s (own_QP (some (.int (own_f1_36 v0))) h0) 0 0 (T.setTop (mkF m 37 #[.val (.int v0)] [(.int v0)]))
  refine own_go (fun t => X.ldcInt hx hown (mvT hZ (hw _ (List.mem_of_getElem? (i := 19) rfl))) (g := (mkF m 37 #[.val (.int v0)] [(.int v0)])) rfl (hb hby own_d1_37) t) ?_
  show own_Fin p e below s (own_QP (some (.int (own_f1_36 v0))) h0) 0 0 (T.setTop (mkF m 39 #[.val (.int v0)] [(.int (65533 : Int32)), (.int v0)]))
  by_cases hq : (65533 : Int32) < v0
  · show own_Fin p e below s (own_QP (some (.int (own_f1_36 v0))) h0) 0 0 _
    rw [show (own_f1_36 v0) = (own_f1_42 v0) from if_pos hq]
    refine own_go (fun t => XS.icmpNo X.here hx rfl (hb hby own_d1_39) rfl (tlt hq).2.2.2) ?_
    show own_Fin p e below s (own_QP (some (.int (own_f1_42 v0))) h0) 0 0 (T.setTop (mkF m 42 #[.val (.int v0)] []))
    exact own_b1_42 X C hh v0
  · show own_Fin p e below s (own_QP (some (.int (own_f1_36 v0))) h0) 0 0 _
    rw [show (own_f1_36 v0) = (own_f1_54 v0) from if_neg hq]
    refine own_go (fun t => XS.icmpYes X.here hx rfl (pc0 := 39) (pc' := 54) rfl (hb hby own_d1_39) rfl (flt hq).2.2.2 (by decide) (by decide)) ?_
    show own_Fin p e below s (own_QP (some (.int (own_f1_54 v0))) h0) 0 0 (T.setTop (mkF m 54 #[.val (.int v0)] []))
    exact own_b1_54 X C hh v0
def own_f1_30 (v0 : Int32) : Int32 := if v0 < (57344 : Int32) then (own_f1_42 v0) else (own_f1_36 v0)
set_option maxRecDepth 65536 in
theorem own_b1_30 {l : Launch} {p : Program} {e : Env} {below : List Frame} {s : State} {m : MethodId} {meth : Method} {c : Code} {Z : State} {a0 args : Array Value} {T : State} {h0 : Heap} (X : Stand p l e ({ frames := 0, cells := 0, slots := 0, locals := 0 } : Room) s m args below meth c T [] 0 0) (C : own_Ctx p s m meth c Z a0 tables_1 (⟨"com/example/dovetail/dovetail/xml/XmlInput", "isXmlCharacter", "(I)Z"⟩ : MethodName) prog_120_method_23_code 1 (some .boolean)) (hh : T.heap = h0) (v0 : Int32) :
    own_Fin p e below s (own_QP (some (.int (own_f1_30 v0))) h0) 0 0 (T.setTop (mkF m 30 #[.val (.int v0)] [])) := by
  obtain ⟨hx, hby, hml, hZ, hown, hnm, hret, hlk, hw⟩ := id C
  refine own_go (fun t => XS.iloadN X.here hx rfl (hb hby own_d1_30) rfl) ?_
  show own_Fin p e below s (own_QP (some (.int (own_f1_30 v0))) h0) 0 0 (T.setTop (mkF m 31 #[.val (.int v0)] [(.int v0)]))
  refine own_go (fun t => X.ldcInt hx hown (mvT hZ (hw _ (List.mem_of_getElem? (i := 12) rfl))) (g := (mkF m 31 #[.val (.int v0)] [(.int v0)])) rfl (hb hby own_d1_31) t) ?_
  show own_Fin p e below s (own_QP (some (.int (own_f1_30 v0))) h0) 0 0 (T.setTop (mkF m 33 #[.val (.int v0)] [(.int (57344 : Int32)), (.int v0)]))
  by_cases hq : v0 < (57344 : Int32)
  · show own_Fin p e below s (own_QP (some (.int (own_f1_30 v0))) h0) 0 0 _
    rw [show (own_f1_30 v0) = (own_f1_42 v0) from if_pos hq]
    refine own_go (fun t => XS.icmpYes X.here hx rfl (pc0 := 33) (pc' := 42) rfl (hb hby own_d1_33) rfl (tlt hq).1 (by decide) (by decide)) ?_
    show own_Fin p e below s (own_QP (some (.int (own_f1_42 v0))) h0) 0 0 (T.setTop (mkF m 42 #[.val (.int v0)] []))
    exact own_b1_42 X C hh v0
  · show own_Fin p e below s (own_QP (some (.int (own_f1_30 v0))) h0) 0 0 _
    rw [show (own_f1_30 v0) = (own_f1_36 v0) from if_neg hq]
    refine own_go (fun t => XS.icmpNo X.here hx rfl (hb hby own_d1_33) rfl (flt hq).1) ?_
    show own_Fin p e below s (own_QP (some (.int (own_f1_36 v0))) h0) 0 0 (T.setTop (mkF m 36 #[.val (.int v0)] []))
    exact own_b1_36 X C hh v0
def own_f1_24 (v0 : Int32) : Int32 := if (55295 : Int32) < v0 then (own_f1_30 v0) else (own_f1_54 v0)
set_option maxRecDepth 65536 in
theorem own_b1_24 {l : Launch} {p : Program} {e : Env} {below : List Frame} {s : State} {m : MethodId} {meth : Method} {c : Code} {Z : State} {a0 args : Array Value} {T : State} {h0 : Heap} (X : Stand p l e ({ frames := 0, cells := 0, slots := 0, locals := 0 } : Room) s m args below meth c T [] 0 0) (C : own_Ctx p s m meth c Z a0 tables_1 (⟨"com/example/dovetail/dovetail/xml/XmlInput", "isXmlCharacter", "(I)Z"⟩ : MethodName) prog_120_method_23_code 1 (some .boolean)) (hh : T.heap = h0) (v0 : Int32) :
    own_Fin p e below s (own_QP (some (.int (own_f1_24 v0))) h0) 0 0 (T.setTop (mkF m 24 #[.val (.int v0)] [])) := by
  obtain ⟨hx, hby, hml, hZ, hown, hnm, hret, hlk, hw⟩ := id C
  refine own_go (fun t => XS.iloadN X.here hx rfl (hb hby own_d1_24) rfl) ?_
  show own_Fin p e below s (own_QP (some (.int (own_f1_24 v0))) h0) 0 0 (T.setTop (mkF m 25 #[.val (.int v0)] [(.int v0)]))
  refine own_go (fun t => X.ldcInt hx hown (mvT hZ (hw _ (List.mem_of_getElem? (i := 18) rfl))) (g := (mkF m 25 #[.val (.int v0)] [(.int v0)])) rfl (hb hby own_d1_25) t) ?_
  show own_Fin p e below s (own_QP (some (.int (own_f1_24 v0))) h0) 0 0 (T.setTop (mkF m 27 #[.val (.int v0)] [(.int (55295 : Int32)), (.int v0)]))
  by_cases hq : (55295 : Int32) < v0
  · show own_Fin p e below s (own_QP (some (.int (own_f1_24 v0))) h0) 0 0 _
    rw [show (own_f1_24 v0) = (own_f1_30 v0) from if_pos hq]
    refine own_go (fun t => XS.icmpNo X.here hx rfl (hb hby own_d1_27) rfl (tlt hq).2.2.2) ?_
    show own_Fin p e below s (own_QP (some (.int (own_f1_30 v0))) h0) 0 0 (T.setTop (mkF m 30 #[.val (.int v0)] []))
    exact own_b1_30 X C hh v0
  · show own_Fin p e below s (own_QP (some (.int (own_f1_24 v0))) h0) 0 0 _
    rw [show (own_f1_24 v0) = (own_f1_54 v0) from if_neg hq]
    refine own_go (fun t => XS.icmpYes X.here hx rfl (pc0 := 27) (pc' := 54) rfl (hb hby own_d1_27) rfl (flt hq).2.2.2 (by decide) (by decide)) ?_
    show own_Fin p e below s (own_QP (some (.int (own_f1_54 v0))) h0) 0 0 (T.setTop (mkF m 54 #[.val (.int v0)] []))
    exact own_b1_54 X C hh v0
def own_f1_18 (v0 : Int32) : Int32 := if v0 < (32 : Int32) then (own_f1_30 v0) else (own_f1_24 v0)
set_option maxRecDepth 65536 in
theorem own_b1_18 {l : Launch} {p : Program} {e : Env} {below : List Frame} {s : State} {m : MethodId} {meth : Method} {c : Code} {Z : State} {a0 args : Array Value} {T : State} {h0 : Heap} (X : Stand p l e ({ frames := 0, cells := 0, slots := 0, locals := 0 } : Room) s m args below meth c T [] 0 0) (C : own_Ctx p s m meth c Z a0 tables_1 (⟨"com/example/dovetail/dovetail/xml/XmlInput", "isXmlCharacter", "(I)Z"⟩ : MethodName) prog_120_method_23_code 1 (some .boolean)) (hh : T.heap = h0) (v0 : Int32) :
    own_Fin p e below s (own_QP (some (.int (own_f1_18 v0))) h0) 0 0 (T.setTop (mkF m 18 #[.val (.int v0)] [])) := by
  obtain ⟨hx, hby, hml, hZ, hown, hnm, hret, hlk, hw⟩ := id C
  refine own_go (fun t => XS.iloadN X.here hx rfl (hb hby own_d1_18) rfl) ?_
  show own_Fin p e below s (own_QP (some (.int (own_f1_18 v0))) h0) 0 0 (T.setTop (mkF m 19 #[.val (.int v0)] [(.int v0)]))
  refine own_go (fun t => XS.bipush X.here hx rfl (hb hby own_d1_19)) ?_
  show own_Fin p e below s (own_QP (some (.int (own_f1_18 v0))) h0) 0 0 (T.setTop (mkF m 21 #[.val (.int v0)] [(.int (32 : Int32)), (.int v0)]))
  by_cases hq : v0 < (32 : Int32)
  · show own_Fin p e below s (own_QP (some (.int (own_f1_18 v0))) h0) 0 0 _
    rw [show (own_f1_18 v0) = (own_f1_30 v0) from if_pos hq]
    refine own_go (fun t => XS.icmpYes X.here hx rfl (pc0 := 21) (pc' := 30) rfl (hb hby own_d1_21) rfl (tlt hq).1 (by decide) (by decide)) ?_
    show own_Fin p e below s (own_QP (some (.int (own_f1_30 v0))) h0) 0 0 (T.setTop (mkF m 30 #[.val (.int v0)] []))
    exact own_b1_30 X C hh v0
  · show own_Fin p e below s (own_QP (some (.int (own_f1_18 v0))) h0) 0 0 _
    rw [show (own_f1_18 v0) = (own_f1_24 v0) from if_neg hq]
    refine own_go (fun t => XS.icmpNo X.here hx rfl (hb hby own_d1_21) rfl (flt hq).1) ?_
    show own_Fin p e below s (own_QP (some (.int (own_f1_24 v0))) h0) 0 0 (T.setTop (mkF m 24 #[.val (.int v0)] []))
    exact own_b1_24 X C hh v0
def own_f1_12 (v0 : Int32) : Int32 := if v0 = (13 : Int32) then (own_f1_54 v0) else (own_f1_18 v0)
set_option maxRecDepth 65536 in
theorem own_b1_12 {l : Launch} {p : Program} {e : Env} {below : List Frame} {s : State} {m : MethodId} {meth : Method} {c : Code} {Z : State} {a0 args : Array Value} {T : State} {h0 : Heap} (X : Stand p l e ({ frames := 0, cells := 0, slots := 0, locals := 0 } : Room) s m args below meth c T [] 0 0) (C : own_Ctx p s m meth c Z a0 tables_1 (⟨"com/example/dovetail/dovetail/xml/XmlInput", "isXmlCharacter", "(I)Z"⟩ : MethodName) prog_120_method_23_code 1 (some .boolean)) (hh : T.heap = h0) (v0 : Int32) :
    own_Fin p e below s (own_QP (some (.int (own_f1_12 v0))) h0) 0 0 (T.setTop (mkF m 12 #[.val (.int v0)] [])) := by
  obtain ⟨hx, hby, hml, hZ, hown, hnm, hret, hlk, hw⟩ := id C
  refine own_go (fun t => XS.iloadN X.here hx rfl (hb hby own_d1_12) rfl) ?_
  show own_Fin p e below s (own_QP (some (.int (own_f1_12 v0))) h0) 0 0 (T.setTop (mkF m 13 #[.val (.int v0)] [(.int v0)]))
  refine own_go (fun t => XS.bipush X.here hx rfl (hb hby own_d1_13)) ?_
  show own_Fin p e below s (own_QP (some (.int (own_f1_12 v0))) h0) 0 0 (T.setTop (mkF m 15 #[.val (.int v0)] [(.int (13 : Int32)), (.int v0)]))
  by_cases hq : v0 = (13 : Int32)
  · show own_Fin p e below s (own_QP (some (.int (own_f1_12 v0))) h0) 0 0 _
    rw [show (own_f1_12 v0) = (own_f1_54 v0) from if_pos hq]
    refine own_go (fun t => XS.icmpYes X.here hx rfl (pc0 := 15) (pc' := 54) rfl (hb hby own_d1_15) rfl (teq hq).1 (by decide) (by decide)) ?_
    show own_Fin p e below s (own_QP (some (.int (own_f1_54 v0))) h0) 0 0 (T.setTop (mkF m 54 #[.val (.int v0)] []))
    exact own_b1_54 X C hh v0
  · show own_Fin p e below s (own_QP (some (.int (own_f1_12 v0))) h0) 0 0 _
    rw [show (own_f1_12 v0) = (own_f1_18 v0) from if_neg hq]
    refine own_go (fun t => XS.icmpNo X.here hx rfl (hb hby own_d1_15) rfl (feq hq).1) ?_
    show own_Fin p e below s (own_QP (some (.int (own_f1_18 v0))) h0) 0 0 (T.setTop (mkF m 18 #[.val (.int v0)] []))
    exact own_b1_18 X C hh v0
def own_f1_6 (v0 : Int32) : Int32 := if v0 = (10 : Int32) then (own_f1_54 v0) else (own_f1_12 v0)
set_option maxRecDepth 65536 in
theorem own_b1_6 {l : Launch} {p : Program} {e : Env} {below : List Frame} {s : State} {m : MethodId} {meth : Method} {c : Code} {Z : State} {a0 args : Array Value} {T : State} {h0 : Heap} (X : Stand p l e ({ frames := 0, cells := 0, slots := 0, locals := 0 } : Room) s m args below meth c T [] 0 0) (C : own_Ctx p s m meth c Z a0 tables_1 (⟨"com/example/dovetail/dovetail/xml/XmlInput", "isXmlCharacter", "(I)Z"⟩ : MethodName) prog_120_method_23_code 1 (some .boolean)) (hh : T.heap = h0) (v0 : Int32) :
    own_Fin p e below s (own_QP (some (.int (own_f1_6 v0))) h0) 0 0 (T.setTop (mkF m 6 #[.val (.int v0)] [])) := by
  obtain ⟨hx, hby, hml, hZ, hown, hnm, hret, hlk, hw⟩ := id C
  refine own_go (fun t => XS.iloadN X.here hx rfl (hb hby own_d1_6) rfl) ?_
  show own_Fin p e below s (own_QP (some (.int (own_f1_6 v0))) h0) 0 0 (T.setTop (mkF m 7 #[.val (.int v0)] [(.int v0)]))
  refine own_go (fun t => XS.bipush X.here hx rfl (hb hby own_d1_7)) ?_
  show own_Fin p e below s (own_QP (some (.int (own_f1_6 v0))) h0) 0 0 (T.setTop (mkF m 9 #[.val (.int v0)] [(.int (10 : Int32)), (.int v0)]))
  by_cases hq : v0 = (10 : Int32)
  · show own_Fin p e below s (own_QP (some (.int (own_f1_6 v0))) h0) 0 0 _
    rw [show (own_f1_6 v0) = (own_f1_54 v0) from if_pos hq]
    refine own_go (fun t => XS.icmpYes X.here hx rfl (pc0 := 9) (pc' := 54) rfl (hb hby own_d1_9) rfl (teq hq).1 (by decide) (by decide)) ?_
    show own_Fin p e below s (own_QP (some (.int (own_f1_54 v0))) h0) 0 0 (T.setTop (mkF m 54 #[.val (.int v0)] []))
    exact own_b1_54 X C hh v0
  · show own_Fin p e below s (own_QP (some (.int (own_f1_6 v0))) h0) 0 0 _
    rw [show (own_f1_6 v0) = (own_f1_12 v0) from if_neg hq]
    refine own_go (fun t => XS.icmpNo X.here hx rfl (hb hby own_d1_9) rfl (feq hq).1) ?_
    show own_Fin p e below s (own_QP (some (.int (own_f1_12 v0))) h0) 0 0 (T.setTop (mkF m 12 #[.val (.int v0)] []))
    exact own_b1_12 X C hh v0
def own_f1_0 (v0 : Int32) : Int32 := if v0 = (9 : Int32) then (own_f1_54 v0) else (own_f1_6 v0)
set_option maxRecDepth 65536 in
theorem own_b1_0 {l : Launch} {p : Program} {e : Env} {below : List Frame} {s : State} {m : MethodId} {meth : Method} {c : Code} {Z : State} {a0 args : Array Value} {T : State} {h0 : Heap} (X : Stand p l e ({ frames := 0, cells := 0, slots := 0, locals := 0 } : Room) s m args below meth c T [] 0 0) (C : own_Ctx p s m meth c Z a0 tables_1 (⟨"com/example/dovetail/dovetail/xml/XmlInput", "isXmlCharacter", "(I)Z"⟩ : MethodName) prog_120_method_23_code 1 (some .boolean)) (hh : T.heap = h0) (v0 : Int32) :
    own_Fin p e below s (own_QP (some (.int (own_f1_0 v0))) h0) 0 0 (T.setTop (mkF m 0 #[.val (.int v0)] [])) := by
  obtain ⟨hx, hby, hml, hZ, hown, hnm, hret, hlk, hw⟩ := id C
  refine own_go (fun t => XS.iloadN X.here hx rfl (hb hby own_d1_0) rfl) ?_
  show own_Fin p e below s (own_QP (some (.int (own_f1_0 v0))) h0) 0 0 (T.setTop (mkF m 1 #[.val (.int v0)] [(.int v0)]))
  refine own_go (fun t => XS.bipush X.here hx rfl (hb hby own_d1_1)) ?_
  show own_Fin p e below s (own_QP (some (.int (own_f1_0 v0))) h0) 0 0 (T.setTop (mkF m 3 #[.val (.int v0)] [(.int (9 : Int32)), (.int v0)]))
  by_cases hq : v0 = (9 : Int32)
  · show own_Fin p e below s (own_QP (some (.int (own_f1_0 v0))) h0) 0 0 _
    rw [show (own_f1_0 v0) = (own_f1_54 v0) from if_pos hq]
    refine own_go (fun t => XS.icmpYes X.here hx rfl (pc0 := 3) (pc' := 54) rfl (hb hby own_d1_3) rfl (teq hq).1 (by decide) (by decide)) ?_
    show own_Fin p e below s (own_QP (some (.int (own_f1_54 v0))) h0) 0 0 (T.setTop (mkF m 54 #[.val (.int v0)] []))
    exact own_b1_54 X C hh v0
  · show own_Fin p e below s (own_QP (some (.int (own_f1_0 v0))) h0) 0 0 _
    rw [show (own_f1_0 v0) = (own_f1_6 v0) from if_neg hq]
    refine own_go (fun t => XS.icmpNo X.here hx rfl (hb hby own_d1_3) rfl (feq hq).1) ?_
    show own_Fin p e below s (own_QP (some (.int (own_f1_6 v0))) h0) 0 0 (T.setTop (mkF m 6 #[.val (.int v0)] []))
    exact own_b1_6 X C hh v0
theorem own_pn0 : plainName "com/example/dovetail/dovetail/xml/XmlInput" = true := by first | (simp [plainName, overriddenIn]; done) | decide +kernel
theorem own_c1 (l : Launch) (Z : State) (a0 : Array Value) (hw : ∀ d ∈ tables_1, d.before a0 Z = true) (x0 : Int32) (h0 : Heap) : own_Met l Z (⟨"com/example/dovetail/dovetail/xml/XmlInput", "isXmlCharacter", "(I)Z"⟩ : MethodName) prog_120_method_23_code 1 (some .boolean) [] ({ frames := 0, cells := 0, slots := 0, locals := 0 } : Room) #[(.int x0)] h0 (own_QP (some (.int (own_f1_0 x0))) h0) :=
  own_enter (plainFor_of_name own_pn0) (own_ef1 x0) hw (fun p e s m below meth c T X C hh => own_b1_0 X C hh x0)
theorem own_d2_0 : decode method_2_code 0 = .ok (.iload_n 0, 1) := by decide +kernel
theorem own_d2_1 : decode method_2_code 1 = .ok (.ifCond .lt 9, 3) := by decide +kernel
theorem own_d2_4 : decode method_2_code 4 = .ok (.iload_n 0, 1) := by decide +kernel
theorem own_d2_5 : decode method_2_code 5 = .ok (.ldc 7, 2) := by decide +kernel
theorem own_d2_7 : decode method_2_code 7 = .ok (.if_icmp .le 5, 3) := by decide +kernel
theorem own_d2_10 : decode method_2_code 10 = .ok (.iconst 0, 1) := by decide +kernel
theorem own_d2_11 : decode method_2_code 11 = .ok (.ireturn, 1) := by decide +kernel
theorem own_d2_12 : decode method_2_code 12 = .ok (.iload_n 0, 1) := by decide +kernel
theorem own_d2_13 : decode method_2_code 13 = .ok (.bipush 32, 2) := by decide +kernel
theorem own_d2_15 : decode method_2_code 15 = .ok (.if_icmp .ge 27, 3) := by decide +kernel
theorem own_d2_18 : decode method_2_code 18 = .ok (.iload_n 0, 1) := by decide +kernel
theorem own_d2_19 : decode method_2_code 19 = .ok (.bipush 9, 2) := by decide +kernel
theorem own_d2_21 : decode method_2_code 21 = .ok (.if_icmp .eq 15, 3) := by decide +kernel
theorem own_d2_24 : decode method_2_code 24 = .ok (.iload_n 0, 1) := by decide +kernel
theorem own_d2_25 : decode method_2_code 25 = .ok (.bipush 10, 2) := by decide +kernel
theorem own_d2_27 : decode method_2_code 27 = .ok (.if_icmp .eq 9, 3) := by decide +kernel
theorem own_d2_30 : decode method_2_code 30 = .ok (.iload_n 0, 1) := by decide +kernel
theorem own_d2_31 : decode method_2_code 31 = .ok (.bipush 13, 2) := by decide +kernel
theorem own_d2_33 : decode method_2_code 33 = .ok (.if_icmp .ne 7, 3) := by decide +kernel
theorem own_d2_36 : decode method_2_code 36 = .ok (.iconst 1, 1) := by decide +kernel
theorem own_d2_37 : decode method_2_code 37 = .ok (.goto 4, 3) := by decide +kernel
theorem own_d2_40 : decode method_2_code 40 = .ok (.iconst 0, 1) := by decide +kernel
theorem own_d2_41 : decode method_2_code 41 = .ok (.ireturn, 1) := by decide +kernel
theorem own_d2_42 : decode method_2_code 42 = .ok (.iload_n 0, 1) := by decide +kernel
theorem own_d2_43 : decode method_2_code 43 = .ok (.ldc 8, 2) := by decide +kernel
theorem own_d2_45 : decode method_2_code 45 = .ok (.if_icmp .lt 11, 3) := by decide +kernel
theorem own_d2_48 : decode method_2_code 48 = .ok (.iload_n 0, 1) := by decide +kernel
theorem own_d2_49 : decode method_2_code 49 = .ok (.ldc 9, 2) := by decide +kernel
theorem own_d2_51 : decode method_2_code 51 = .ok (.if_icmp .gt 5, 3) := by decide +kernel
theorem own_d2_54 : decode method_2_code 54 = .ok (.iconst 0, 1) := by decide +kernel
theorem own_d2_55 : decode method_2_code 55 = .ok (.ireturn, 1) := by decide +kernel
theorem own_d2_56 : decode method_2_code 56 = .ok (.iload_n 0, 1) := by decide +kernel
theorem own_d2_57 : decode method_2_code 57 = .ok (.ldc 10, 2) := by decide +kernel
theorem own_d2_59 : decode method_2_code 59 = .ok (.if_icmp .eq 9, 3) := by decide +kernel
theorem own_d2_62 : decode method_2_code 62 = .ok (.iload_n 0, 1) := by decide +kernel
theorem own_d2_63 : decode method_2_code 63 = .ok (.ldc 11, 2) := by decide +kernel
theorem own_d2_65 : decode method_2_code 65 = .ok (.if_icmp .ne 5, 3) := by decide +kernel
theorem own_d2_68 : decode method_2_code 68 = .ok (.iconst 0, 1) := by decide +kernel
theorem own_d2_69 : decode method_2_code 69 = .ok (.ireturn, 1) := by decide +kernel
theorem own_d2_70 : decode method_2_code 70 = .ok (.iconst 1, 1) := by decide +kernel
theorem own_d2_71 : decode method_2_code 71 = .ok (.ireturn, 1) := by decide +kernel
theorem own_ef2 (x0 : Int32) : ∀ m, entryFrame m #[(.int x0)] 1 = mkF m 0 #[.val (.int x0)] [] := fun m => by first | (simp [entryFrame, mkF, argsToLocals, Value.category]; done) | rfl
def own_f2_10 (v0 : Int32) : Int32 := (0 : Int32)
set_option maxRecDepth 65536 in
theorem own_b2_10 {l : Launch} {p : Program} {e : Env} {below : List Frame} {s : State} {m : MethodId} {meth : Method} {c : Code} {Z : State} {a0 args : Array Value} {T : State} {h0 : Heap} (X : Stand p l e ({ frames := 0, cells := 0, slots := 0, locals := 0 } : Room) s m args below meth c T [] 0 0) (C : own_Ctx p s m meth c Z a0 tables_1 (⟨"com/example/dovetail/dovetail/xml/XmlInputIsXmlCharacterPinLaw", "allowed", "(I)Z"⟩ : MethodName) method_2_code 1 (some .boolean)) (hh : T.heap = h0) (v0 : Int32) :
    own_Fin p e below s (own_QP (some (.int (own_f2_10 v0))) h0) 0 0 (T.setTop (mkF m 10 #[.val (.int v0)] [])) := by
  obtain ⟨hx, hby, hml, hZ, hown, hnm, hret, hlk, hw⟩ := id C
  refine own_go (fun t => XS.iconst X.here hx rfl (hb hby own_d2_10)) ?_
  show own_Fin p e below s (own_QP (some (.int (own_f2_10 v0))) h0) 0 0 (T.setTop (mkF m 11 #[.val (.int v0)] [(.int (0 : Int32))]))
  exact own_ret X hlk hx (t := .boolean) hret rfl (Or.inl ⟨rfl, by simp, _, rfl⟩) (hb hby own_d2_11) ⟨rfl, rfl, hh⟩ (by decide) (by decide)
def own_f2_68 (v0 : Int32) : Int32 := (0 : Int32)
set_option maxRecDepth 65536 in
theorem own_b2_68 {l : Launch} {p : Program} {e : Env} {below : List Frame} {s : State} {m : MethodId} {meth : Method} {c : Code} {Z : State} {a0 args : Array Value} {T : State} {h0 : Heap} (X : Stand p l e ({ frames := 0, cells := 0, slots := 0, locals := 0 } : Room) s m args below meth c T [] 0 0) (C : own_Ctx p s m meth c Z a0 tables_1 (⟨"com/example/dovetail/dovetail/xml/XmlInputIsXmlCharacterPinLaw", "allowed", "(I)Z"⟩ : MethodName) method_2_code 1 (some .boolean)) (hh : T.heap = h0) (v0 : Int32) :
    own_Fin p e below s (own_QP (some (.int (own_f2_68 v0))) h0) 0 0 (T.setTop (mkF m 68 #[.val (.int v0)] [])) := by
  obtain ⟨hx, hby, hml, hZ, hown, hnm, hret, hlk, hw⟩ := id C
  refine own_go (fun t => XS.iconst X.here hx rfl (hb hby own_d2_68)) ?_
  show own_Fin p e below s (own_QP (some (.int (own_f2_68 v0))) h0) 0 0 (T.setTop (mkF m 69 #[.val (.int v0)] [(.int (0 : Int32))]))
  exact own_ret X hlk hx (t := .boolean) hret rfl (Or.inl ⟨rfl, by simp, _, rfl⟩) (hb hby own_d2_69) ⟨rfl, rfl, hh⟩ (by decide) (by decide)
def own_f2_70 (v0 : Int32) : Int32 := (1 : Int32)
set_option maxRecDepth 65536 in
theorem own_b2_70 {l : Launch} {p : Program} {e : Env} {below : List Frame} {s : State} {m : MethodId} {meth : Method} {c : Code} {Z : State} {a0 args : Array Value} {T : State} {h0 : Heap} (X : Stand p l e ({ frames := 0, cells := 0, slots := 0, locals := 0 } : Room) s m args below meth c T [] 0 0) (C : own_Ctx p s m meth c Z a0 tables_1 (⟨"com/example/dovetail/dovetail/xml/XmlInputIsXmlCharacterPinLaw", "allowed", "(I)Z"⟩ : MethodName) method_2_code 1 (some .boolean)) (hh : T.heap = h0) (v0 : Int32) :
    own_Fin p e below s (own_QP (some (.int (own_f2_70 v0))) h0) 0 0 (T.setTop (mkF m 70 #[.val (.int v0)] [])) := by
  obtain ⟨hx, hby, hml, hZ, hown, hnm, hret, hlk, hw⟩ := id C
  refine own_go (fun t => XS.iconst X.here hx rfl (hb hby own_d2_70)) ?_
  show own_Fin p e below s (own_QP (some (.int (own_f2_70 v0))) h0) 0 0 (T.setTop (mkF m 71 #[.val (.int v0)] [(.int (1 : Int32))]))
  exact own_ret X hlk hx (t := .boolean) hret rfl (Or.inl ⟨rfl, by simp, _, rfl⟩) (hb hby own_d2_71) ⟨rfl, rfl, hh⟩ (by decide) (by decide)
def own_f2_62 (v0 : Int32) : Int32 := if v0 = (65535 : Int32) then (own_f2_68 v0) else (own_f2_70 v0)
set_option maxRecDepth 65536 in
theorem own_b2_62 {l : Launch} {p : Program} {e : Env} {below : List Frame} {s : State} {m : MethodId} {meth : Method} {c : Code} {Z : State} {a0 args : Array Value} {T : State} {h0 : Heap} (X : Stand p l e ({ frames := 0, cells := 0, slots := 0, locals := 0 } : Room) s m args below meth c T [] 0 0) (C : own_Ctx p s m meth c Z a0 tables_1 (⟨"com/example/dovetail/dovetail/xml/XmlInputIsXmlCharacterPinLaw", "allowed", "(I)Z"⟩ : MethodName) method_2_code 1 (some .boolean)) (hh : T.heap = h0) (v0 : Int32) :
    own_Fin p e below s (own_QP (some (.int (own_f2_62 v0))) h0) 0 0 (T.setTop (mkF m 62 #[.val (.int v0)] [])) := by
  obtain ⟨hx, hby, hml, hZ, hown, hnm, hret, hlk, hw⟩ := id C
  refine own_go (fun t => XS.iloadN X.here hx rfl (hb hby own_d2_62) rfl) ?_
  show own_Fin p e below s (own_QP (some (.int (own_f2_62 v0))) h0) 0 0 (T.setTop (mkF m 63 #[.val (.int v0)] [(.int v0)]))
  refine own_go (fun t => X.ldcInt hx hown (mvT hZ (hw _ (List.mem_of_getElem? (i := 5) rfl))) (g := (mkF m 63 #[.val (.int v0)] [(.int v0)])) rfl (hb hby own_d2_63) t) ?_
  show own_Fin p e below s (own_QP (some (.int (own_f2_62 v0))) h0) 0 0 (T.setTop (mkF m 65 #[.val (.int v0)] [(.int (65535 : Int32)), (.int v0)]))
  by_cases hq : v0 = (65535 : Int32)
  · show own_Fin p e below s (own_QP (some (.int (own_f2_62 v0))) h0) 0 0 _
    rw [show (own_f2_62 v0) = (own_f2_68 v0) from if_pos hq]
    refine own_go (fun t => XS.icmpNo X.here hx rfl (hb hby own_d2_65) rfl (teq hq).2) ?_
    show own_Fin p e below s (own_QP (some (.int (own_f2_68 v0))) h0) 0 0 (T.setTop (mkF m 68 #[.val (.int v0)] []))
    exact own_b2_68 X C hh v0
  · show own_Fin p e below s (own_QP (some (.int (own_f2_62 v0))) h0) 0 0 _
    rw [show (own_f2_62 v0) = (own_f2_70 v0) from if_neg hq]
    refine own_go (fun t => XS.icmpYes X.here hx rfl (pc0 := 65) (pc' := 70) rfl (hb hby own_d2_65) rfl (feq hq).2 (by decide) (by decide)) ?_
    show own_Fin p e below s (own_QP (some (.int (own_f2_70 v0))) h0) 0 0 (T.setTop (mkF m 70 #[.val (.int v0)] []))
    exact own_b2_70 X C hh v0
def own_f2_56 (v0 : Int32) : Int32 := if v0 = (65534 : Int32) then (own_f2_68 v0) else (own_f2_62 v0)
set_option maxRecDepth 65536 in
theorem own_b2_56 {l : Launch} {p : Program} {e : Env} {below : List Frame} {s : State} {m : MethodId} {meth : Method} {c : Code} {Z : State} {a0 args : Array Value} {T : State} {h0 : Heap} (X : Stand p l e ({ frames := 0, cells := 0, slots := 0, locals := 0 } : Room) s m args below meth c T [] 0 0) (C : own_Ctx p s m meth c Z a0 tables_1 (⟨"com/example/dovetail/dovetail/xml/XmlInputIsXmlCharacterPinLaw", "allowed", "(I)Z"⟩ : MethodName) method_2_code 1 (some .boolean)) (hh : T.heap = h0) (v0 : Int32) :
    own_Fin p e below s (own_QP (some (.int (own_f2_56 v0))) h0) 0 0 (T.setTop (mkF m 56 #[.val (.int v0)] [])) := by
  obtain ⟨hx, hby, hml, hZ, hown, hnm, hret, hlk, hw⟩ := id C
  refine own_go (fun t => XS.iloadN X.here hx rfl (hb hby own_d2_56) rfl) ?_
  show own_Fin p e below s (own_QP (some (.int (own_f2_56 v0))) h0) 0 0 (T.setTop (mkF m 57 #[.val (.int v0)] [(.int v0)]))
  refine own_go (fun t => X.ldcInt hx hown (mvT hZ (hw _ (List.mem_of_getElem? (i := 22) rfl))) (g := (mkF m 57 #[.val (.int v0)] [(.int v0)])) rfl (hb hby own_d2_57) t) ?_
  show own_Fin p e below s (own_QP (some (.int (own_f2_56 v0))) h0) 0 0 (T.setTop (mkF m 59 #[.val (.int v0)] [(.int (65534 : Int32)), (.int v0)]))
  by_cases hq : v0 = (65534 : Int32)
  · show own_Fin p e below s (own_QP (some (.int (own_f2_56 v0))) h0) 0 0 _
    rw [show (own_f2_56 v0) = (own_f2_68 v0) from if_pos hq]
    refine own_go (fun t => XS.icmpYes X.here hx rfl (pc0 := 59) (pc' := 68) rfl (hb hby own_d2_59) rfl (teq hq).1 (by decide) (by decide)) ?_
    show own_Fin p e below s (own_QP (some (.int (own_f2_68 v0))) h0) 0 0 (T.setTop (mkF m 68 #[.val (.int v0)] []))
    exact own_b2_68 X C hh v0
  · show own_Fin p e below s (own_QP (some (.int (own_f2_56 v0))) h0) 0 0 _
    rw [show (own_f2_56 v0) = (own_f2_62 v0) from if_neg hq]
    refine own_go (fun t => XS.icmpNo X.here hx rfl (hb hby own_d2_59) rfl (feq hq).1) ?_
    show own_Fin p e below s (own_QP (some (.int (own_f2_62 v0))) h0) 0 0 (T.setTop (mkF m 62 #[.val (.int v0)] []))
    exact own_b2_62 X C hh v0
def own_f2_54 (v0 : Int32) : Int32 := (0 : Int32)
set_option maxRecDepth 65536 in
theorem own_b2_54 {l : Launch} {p : Program} {e : Env} {below : List Frame} {s : State} {m : MethodId} {meth : Method} {c : Code} {Z : State} {a0 args : Array Value} {T : State} {h0 : Heap} (X : Stand p l e ({ frames := 0, cells := 0, slots := 0, locals := 0 } : Room) s m args below meth c T [] 0 0) (C : own_Ctx p s m meth c Z a0 tables_1 (⟨"com/example/dovetail/dovetail/xml/XmlInputIsXmlCharacterPinLaw", "allowed", "(I)Z"⟩ : MethodName) method_2_code 1 (some .boolean)) (hh : T.heap = h0) (v0 : Int32) :
    own_Fin p e below s (own_QP (some (.int (own_f2_54 v0))) h0) 0 0 (T.setTop (mkF m 54 #[.val (.int v0)] [])) := by
  obtain ⟨hx, hby, hml, hZ, hown, hnm, hret, hlk, hw⟩ := id C
  refine own_go (fun t => XS.iconst X.here hx rfl (hb hby own_d2_54)) ?_
  show own_Fin p e below s (own_QP (some (.int (own_f2_54 v0))) h0) 0 0 (T.setTop (mkF m 55 #[.val (.int v0)] [(.int (0 : Int32))]))
  exact own_ret X hlk hx (t := .boolean) hret rfl (Or.inl ⟨rfl, by simp, _, rfl⟩) (hb hby own_d2_55) ⟨rfl, rfl, hh⟩ (by decide) (by decide)
def own_f2_48 (v0 : Int32) : Int32 := if (57343 : Int32) < v0 then (own_f2_56 v0) else (own_f2_54 v0)
set_option maxRecDepth 65536 in
theorem own_b2_48 {l : Launch} {p : Program} {e : Env} {below : List Frame} {s : State} {m : MethodId} {meth : Method} {c : Code} {Z : State} {a0 args : Array Value} {T : State} {h0 : Heap} (X : Stand p l e ({ frames := 0, cells := 0, slots := 0, locals := 0 } : Room) s m args below meth c T [] 0 0) (C : own_Ctx p s m meth c Z a0 tables_1 (⟨"com/example/dovetail/dovetail/xml/XmlInputIsXmlCharacterPinLaw", "allowed", "(I)Z"⟩ : MethodName) method_2_code 1 (some .boolean)) (hh : T.heap = h0) (v0 : Int32) :
    own_Fin p e below s (own_QP (some (.int (own_f2_48 v0))) h0) 0 0 (T.setTop (mkF m 48 #[.val (.int v0)] [])) := by
  obtain ⟨hx, hby, hml, hZ, hown, hnm, hret, hlk, hw⟩ := id C
  refine own_go (fun t => XS.iloadN X.here hx rfl (hb hby own_d2_48) rfl) ?_
  show own_Fin p e below s (own_QP (some (.int (own_f2_48 v0))) h0) 0 0 (T.setTop (mkF m 49 #[.val (.int v0)] [(.int v0)]))
  refine own_go (fun t => X.ldcInt hx hown (mvT hZ (hw _ (List.mem_of_getElem? (i := 3) rfl))) (g := (mkF m 49 #[.val (.int v0)] [(.int v0)])) rfl (hb hby own_d2_49) t) ?_
  show own_Fin p e below s (own_QP (some (.int (own_f2_48 v0))) h0) 0 0 (T.setTop (mkF m 51 #[.val (.int v0)] [(.int (57343 : Int32)), (.int v0)]))
  by_cases hq : (57343 : Int32) < v0
  · show own_Fin p e below s (own_QP (some (.int (own_f2_48 v0))) h0) 0 0 _
    rw [show (own_f2_48 v0) = (own_f2_56 v0) from if_pos hq]
    refine own_go (fun t => XS.icmpYes X.here hx rfl (pc0 := 51) (pc' := 56) rfl (hb hby own_d2_51) rfl (tlt hq).2.2.1 (by decide) (by decide)) ?_
    show own_Fin p e below s (own_QP (some (.int (own_f2_56 v0))) h0) 0 0 (T.setTop (mkF m 56 #[.val (.int v0)] []))
    exact own_b2_56 X C hh v0
  · show own_Fin p e below s (own_QP (some (.int (own_f2_48 v0))) h0) 0 0 _
    rw [show (own_f2_48 v0) = (own_f2_54 v0) from if_neg hq]
    refine own_go (fun t => XS.icmpNo X.here hx rfl (hb hby own_d2_51) rfl (flt hq).2.2.1) ?_
    show own_Fin p e below s (own_QP (some (.int (own_f2_54 v0))) h0) 0 0 (T.setTop (mkF m 54 #[.val (.int v0)] []))
    exact own_b2_54 X C hh v0
def own_f2_42 (v0 : Int32) : Int32 := if v0 < (55296 : Int32) then (own_f2_56 v0) else (own_f2_48 v0)
set_option maxRecDepth 65536 in
theorem own_b2_42 {l : Launch} {p : Program} {e : Env} {below : List Frame} {s : State} {m : MethodId} {meth : Method} {c : Code} {Z : State} {a0 args : Array Value} {T : State} {h0 : Heap} (X : Stand p l e ({ frames := 0, cells := 0, slots := 0, locals := 0 } : Room) s m args below meth c T [] 0 0) (C : own_Ctx p s m meth c Z a0 tables_1 (⟨"com/example/dovetail/dovetail/xml/XmlInputIsXmlCharacterPinLaw", "allowed", "(I)Z"⟩ : MethodName) method_2_code 1 (some .boolean)) (hh : T.heap = h0) (v0 : Int32) :
    own_Fin p e below s (own_QP (some (.int (own_f2_42 v0))) h0) 0 0 (T.setTop (mkF m 42 #[.val (.int v0)] [])) := by
  obtain ⟨hx, hby, hml, hZ, hown, hnm, hret, hlk, hw⟩ := id C
  refine own_go (fun t => XS.iloadN X.here hx rfl (hb hby own_d2_42) rfl) ?_
  show own_Fin p e below s (own_QP (some (.int (own_f2_42 v0))) h0) 0 0 (T.setTop (mkF m 43 #[.val (.int v0)] [(.int v0)]))
  refine own_go (fun t => X.ldcInt hx hown (mvT hZ (hw _ (List.mem_of_getElem? (i := 21) rfl))) (g := (mkF m 43 #[.val (.int v0)] [(.int v0)])) rfl (hb hby own_d2_43) t) ?_
  show own_Fin p e below s (own_QP (some (.int (own_f2_42 v0))) h0) 0 0 (T.setTop (mkF m 45 #[.val (.int v0)] [(.int (55296 : Int32)), (.int v0)]))
  by_cases hq : v0 < (55296 : Int32)
  · show own_Fin p e below s (own_QP (some (.int (own_f2_42 v0))) h0) 0 0 _
    rw [show (own_f2_42 v0) = (own_f2_56 v0) from if_pos hq]
    refine own_go (fun t => XS.icmpYes X.here hx rfl (pc0 := 45) (pc' := 56) rfl (hb hby own_d2_45) rfl (tlt hq).1 (by decide) (by decide)) ?_
    show own_Fin p e below s (own_QP (some (.int (own_f2_56 v0))) h0) 0 0 (T.setTop (mkF m 56 #[.val (.int v0)] []))
    exact own_b2_56 X C hh v0
  · show own_Fin p e below s (own_QP (some (.int (own_f2_42 v0))) h0) 0 0 _
    rw [show (own_f2_42 v0) = (own_f2_48 v0) from if_neg hq]
    refine own_go (fun t => XS.icmpNo X.here hx rfl (hb hby own_d2_45) rfl (flt hq).1) ?_
    show own_Fin p e below s (own_QP (some (.int (own_f2_48 v0))) h0) 0 0 (T.setTop (mkF m 48 #[.val (.int v0)] []))
    exact own_b2_48 X C hh v0
def own_f2_36 (v0 : Int32) : Int32 := (1 : Int32)
set_option maxRecDepth 65536 in
theorem own_b2_36 {l : Launch} {p : Program} {e : Env} {below : List Frame} {s : State} {m : MethodId} {meth : Method} {c : Code} {Z : State} {a0 args : Array Value} {T : State} {h0 : Heap} (X : Stand p l e ({ frames := 0, cells := 0, slots := 0, locals := 0 } : Room) s m args below meth c T [] 0 0) (C : own_Ctx p s m meth c Z a0 tables_1 (⟨"com/example/dovetail/dovetail/xml/XmlInputIsXmlCharacterPinLaw", "allowed", "(I)Z"⟩ : MethodName) method_2_code 1 (some .boolean)) (hh : T.heap = h0) (v0 : Int32) :
    own_Fin p e below s (own_QP (some (.int (own_f2_36 v0))) h0) 0 0 (T.setTop (mkF m 36 #[.val (.int v0)] [])) := by
  obtain ⟨hx, hby, hml, hZ, hown, hnm, hret, hlk, hw⟩ := id C
  refine own_go (fun t => XS.iconst X.here hx rfl (hb hby own_d2_36)) ?_
  show own_Fin p e below s (own_QP (some (.int (own_f2_36 v0))) h0) 0 0 (T.setTop (mkF m 37 #[.val (.int v0)] [(.int (1 : Int32))]))
  refine own_go (fun t => XS.goto X.here hx rfl (pc0 := 37) (pc' := 41) rfl (hb hby own_d2_37) (by decide) (by decide)) ?_
  show own_Fin p e below s (own_QP (some (.int (own_f2_36 v0))) h0) 0 0 (T.setTop (mkF m 41 #[.val (.int v0)] [(.int (1 : Int32))]))
  exact own_ret X hlk hx (t := .boolean) hret rfl (Or.inl ⟨rfl, by simp, _, rfl⟩) (hb hby own_d2_41) ⟨rfl, rfl, hh⟩ (by decide) (by decide)
def own_f2_40 (v0 : Int32) : Int32 := (0 : Int32)
set_option maxRecDepth 65536 in
theorem own_b2_40 {l : Launch} {p : Program} {e : Env} {below : List Frame} {s : State} {m : MethodId} {meth : Method} {c : Code} {Z : State} {a0 args : Array Value} {T : State} {h0 : Heap} (X : Stand p l e ({ frames := 0, cells := 0, slots := 0, locals := 0 } : Room) s m args below meth c T [] 0 0) (C : own_Ctx p s m meth c Z a0 tables_1 (⟨"com/example/dovetail/dovetail/xml/XmlInputIsXmlCharacterPinLaw", "allowed", "(I)Z"⟩ : MethodName) method_2_code 1 (some .boolean)) (hh : T.heap = h0) (v0 : Int32) :
    own_Fin p e below s (own_QP (some (.int (own_f2_40 v0))) h0) 0 0 (T.setTop (mkF m 40 #[.val (.int v0)] [])) := by
  obtain ⟨hx, hby, hml, hZ, hown, hnm, hret, hlk, hw⟩ := id C
  refine own_go (fun t => XS.iconst X.here hx rfl (hb hby own_d2_40)) ?_
  show own_Fin p e below s (own_QP (some (.int (own_f2_40 v0))) h0) 0 0 (T.setTop (mkF m 41 #[.val (.int v0)] [(.int (0 : Int32))]))
  exact own_ret X hlk hx (t := .boolean) hret rfl (Or.inl ⟨rfl, by simp, _, rfl⟩) (hb hby own_d2_41) ⟨rfl, rfl, hh⟩ (by decide) (by decide)
def own_f2_30 (v0 : Int32) : Int32 := if v0 = (13 : Int32) then (own_f2_36 v0) else (own_f2_40 v0)
set_option maxRecDepth 65536 in
theorem own_b2_30 {l : Launch} {p : Program} {e : Env} {below : List Frame} {s : State} {m : MethodId} {meth : Method} {c : Code} {Z : State} {a0 args : Array Value} {T : State} {h0 : Heap} (X : Stand p l e ({ frames := 0, cells := 0, slots := 0, locals := 0 } : Room) s m args below meth c T [] 0 0) (C : own_Ctx p s m meth c Z a0 tables_1 (⟨"com/example/dovetail/dovetail/xml/XmlInputIsXmlCharacterPinLaw", "allowed", "(I)Z"⟩ : MethodName) method_2_code 1 (some .boolean)) (hh : T.heap = h0) (v0 : Int32) :
    own_Fin p e below s (own_QP (some (.int (own_f2_30 v0))) h0) 0 0 (T.setTop (mkF m 30 #[.val (.int v0)] [])) := by
  obtain ⟨hx, hby, hml, hZ, hown, hnm, hret, hlk, hw⟩ := id C
  refine own_go (fun t => XS.iloadN X.here hx rfl (hb hby own_d2_30) rfl) ?_
  show own_Fin p e below s (own_QP (some (.int (own_f2_30 v0))) h0) 0 0 (T.setTop (mkF m 31 #[.val (.int v0)] [(.int v0)]))
  refine own_go (fun t => XS.bipush X.here hx rfl (hb hby own_d2_31)) ?_
  show own_Fin p e below s (own_QP (some (.int (own_f2_30 v0))) h0) 0 0 (T.setTop (mkF m 33 #[.val (.int v0)] [(.int (13 : Int32)), (.int v0)]))
  by_cases hq : v0 = (13 : Int32)
  · show own_Fin p e below s (own_QP (some (.int (own_f2_30 v0))) h0) 0 0 _
    rw [show (own_f2_30 v0) = (own_f2_36 v0) from if_pos hq]
    refine own_go (fun t => XS.icmpNo X.here hx rfl (hb hby own_d2_33) rfl (teq hq).2) ?_
    show own_Fin p e below s (own_QP (some (.int (own_f2_36 v0))) h0) 0 0 (T.setTop (mkF m 36 #[.val (.int v0)] []))
    exact own_b2_36 X C hh v0
  · show own_Fin p e below s (own_QP (some (.int (own_f2_30 v0))) h0) 0 0 _
    rw [show (own_f2_30 v0) = (own_f2_40 v0) from if_neg hq]
    refine own_go (fun t => XS.icmpYes X.here hx rfl (pc0 := 33) (pc' := 40) rfl (hb hby own_d2_33) rfl (feq hq).2 (by decide) (by decide)) ?_
    show own_Fin p e below s (own_QP (some (.int (own_f2_40 v0))) h0) 0 0 (T.setTop (mkF m 40 #[.val (.int v0)] []))
    exact own_b2_40 X C hh v0
def own_f2_24 (v0 : Int32) : Int32 := if v0 = (10 : Int32) then (own_f2_36 v0) else (own_f2_30 v0)
set_option maxRecDepth 65536 in
theorem own_b2_24 {l : Launch} {p : Program} {e : Env} {below : List Frame} {s : State} {m : MethodId} {meth : Method} {c : Code} {Z : State} {a0 args : Array Value} {T : State} {h0 : Heap} (X : Stand p l e ({ frames := 0, cells := 0, slots := 0, locals := 0 } : Room) s m args below meth c T [] 0 0) (C : own_Ctx p s m meth c Z a0 tables_1 (⟨"com/example/dovetail/dovetail/xml/XmlInputIsXmlCharacterPinLaw", "allowed", "(I)Z"⟩ : MethodName) method_2_code 1 (some .boolean)) (hh : T.heap = h0) (v0 : Int32) :
    own_Fin p e below s (own_QP (some (.int (own_f2_24 v0))) h0) 0 0 (T.setTop (mkF m 24 #[.val (.int v0)] [])) := by
  obtain ⟨hx, hby, hml, hZ, hown, hnm, hret, hlk, hw⟩ := id C
  refine own_go (fun t => XS.iloadN X.here hx rfl (hb hby own_d2_24) rfl) ?_
  show own_Fin p e below s (own_QP (some (.int (own_f2_24 v0))) h0) 0 0 (T.setTop (mkF m 25 #[.val (.int v0)] [(.int v0)]))
  refine own_go (fun t => XS.bipush X.here hx rfl (hb hby own_d2_25)) ?_
  show own_Fin p e below s (own_QP (some (.int (own_f2_24 v0))) h0) 0 0 (T.setTop (mkF m 27 #[.val (.int v0)] [(.int (10 : Int32)), (.int v0)]))
  by_cases hq : v0 = (10 : Int32)
  · show own_Fin p e below s (own_QP (some (.int (own_f2_24 v0))) h0) 0 0 _
    rw [show (own_f2_24 v0) = (own_f2_36 v0) from if_pos hq]
    refine own_go (fun t => XS.icmpYes X.here hx rfl (pc0 := 27) (pc' := 36) rfl (hb hby own_d2_27) rfl (teq hq).1 (by decide) (by decide)) ?_
    show own_Fin p e below s (own_QP (some (.int (own_f2_36 v0))) h0) 0 0 (T.setTop (mkF m 36 #[.val (.int v0)] []))
    exact own_b2_36 X C hh v0
  · show own_Fin p e below s (own_QP (some (.int (own_f2_24 v0))) h0) 0 0 _
    rw [show (own_f2_24 v0) = (own_f2_30 v0) from if_neg hq]
    refine own_go (fun t => XS.icmpNo X.here hx rfl (hb hby own_d2_27) rfl (feq hq).1) ?_
    show own_Fin p e below s (own_QP (some (.int (own_f2_30 v0))) h0) 0 0 (T.setTop (mkF m 30 #[.val (.int v0)] []))
    exact own_b2_30 X C hh v0
def own_f2_18 (v0 : Int32) : Int32 := if v0 = (9 : Int32) then (own_f2_36 v0) else (own_f2_24 v0)
set_option maxRecDepth 65536 in
theorem own_b2_18 {l : Launch} {p : Program} {e : Env} {below : List Frame} {s : State} {m : MethodId} {meth : Method} {c : Code} {Z : State} {a0 args : Array Value} {T : State} {h0 : Heap} (X : Stand p l e ({ frames := 0, cells := 0, slots := 0, locals := 0 } : Room) s m args below meth c T [] 0 0) (C : own_Ctx p s m meth c Z a0 tables_1 (⟨"com/example/dovetail/dovetail/xml/XmlInputIsXmlCharacterPinLaw", "allowed", "(I)Z"⟩ : MethodName) method_2_code 1 (some .boolean)) (hh : T.heap = h0) (v0 : Int32) :
    own_Fin p e below s (own_QP (some (.int (own_f2_18 v0))) h0) 0 0 (T.setTop (mkF m 18 #[.val (.int v0)] [])) := by
  obtain ⟨hx, hby, hml, hZ, hown, hnm, hret, hlk, hw⟩ := id C
  refine own_go (fun t => XS.iloadN X.here hx rfl (hb hby own_d2_18) rfl) ?_
  show own_Fin p e below s (own_QP (some (.int (own_f2_18 v0))) h0) 0 0 (T.setTop (mkF m 19 #[.val (.int v0)] [(.int v0)]))
  refine own_go (fun t => XS.bipush X.here hx rfl (hb hby own_d2_19)) ?_
  show own_Fin p e below s (own_QP (some (.int (own_f2_18 v0))) h0) 0 0 (T.setTop (mkF m 21 #[.val (.int v0)] [(.int (9 : Int32)), (.int v0)]))
  by_cases hq : v0 = (9 : Int32)
  · show own_Fin p e below s (own_QP (some (.int (own_f2_18 v0))) h0) 0 0 _
    rw [show (own_f2_18 v0) = (own_f2_36 v0) from if_pos hq]
    refine own_go (fun t => XS.icmpYes X.here hx rfl (pc0 := 21) (pc' := 36) rfl (hb hby own_d2_21) rfl (teq hq).1 (by decide) (by decide)) ?_
    show own_Fin p e below s (own_QP (some (.int (own_f2_36 v0))) h0) 0 0 (T.setTop (mkF m 36 #[.val (.int v0)] []))
    exact own_b2_36 X C hh v0
  · show own_Fin p e below s (own_QP (some (.int (own_f2_18 v0))) h0) 0 0 _
    rw [show (own_f2_18 v0) = (own_f2_24 v0) from if_neg hq]
    refine own_go (fun t => XS.icmpNo X.here hx rfl (hb hby own_d2_21) rfl (feq hq).1) ?_
    show own_Fin p e below s (own_QP (some (.int (own_f2_24 v0))) h0) 0 0 (T.setTop (mkF m 24 #[.val (.int v0)] []))
    exact own_b2_24 X C hh v0
def own_f2_12 (v0 : Int32) : Int32 := if v0 < (32 : Int32) then (own_f2_18 v0) else (own_f2_42 v0)
set_option maxRecDepth 65536 in
theorem own_b2_12 {l : Launch} {p : Program} {e : Env} {below : List Frame} {s : State} {m : MethodId} {meth : Method} {c : Code} {Z : State} {a0 args : Array Value} {T : State} {h0 : Heap} (X : Stand p l e ({ frames := 0, cells := 0, slots := 0, locals := 0 } : Room) s m args below meth c T [] 0 0) (C : own_Ctx p s m meth c Z a0 tables_1 (⟨"com/example/dovetail/dovetail/xml/XmlInputIsXmlCharacterPinLaw", "allowed", "(I)Z"⟩ : MethodName) method_2_code 1 (some .boolean)) (hh : T.heap = h0) (v0 : Int32) :
    own_Fin p e below s (own_QP (some (.int (own_f2_12 v0))) h0) 0 0 (T.setTop (mkF m 12 #[.val (.int v0)] [])) := by
  obtain ⟨hx, hby, hml, hZ, hown, hnm, hret, hlk, hw⟩ := id C
  refine own_go (fun t => XS.iloadN X.here hx rfl (hb hby own_d2_12) rfl) ?_
  show own_Fin p e below s (own_QP (some (.int (own_f2_12 v0))) h0) 0 0 (T.setTop (mkF m 13 #[.val (.int v0)] [(.int v0)]))
  refine own_go (fun t => XS.bipush X.here hx rfl (hb hby own_d2_13)) ?_
  show own_Fin p e below s (own_QP (some (.int (own_f2_12 v0))) h0) 0 0 (T.setTop (mkF m 15 #[.val (.int v0)] [(.int (32 : Int32)), (.int v0)]))
  by_cases hq : v0 < (32 : Int32)
  · show own_Fin p e below s (own_QP (some (.int (own_f2_12 v0))) h0) 0 0 _
    rw [show (own_f2_12 v0) = (own_f2_18 v0) from if_pos hq]
    refine own_go (fun t => XS.icmpNo X.here hx rfl (hb hby own_d2_15) rfl (tlt hq).2.1) ?_
    show own_Fin p e below s (own_QP (some (.int (own_f2_18 v0))) h0) 0 0 (T.setTop (mkF m 18 #[.val (.int v0)] []))
    exact own_b2_18 X C hh v0
  · show own_Fin p e below s (own_QP (some (.int (own_f2_12 v0))) h0) 0 0 _
    rw [show (own_f2_12 v0) = (own_f2_42 v0) from if_neg hq]
    refine own_go (fun t => XS.icmpYes X.here hx rfl (pc0 := 15) (pc' := 42) rfl (hb hby own_d2_15) rfl (flt hq).2.1 (by decide) (by decide)) ?_
    show own_Fin p e below s (own_QP (some (.int (own_f2_42 v0))) h0) 0 0 (T.setTop (mkF m 42 #[.val (.int v0)] []))
    exact own_b2_42 X C hh v0
def own_f2_4 (v0 : Int32) : Int32 := if (1114111 : Int32) < v0 then (own_f2_10 v0) else (own_f2_12 v0)
set_option maxRecDepth 65536 in
theorem own_b2_4 {l : Launch} {p : Program} {e : Env} {below : List Frame} {s : State} {m : MethodId} {meth : Method} {c : Code} {Z : State} {a0 args : Array Value} {T : State} {h0 : Heap} (X : Stand p l e ({ frames := 0, cells := 0, slots := 0, locals := 0 } : Room) s m args below meth c T [] 0 0) (C : own_Ctx p s m meth c Z a0 tables_1 (⟨"com/example/dovetail/dovetail/xml/XmlInputIsXmlCharacterPinLaw", "allowed", "(I)Z"⟩ : MethodName) method_2_code 1 (some .boolean)) (hh : T.heap = h0) (v0 : Int32) :
    own_Fin p e below s (own_QP (some (.int (own_f2_4 v0))) h0) 0 0 (T.setTop (mkF m 4 #[.val (.int v0)] [])) := by
  obtain ⟨hx, hby, hml, hZ, hown, hnm, hret, hlk, hw⟩ := id C
  refine own_go (fun t => XS.iloadN X.here hx rfl (hb hby own_d2_4) rfl) ?_
  show own_Fin p e below s (own_QP (some (.int (own_f2_4 v0))) h0) 0 0 (T.setTop (mkF m 5 #[.val (.int v0)] [(.int v0)]))
  refine own_go (fun t => X.ldcInt hx hown (mvT hZ (hw _ (List.mem_of_getElem? (i := 6) rfl))) (g := (mkF m 5 #[.val (.int v0)] [(.int v0)])) rfl (hb hby own_d2_5) t) ?_
  show own_Fin p e below s (own_QP (some (.int (own_f2_4 v0))) h0) 0 0 (T.setTop (mkF m 7 #[.val (.int v0)] [(.int (1114111 : Int32)), (.int v0)]))
  by_cases hq : (1114111 : Int32) < v0
  · show own_Fin p e below s (own_QP (some (.int (own_f2_4 v0))) h0) 0 0 _
    rw [show (own_f2_4 v0) = (own_f2_10 v0) from if_pos hq]
    refine own_go (fun t => XS.icmpNo X.here hx rfl (hb hby own_d2_7) rfl (tlt hq).2.2.2) ?_
    show own_Fin p e below s (own_QP (some (.int (own_f2_10 v0))) h0) 0 0 (T.setTop (mkF m 10 #[.val (.int v0)] []))
    exact own_b2_10 X C hh v0
  · show own_Fin p e below s (own_QP (some (.int (own_f2_4 v0))) h0) 0 0 _
    rw [show (own_f2_4 v0) = (own_f2_12 v0) from if_neg hq]
    refine own_go (fun t => XS.icmpYes X.here hx rfl (pc0 := 7) (pc' := 12) rfl (hb hby own_d2_7) rfl (flt hq).2.2.2 (by decide) (by decide)) ?_
    show own_Fin p e below s (own_QP (some (.int (own_f2_12 v0))) h0) 0 0 (T.setTop (mkF m 12 #[.val (.int v0)] []))
    exact own_b2_12 X C hh v0
def own_f2_0 (v0 : Int32) : Int32 := if v0 < (0 : Int32) then (own_f2_10 v0) else (own_f2_4 v0)
set_option maxRecDepth 65536 in
theorem own_b2_0 {l : Launch} {p : Program} {e : Env} {below : List Frame} {s : State} {m : MethodId} {meth : Method} {c : Code} {Z : State} {a0 args : Array Value} {T : State} {h0 : Heap} (X : Stand p l e ({ frames := 0, cells := 0, slots := 0, locals := 0 } : Room) s m args below meth c T [] 0 0) (C : own_Ctx p s m meth c Z a0 tables_1 (⟨"com/example/dovetail/dovetail/xml/XmlInputIsXmlCharacterPinLaw", "allowed", "(I)Z"⟩ : MethodName) method_2_code 1 (some .boolean)) (hh : T.heap = h0) (v0 : Int32) :
    own_Fin p e below s (own_QP (some (.int (own_f2_0 v0))) h0) 0 0 (T.setTop (mkF m 0 #[.val (.int v0)] [])) := by
  obtain ⟨hx, hby, hml, hZ, hown, hnm, hret, hlk, hw⟩ := id C
  refine own_go (fun t => XS.iloadN X.here hx rfl (hb hby own_d2_0) rfl) ?_
  show own_Fin p e below s (own_QP (some (.int (own_f2_0 v0))) h0) 0 0 (T.setTop (mkF m 1 #[.val (.int v0)] [(.int v0)]))
  by_cases hq : v0 < (0 : Int32)
  · show own_Fin p e below s (own_QP (some (.int (own_f2_0 v0))) h0) 0 0 _
    rw [show (own_f2_0 v0) = (own_f2_10 v0) from if_pos hq]
    refine own_go (fun t => XS.ifYes X.here hx rfl (pc0 := 1) (pc' := 10) rfl (hb hby own_d2_1) rfl ((if0 _ _).trans (tlt hq).1) (by decide) (by decide)) ?_
    show own_Fin p e below s (own_QP (some (.int (own_f2_10 v0))) h0) 0 0 (T.setTop (mkF m 10 #[.val (.int v0)] []))
    exact own_b2_10 X C hh v0
  · show own_Fin p e below s (own_QP (some (.int (own_f2_0 v0))) h0) 0 0 _
    rw [show (own_f2_0 v0) = (own_f2_4 v0) from if_neg hq]
    refine own_go (fun t => XS.ifNo X.here hx rfl (hb hby own_d2_1) rfl ((if0 _ _).trans (flt hq).1)) ?_
    show own_Fin p e below s (own_QP (some (.int (own_f2_4 v0))) h0) 0 0 (T.setTop (mkF m 4 #[.val (.int v0)] []))
    exact own_b2_4 X C hh v0
theorem own_pn1 : plainName "com/example/dovetail/dovetail/xml/XmlInputIsXmlCharacterPinLaw" = true := by first | (simp [plainName, overriddenIn]; done) | decide +kernel
theorem own_c2 (l : Launch) (Z : State) (a0 : Array Value) (hw : ∀ d ∈ tables_1, d.before a0 Z = true) (x0 : Int32) (h0 : Heap) : own_Met l Z (⟨"com/example/dovetail/dovetail/xml/XmlInputIsXmlCharacterPinLaw", "allowed", "(I)Z"⟩ : MethodName) method_2_code 1 (some .boolean) [] ({ frames := 0, cells := 0, slots := 0, locals := 0 } : Room) #[(.int x0)] h0 (own_QP (some (.int (own_f2_0 x0))) h0) :=
  own_enter (plainFor_of_name own_pn1) (own_ef2 x0) hw (fun p e s m below meth c T X C hh => own_b2_0 X C hh x0)
theorem own_same_0 {x : Int32} (h1 : -2147483648 ≤ x.toInt) (h2 : x.toInt ≤ -1) : (own_f1_0 x) = (own_f2_0 x) :=
  Eq.trans (((if_neg (own_ineq (9) (by decide) (by omega)) : (own_f1_0 x) = (own_f1_6 x))).trans (((if_neg (own_ineq (10) (by decide) (by omega)) : (own_f1_6 x) = (own_f1_12 x))).trans (((if_neg (own_ineq (13) (by decide) (by omega)) : (own_f1_12 x) = (own_f1_18 x))).trans (((if_pos (own_lt (32) (by decide) (by omega)) : (own_f1_18 x) = (own_f1_30 x))).trans (((if_pos (own_lt (57344) (by decide) (by omega)) : (own_f1_30 x) = (own_f1_42 x))).trans ((if_pos (own_lt (65536) (by decide) (by omega)) : (own_f1_42 x) = (own_f1_58 x)))))))) (Eq.symm ((if_pos (own_lt (0) (by decide) (by omega)) : (own_f2_0 x) = (own_f2_10 x))))
theorem own_same_1 {x : Int32} (h1 : 0 ≤ x.toInt) (h2 : x.toInt ≤ 8) : (own_f1_0 x) = (own_f2_0 x) :=
  Eq.trans (((if_neg (own_ineq (9) (by decide) (by omega)) : (own_f1_0 x) = (own_f1_6 x))).trans (((if_neg (own_ineq (10) (by decide) (by omega)) : (own_f1_6 x) = (own_f1_12 x))).trans (((if_neg (own_ineq (13) (by decide) (by omega)) : (own_f1_12 x) = (own_f1_18 x))).trans (((if_pos (own_lt (32) (by decide) (by omega)) : (own_f1_18 x) = (own_f1_30 x))).trans (((if_pos (own_lt (57344) (by decide) (by omega)) : (own_f1_30 x) = (own_f1_42 x))).trans ((if_pos (own_lt (65536) (by decide) (by omega)) : (own_f1_42 x) = (own_f1_58 x)))))))) (Eq.symm (((if_neg (own_nlt (0) (by decide) (by omega)) : (own_f2_0 x) = (own_f2_4 x))).trans (((if_neg (own_ngt (1114111) (by decide) (by omega)) : (own_f2_4 x) = (own_f2_12 x))).trans (((if_pos (own_lt (32) (by decide) (by omega)) : (own_f2_12 x) = (own_f2_18 x))).trans (((if_neg (own_ineq (9) (by decide) (by omega)) : (own_f2_18 x) = (own_f2_24 x))).trans (((if_neg (own_ineq (10) (by decide) (by omega)) : (own_f2_24 x) = (own_f2_30 x))).trans ((if_neg (own_ineq (13) (by decide) (by omega)) : (own_f2_30 x) = (own_f2_40 x)))))))))
theorem own_same_2 {x : Int32} (h1 : 9 ≤ x.toInt) (h2 : x.toInt ≤ 9) : (own_f1_0 x) = (own_f2_0 x) :=
  Eq.trans ((if_pos (own_ieq (9) (by decide) (by omega)) : (own_f1_0 x) = (own_f1_54 x))) (Eq.symm (((if_neg (own_nlt (0) (by decide) (by omega)) : (own_f2_0 x) = (own_f2_4 x))).trans (((if_neg (own_ngt (1114111) (by decide) (by omega)) : (own_f2_4 x) = (own_f2_12 x))).trans (((if_pos (own_lt (32) (by decide) (by omega)) : (own_f2_12 x) = (own_f2_18 x))).trans ((if_pos (own_ieq (9) (by decide) (by omega)) : (own_f2_18 x) = (own_f2_36 x)))))))
theorem own_same_3 {x : Int32} (h1 : 10 ≤ x.toInt) (h2 : x.toInt ≤ 10) : (own_f1_0 x) = (own_f2_0 x) :=
  Eq.trans (((if_neg (own_ineq (9) (by decide) (by omega)) : (own_f1_0 x) = (own_f1_6 x))).trans ((if_pos (own_ieq (10) (by decide) (by omega)) : (own_f1_6 x) = (own_f1_54 x)))) (Eq.symm (((if_neg (own_nlt (0) (by decide) (by omega)) : (own_f2_0 x) = (own_f2_4 x))).trans (((if_neg (own_ngt (1114111) (by decide) (by omega)) : (own_f2_4 x) = (own_f2_12 x))).trans (((if_pos (own_lt (32) (by decide) (by omega)) : (own_f2_12 x) = (own_f2_18 x))).trans (((if_neg (own_ineq (9) (by decide) (by omega)) : (own_f2_18 x) = (own_f2_24 x))).trans ((if_pos (own_ieq (10) (by decide) (by omega)) : (own_f2_24 x) = (own_f2_36 x))))))))
theorem own_same_4 {x : Int32} (h1 : 11 ≤ x.toInt) (h2 : x.toInt ≤ 12) : (own_f1_0 x) = (own_f2_0 x) :=
  Eq.trans (((if_neg (own_ineq (9) (by decide) (by omega)) : (own_f1_0 x) = (own_f1_6 x))).trans (((if_neg (own_ineq (10) (by decide) (by omega)) : (own_f1_6 x) = (own_f1_12 x))).trans (((if_neg (own_ineq (13) (by decide) (by omega)) : (own_f1_12 x) = (own_f1_18 x))).trans (((if_pos (own_lt (32) (by decide) (by omega)) : (own_f1_18 x) = (own_f1_30 x))).trans (((if_pos (own_lt (57344) (by decide) (by omega)) : (own_f1_30 x) = (own_f1_42 x))).trans ((if_pos (own_lt (65536) (by decide) (by omega)) : (own_f1_42 x) = (own_f1_58 x)))))))) (Eq.symm (((if_neg (own_nlt (0) (by decide) (by omega)) : (own_f2_0 x) = (own_f2_4 x))).trans (((if_neg (own_ngt (1114111) (by decide) (by omega)) : (own_f2_4 x) = (own_f2_12 x))).trans (((if_pos (own_lt (32) (by decide) (by omega)) : (own_f2_12 x) = (own_f2_18 x))).trans (((if_neg (own_ineq (9) (by decide) (by omega)) : (own_f2_18 x) = (own_f2_24 x))).trans (((if_neg (own_ineq (10) (by decide) (by omega)) : (own_f2_24 x) = (own_f2_30 x))).trans ((if_neg (own_ineq (13) (by decide) (by omega)) : (own_f2_30 x) = (own_f2_40 x)))))))))
theorem own_same_5 {x : Int32} (h1 : 13 ≤ x.toInt) (h2 : x.toInt ≤ 13) : (own_f1_0 x) = (own_f2_0 x) :=
  Eq.trans (((if_neg (own_ineq (9) (by decide) (by omega)) : (own_f1_0 x) = (own_f1_6 x))).trans (((if_neg (own_ineq (10) (by decide) (by omega)) : (own_f1_6 x) = (own_f1_12 x))).trans ((if_pos (own_ieq (13) (by decide) (by omega)) : (own_f1_12 x) = (own_f1_54 x))))) (Eq.symm (((if_neg (own_nlt (0) (by decide) (by omega)) : (own_f2_0 x) = (own_f2_4 x))).trans (((if_neg (own_ngt (1114111) (by decide) (by omega)) : (own_f2_4 x) = (own_f2_12 x))).trans (((if_pos (own_lt (32) (by decide) (by omega)) : (own_f2_12 x) = (own_f2_18 x))).trans (((if_neg (own_ineq (9) (by decide) (by omega)) : (own_f2_18 x) = (own_f2_24 x))).trans (((if_neg (own_ineq (10) (by decide) (by omega)) : (own_f2_24 x) = (own_f2_30 x))).trans ((if_pos (own_ieq (13) (by decide) (by omega)) : (own_f2_30 x) = (own_f2_36 x)))))))))
theorem own_same_6 {x : Int32} (h1 : 14 ≤ x.toInt) (h2 : x.toInt ≤ 31) : (own_f1_0 x) = (own_f2_0 x) :=
  Eq.trans (((if_neg (own_ineq (9) (by decide) (by omega)) : (own_f1_0 x) = (own_f1_6 x))).trans (((if_neg (own_ineq (10) (by decide) (by omega)) : (own_f1_6 x) = (own_f1_12 x))).trans (((if_neg (own_ineq (13) (by decide) (by omega)) : (own_f1_12 x) = (own_f1_18 x))).trans (((if_pos (own_lt (32) (by decide) (by omega)) : (own_f1_18 x) = (own_f1_30 x))).trans (((if_pos (own_lt (57344) (by decide) (by omega)) : (own_f1_30 x) = (own_f1_42 x))).trans ((if_pos (own_lt (65536) (by decide) (by omega)) : (own_f1_42 x) = (own_f1_58 x)))))))) (Eq.symm (((if_neg (own_nlt (0) (by decide) (by omega)) : (own_f2_0 x) = (own_f2_4 x))).trans (((if_neg (own_ngt (1114111) (by decide) (by omega)) : (own_f2_4 x) = (own_f2_12 x))).trans (((if_pos (own_lt (32) (by decide) (by omega)) : (own_f2_12 x) = (own_f2_18 x))).trans (((if_neg (own_ineq (9) (by decide) (by omega)) : (own_f2_18 x) = (own_f2_24 x))).trans (((if_neg (own_ineq (10) (by decide) (by omega)) : (own_f2_24 x) = (own_f2_30 x))).trans ((if_neg (own_ineq (13) (by decide) (by omega)) : (own_f2_30 x) = (own_f2_40 x)))))))))
theorem own_same_7 {x : Int32} (h1 : 32 ≤ x.toInt) (h2 : x.toInt ≤ 55295) : (own_f1_0 x) = (own_f2_0 x) :=
  Eq.trans (((if_neg (own_ineq (9) (by decide) (by omega)) : (own_f1_0 x) = (own_f1_6 x))).trans (((if_neg (own_ineq (10) (by decide) (by omega)) : (own_f1_6 x) = (own_f1_12 x))).trans (((if_neg (own_ineq (13) (by decide) (by omega)) : (own_f1_12 x) = (own_f1_18 x))).trans (((if_neg (own_nlt (32) (by decide) (by omega)) : (own_f1_18 x) = (own_f1_24 x))).trans ((if_neg (own_ngt (55295) (by decide) (by omega)) : (own_f1_24 x) = (own_f1_54 x))))))) (Eq.symm (((if_neg (own_nlt (0) (by decide) (by omega)) : (own_f2_0 x) = (own_f2_4 x))).trans (((if_neg (own_ngt (1114111) (by decide) (by omega)) : (own_f2_4 x) = (own_f2_12 x))).trans (((if_neg (own_nlt (32) (by decide) (by omega)) : (own_f2_12 x) = (own_f2_42 x))).trans (((if_pos (own_lt (55296) (by decide) (by omega)) : (own_f2_42 x) = (own_f2_56 x))).trans (((if_neg (own_ineq (65534) (by decide) (by omega)) : (own_f2_56 x) = (own_f2_62 x))).trans ((if_neg (own_ineq (65535) (by decide) (by omega)) : (own_f2_62 x) = (own_f2_70 x)))))))))
theorem own_same_8 {x : Int32} (h1 : 55296 ≤ x.toInt) (h2 : x.toInt ≤ 57343) : (own_f1_0 x) = (own_f2_0 x) :=
  Eq.trans (((if_neg (own_ineq (9) (by decide) (by omega)) : (own_f1_0 x) = (own_f1_6 x))).trans (((if_neg (own_ineq (10) (by decide) (by omega)) : (own_f1_6 x) = (own_f1_12 x))).trans (((if_neg (own_ineq (13) (by decide) (by omega)) : (own_f1_12 x) = (own_f1_18 x))).trans (((if_neg (own_nlt (32) (by decide) (by omega)) : (own_f1_18 x) = (own_f1_24 x))).trans (((if_pos (own_gt (55295) (by decide) (by omega)) : (own_f1_24 x) = (own_f1_30 x))).trans (((if_pos (own_lt (57344) (by decide) (by omega)) : (own_f1_30 x) = (own_f1_42 x))).trans ((if_pos (own_lt (65536) (by decide) (by omega)) : (own_f1_42 x) = (own_f1_58 x))))))))) (Eq.symm (((if_neg (own_nlt (0) (by decide) (by omega)) : (own_f2_0 x) = (own_f2_4 x))).trans (((if_neg (own_ngt (1114111) (by decide) (by omega)) : (own_f2_4 x) = (own_f2_12 x))).trans (((if_neg (own_nlt (32) (by decide) (by omega)) : (own_f2_12 x) = (own_f2_42 x))).trans (((if_neg (own_nlt (55296) (by decide) (by omega)) : (own_f2_42 x) = (own_f2_48 x))).trans ((if_neg (own_ngt (57343) (by decide) (by omega)) : (own_f2_48 x) = (own_f2_54 x))))))))
theorem own_same_9 {x : Int32} (h1 : 57344 ≤ x.toInt) (h2 : x.toInt ≤ 65533) : (own_f1_0 x) = (own_f2_0 x) :=
  Eq.trans (((if_neg (own_ineq (9) (by decide) (by omega)) : (own_f1_0 x) = (own_f1_6 x))).trans (((if_neg (own_ineq (10) (by decide) (by omega)) : (own_f1_6 x) = (own_f1_12 x))).trans (((if_neg (own_ineq (13) (by decide) (by omega)) : (own_f1_12 x) = (own_f1_18 x))).trans (((if_neg (own_nlt (32) (by decide) (by omega)) : (own_f1_18 x) = (own_f1_24 x))).trans (((if_pos (own_gt (55295) (by decide) (by omega)) : (own_f1_24 x) = (own_f1_30 x))).trans (((if_neg (own_nlt (57344) (by decide) (by omega)) : (own_f1_30 x) = (own_f1_36 x))).trans ((if_neg (own_ngt (65533) (by decide) (by omega)) : (own_f1_36 x) = (own_f1_54 x))))))))) (Eq.symm (((if_neg (own_nlt (0) (by decide) (by omega)) : (own_f2_0 x) = (own_f2_4 x))).trans (((if_neg (own_ngt (1114111) (by decide) (by omega)) : (own_f2_4 x) = (own_f2_12 x))).trans (((if_neg (own_nlt (32) (by decide) (by omega)) : (own_f2_12 x) = (own_f2_42 x))).trans (((if_neg (own_nlt (55296) (by decide) (by omega)) : (own_f2_42 x) = (own_f2_48 x))).trans (((if_pos (own_gt (57343) (by decide) (by omega)) : (own_f2_48 x) = (own_f2_56 x))).trans (((if_neg (own_ineq (65534) (by decide) (by omega)) : (own_f2_56 x) = (own_f2_62 x))).trans ((if_neg (own_ineq (65535) (by decide) (by omega)) : (own_f2_62 x) = (own_f2_70 x))))))))))
theorem own_same_10 {x : Int32} (h1 : 65534 ≤ x.toInt) (h2 : x.toInt ≤ 65534) : (own_f1_0 x) = (own_f2_0 x) :=
  Eq.trans (((if_neg (own_ineq (9) (by decide) (by omega)) : (own_f1_0 x) = (own_f1_6 x))).trans (((if_neg (own_ineq (10) (by decide) (by omega)) : (own_f1_6 x) = (own_f1_12 x))).trans (((if_neg (own_ineq (13) (by decide) (by omega)) : (own_f1_12 x) = (own_f1_18 x))).trans (((if_neg (own_nlt (32) (by decide) (by omega)) : (own_f1_18 x) = (own_f1_24 x))).trans (((if_pos (own_gt (55295) (by decide) (by omega)) : (own_f1_24 x) = (own_f1_30 x))).trans (((if_neg (own_nlt (57344) (by decide) (by omega)) : (own_f1_30 x) = (own_f1_36 x))).trans (((if_pos (own_gt (65533) (by decide) (by omega)) : (own_f1_36 x) = (own_f1_42 x))).trans ((if_pos (own_lt (65536) (by decide) (by omega)) : (own_f1_42 x) = (own_f1_58 x)))))))))) (Eq.symm (((if_neg (own_nlt (0) (by decide) (by omega)) : (own_f2_0 x) = (own_f2_4 x))).trans (((if_neg (own_ngt (1114111) (by decide) (by omega)) : (own_f2_4 x) = (own_f2_12 x))).trans (((if_neg (own_nlt (32) (by decide) (by omega)) : (own_f2_12 x) = (own_f2_42 x))).trans (((if_neg (own_nlt (55296) (by decide) (by omega)) : (own_f2_42 x) = (own_f2_48 x))).trans (((if_pos (own_gt (57343) (by decide) (by omega)) : (own_f2_48 x) = (own_f2_56 x))).trans ((if_pos (own_ieq (65534) (by decide) (by omega)) : (own_f2_56 x) = (own_f2_68 x)))))))))
theorem own_same_11 {x : Int32} (h1 : 65535 ≤ x.toInt) (h2 : x.toInt ≤ 65535) : (own_f1_0 x) = (own_f2_0 x) :=
  Eq.trans (((if_neg (own_ineq (9) (by decide) (by omega)) : (own_f1_0 x) = (own_f1_6 x))).trans (((if_neg (own_ineq (10) (by decide) (by omega)) : (own_f1_6 x) = (own_f1_12 x))).trans (((if_neg (own_ineq (13) (by decide) (by omega)) : (own_f1_12 x) = (own_f1_18 x))).trans (((if_neg (own_nlt (32) (by decide) (by omega)) : (own_f1_18 x) = (own_f1_24 x))).trans (((if_pos (own_gt (55295) (by decide) (by omega)) : (own_f1_24 x) = (own_f1_30 x))).trans (((if_neg (own_nlt (57344) (by decide) (by omega)) : (own_f1_30 x) = (own_f1_36 x))).trans (((if_pos (own_gt (65533) (by decide) (by omega)) : (own_f1_36 x) = (own_f1_42 x))).trans ((if_pos (own_lt (65536) (by decide) (by omega)) : (own_f1_42 x) = (own_f1_58 x)))))))))) (Eq.symm (((if_neg (own_nlt (0) (by decide) (by omega)) : (own_f2_0 x) = (own_f2_4 x))).trans (((if_neg (own_ngt (1114111) (by decide) (by omega)) : (own_f2_4 x) = (own_f2_12 x))).trans (((if_neg (own_nlt (32) (by decide) (by omega)) : (own_f2_12 x) = (own_f2_42 x))).trans (((if_neg (own_nlt (55296) (by decide) (by omega)) : (own_f2_42 x) = (own_f2_48 x))).trans (((if_pos (own_gt (57343) (by decide) (by omega)) : (own_f2_48 x) = (own_f2_56 x))).trans (((if_neg (own_ineq (65534) (by decide) (by omega)) : (own_f2_56 x) = (own_f2_62 x))).trans ((if_pos (own_ieq (65535) (by decide) (by omega)) : (own_f2_62 x) = (own_f2_68 x))))))))))
theorem own_same_12 {x : Int32} (h1 : 65536 ≤ x.toInt) (h2 : x.toInt ≤ 1114111) : (own_f1_0 x) = (own_f2_0 x) :=
  Eq.trans (((if_neg (own_ineq (9) (by decide) (by omega)) : (own_f1_0 x) = (own_f1_6 x))).trans (((if_neg (own_ineq (10) (by decide) (by omega)) : (own_f1_6 x) = (own_f1_12 x))).trans (((if_neg (own_ineq (13) (by decide) (by omega)) : (own_f1_12 x) = (own_f1_18 x))).trans (((if_neg (own_nlt (32) (by decide) (by omega)) : (own_f1_18 x) = (own_f1_24 x))).trans (((if_pos (own_gt (55295) (by decide) (by omega)) : (own_f1_24 x) = (own_f1_30 x))).trans (((if_neg (own_nlt (57344) (by decide) (by omega)) : (own_f1_30 x) = (own_f1_36 x))).trans (((if_pos (own_gt (65533) (by decide) (by omega)) : (own_f1_36 x) = (own_f1_42 x))).trans (((if_neg (own_nlt (65536) (by decide) (by omega)) : (own_f1_42 x) = (own_f1_48 x))).trans ((if_neg (own_ngt (1114111) (by decide) (by omega)) : (own_f1_48 x) = (own_f1_54 x))))))))))) (Eq.symm (((if_neg (own_nlt (0) (by decide) (by omega)) : (own_f2_0 x) = (own_f2_4 x))).trans (((if_neg (own_ngt (1114111) (by decide) (by omega)) : (own_f2_4 x) = (own_f2_12 x))).trans (((if_neg (own_nlt (32) (by decide) (by omega)) : (own_f2_12 x) = (own_f2_42 x))).trans (((if_neg (own_nlt (55296) (by decide) (by omega)) : (own_f2_42 x) = (own_f2_48 x))).trans (((if_pos (own_gt (57343) (by decide) (by omega)) : (own_f2_48 x) = (own_f2_56 x))).trans (((if_neg (own_ineq (65534) (by decide) (by omega)) : (own_f2_56 x) = (own_f2_62 x))).trans ((if_neg (own_ineq (65535) (by decide) (by omega)) : (own_f2_62 x) = (own_f2_70 x))))))))))
theorem own_same_13 {x : Int32} (h1 : 1114112 ≤ x.toInt) (h2 : x.toInt ≤ 2147483647) : (own_f1_0 x) = (own_f2_0 x) :=
  Eq.trans (((if_neg (own_ineq (9) (by decide) (by omega)) : (own_f1_0 x) = (own_f1_6 x))).trans (((if_neg (own_ineq (10) (by decide) (by omega)) : (own_f1_6 x) = (own_f1_12 x))).trans (((if_neg (own_ineq (13) (by decide) (by omega)) : (own_f1_12 x) = (own_f1_18 x))).trans (((if_neg (own_nlt (32) (by decide) (by omega)) : (own_f1_18 x) = (own_f1_24 x))).trans (((if_pos (own_gt (55295) (by decide) (by omega)) : (own_f1_24 x) = (own_f1_30 x))).trans (((if_neg (own_nlt (57344) (by decide) (by omega)) : (own_f1_30 x) = (own_f1_36 x))).trans (((if_pos (own_gt (65533) (by decide) (by omega)) : (own_f1_36 x) = (own_f1_42 x))).trans (((if_neg (own_nlt (65536) (by decide) (by omega)) : (own_f1_42 x) = (own_f1_48 x))).trans ((if_pos (own_gt (1114111) (by decide) (by omega)) : (own_f1_48 x) = (own_f1_58 x))))))))))) (Eq.symm (((if_neg (own_nlt (0) (by decide) (by omega)) : (own_f2_0 x) = (own_f2_4 x))).trans ((if_pos (own_gt (1114111) (by decide) (by omega)) : (own_f2_4 x) = (own_f2_10 x)))))
theorem own_same (x : Int32) : own_f1_0 x = own_f2_0 x := by
  have h0 : (-2147483648 : Int) ≤ x.toInt := (rng32 x).1
  have hN : x.toInt < 2147483648 := (rng32 x).2
  by_cases h1 : x.toInt ≤ -1
  · exact own_same_0 (by omega) h1
  by_cases h2 : x.toInt ≤ 8
  · exact own_same_1 (by omega) h2
  by_cases h3 : x.toInt ≤ 9
  · exact own_same_2 (by omega) h3
  by_cases h4 : x.toInt ≤ 10
  · exact own_same_3 (by omega) h4
  by_cases h5 : x.toInt ≤ 12
  · exact own_same_4 (by omega) h5
  by_cases h6 : x.toInt ≤ 13
  · exact own_same_5 (by omega) h6
  by_cases h7 : x.toInt ≤ 31
  · exact own_same_6 (by omega) h7
  by_cases h8 : x.toInt ≤ 55295
  · exact own_same_7 (by omega) h8
  by_cases h9 : x.toInt ≤ 57343
  · exact own_same_8 (by omega) h9
  by_cases h10 : x.toInt ≤ 65533
  · exact own_same_9 (by omega) h10
  by_cases h11 : x.toInt ≤ 65534
  · exact own_same_10 (by omega) h11
  by_cases h12 : x.toInt ≤ 65535
  · exact own_same_11 (by omega) h12
  by_cases h13 : x.toInt ≤ 1114111
  · exact own_same_12 (by omega) h13
  exact own_same_13 (by omega) (by omega)
theorem own_ef0 (x0 : Int32) (x1 : Int32) (x2 : Int32) : ∀ m, entryFrame m #[(.int x0), (.int x1), (.int x2)] maxLocals = mkF m 0 #[.val (.int x0), .val (.int x1), .val (.int x2), .unset, .unset, .unset, .unset] [] := fun m => by first | (simp [entryFrame, mkF, argsToLocals, Value.category, maxLocals]; done) | rfl
theorem own_pd0 : parseMethodDescriptor "(I)Z" = some ⟨[.int], some .boolean⟩ := by decide +kernel
def own_Q0 (n0 : Nat) (v : Option Value) (h : Heap) (L : List Loc) : Prop := v = some (.int 1) ∧ Fr n0 L
set_option maxRecDepth 65536 in
set_option maxHeartbeats 40000000 in
theorem own_law {l : Launch} {p : Program} {e : Env} {below : List Frame} {s : State} {m : MethodId} {meth : Method} {c : Code} {Z : State} {a0 args : Array Value} {T : State} {h0 : Heap} (X : Stand p l e room_1 s m args below meth c T [] 0 0) (C : own_Ctx p s m meth c Z a0 tables_1 x code maxLocals ret) (hh : T.heap = h0) (x0 : Int32) (x1 : Int32) (x2 : Int32) (n0 : Nat) (Z0 : n0 ≤ h0.size) :
    own_Fin p e below s (own_Q0 n0) room_1.cells room_1.slots (T.setTop (mkF m 0 #[.val (.int x0), .val (.int x1), .val (.int x2), .unset, .unset, .unset, .unset] [])) := by
  obtain ⟨hx, hby, hml, hZ, hown, hnm, hret, hlk, hw⟩ := id C
  show own_Fin p e below s (own_Q0 n0) room_1.cells room_1.slots (T.setTop (mkF m 0 #[.val (.int x0), .val (.int x1), .val (.int x2), .unset, .unset, .unset, .unset] []))
  refine own_go (fun t => XS.bipush X.here hx rfl (hb hby at_0)) ?_
  show own_Fin p e below s (own_Q0 n0) room_1.cells room_1.slots (T.setTop (mkF m 2 #[.val (.int x0), .val (.int x1), .val (.int x2), .unset, .unset, .unset, .unset] [(.int (16 : Int32))]))
  obtain ⟨T1, b1, X1, E1, g1, A1, st1⟩ := own_newI X hx hZ hh (hw _ (List.mem_of_getElem? (i := 0) rfl)) (g := (mkF m 2 #[.val (.int x0), .val (.int x1), .val (.int x2), .unset, .unset, .unset, .unset] [(.int (16 : Int32))])) rfl (hb hby at_2) rfl (by decide) 16 (by decide) (by decide) (by decide) (by decide)
  refine own_go st1 ?_
  show own_Fin p e below s (own_Q0 n0) room_1.cells room_1.slots (T1.setTop (mkF m 4 #[.val (.int x0), .val (.int x1), .val (.int x2), .unset, .unset, .unset, .unset] [(.ref b1)]))
  have G : n0 ≤ b1 := by rw [g1]; exact Z0
  have N0 := Fr.nil n0
  refine own_go (fun t => XS.dup X1.here hx rfl (hb hby at_4) rfl rfl) ?_
  show own_Fin p e below s (own_Q0 n0) room_1.cells room_1.slots (T1.setTop (mkF m 5 #[.val (.int x0), .val (.int x1), .val (.int x2), .unset, .unset, .unset, .unset] [(.ref b1), (.ref b1)]))
  refine own_go (fun t => XS.iconst X1.here hx rfl (hb hby at_5)) ?_
  show own_Fin p e below s (own_Q0 n0) room_1.cells room_1.slots (T1.setTop (mkF m 6 #[.val (.int x0), .val (.int x1), .val (.int x2), .unset, .unset, .unset, .unset] [(.int (0 : Int32)), (.ref b1), (.ref b1)]))
  refine own_go (fun t => X1.ldcInt hx hown (mvT hZ (hw _ (List.mem_of_getElem? (i := 1) rfl))) (g := (mkF m 6 #[.val (.int x0), .val (.int x1), .val (.int x2), .unset, .unset, .unset, .unset] [(.int (0 : Int32)), (.ref b1), (.ref b1)])) rfl (hb hby at_6) t) ?_
  show own_Fin p e below s (own_Q0 n0) room_1.cells room_1.slots (T1.setTop (mkF m 8 #[.val (.int x0), .val (.int x1), .val (.int x2), .unset, .unset, .unset, .unset] [(.int (-2147483648 : Int32)), (.int (0 : Int32)), (.ref b1), (.ref b1)]))
  obtain ⟨T2, X2, W2, A2, st2⟩ := own_stI X1 hx hZ rfl A1 (by decide) (by decide) (g := (mkF m 8 #[.val (.int x0), .val (.int x1), .val (.int x2), .unset, .unset, .unset, .unset] [(.int (-2147483648 : Int32)), (.int (0 : Int32)), (.ref b1), (.ref b1)])) rfl rfl (hb hby at_8)
  obtain ⟨f2, A2⟩ : ∃ f, own_A Z T2.heap b1 .int (16 : Int32) f := ⟨_, A2⟩
  refine own_go st2 ?_
  show own_Fin p e below s (own_Q0 n0) room_1.cells room_1.slots (T2.setTop (mkF m 9 #[.val (.int x0), .val (.int x1), .val (.int x2), .unset, .unset, .unset, .unset] [(.ref b1)]))
  have N2 := Fr.snoc X2 N0 G
  refine own_go (fun t => XS.dup X2.here hx rfl (hb hby at_9) rfl rfl) ?_
  show own_Fin p e below s (own_Q0 n0) room_1.cells room_1.slots (T2.setTop (mkF m 10 #[.val (.int x0), .val (.int x1), .val (.int x2), .unset, .unset, .unset, .unset] [(.ref b1), (.ref b1)]))
  refine own_go (fun t => XS.iconst X2.here hx rfl (hb hby at_10)) ?_
  show own_Fin p e below s (own_Q0 n0) room_1.cells room_1.slots (T2.setTop (mkF m 11 #[.val (.int x0), .val (.int x1), .val (.int x2), .unset, .unset, .unset, .unset] [(.int (1 : Int32)), (.ref b1), (.ref b1)]))
  refine own_go (fun t => XS.iconst X2.here hx rfl (hb hby at_11)) ?_
  show own_Fin p e below s (own_Q0 n0) room_1.cells room_1.slots (T2.setTop (mkF m 12 #[.val (.int x0), .val (.int x1), .val (.int x2), .unset, .unset, .unset, .unset] [(.int (0 : Int32)), (.int (1 : Int32)), (.ref b1), (.ref b1)]))
  obtain ⟨T3, X3, W3, A3, st3⟩ := own_stI X2 hx hZ rfl A2 (by decide) (by decide) (g := (mkF m 12 #[.val (.int x0), .val (.int x1), .val (.int x2), .unset, .unset, .unset, .unset] [(.int (0 : Int32)), (.int (1 : Int32)), (.ref b1), (.ref b1)])) rfl rfl (hb hby at_12)
  obtain ⟨f3, A3⟩ : ∃ f, own_A Z T3.heap b1 .int (16 : Int32) f := ⟨_, A3⟩
  refine own_go st3 ?_
  show own_Fin p e below s (own_Q0 n0) room_1.cells room_1.slots (T3.setTop (mkF m 13 #[.val (.int x0), .val (.int x1), .val (.int x2), .unset, .unset, .unset, .unset] [(.ref b1)]))
  have N3 := Fr.snoc X3 N2 G
  refine own_go (fun t => XS.dup X3.here hx rfl (hb hby at_13) rfl rfl) ?_
  show own_Fin p e below s (own_Q0 n0) room_1.cells room_1.slots (T3.setTop (mkF m 14 #[.val (.int x0), .val (.int x1), .val (.int x2), .unset, .unset, .unset, .unset] [(.ref b1), (.ref b1)]))
  refine own_go (fun t => XS.iconst X3.here hx rfl (hb hby at_14)) ?_
  show own_Fin p e below s (own_Q0 n0) room_1.cells room_1.slots (T3.setTop (mkF m 15 #[.val (.int x0), .val (.int x1), .val (.int x2), .unset, .unset, .unset, .unset] [(.int (2 : Int32)), (.ref b1), (.ref b1)]))
  refine own_go (fun t => XS.bipush X3.here hx rfl (hb hby at_15)) ?_
  show own_Fin p e below s (own_Q0 n0) room_1.cells room_1.slots (T3.setTop (mkF m 17 #[.val (.int x0), .val (.int x1), .val (.int x2), .unset, .unset, .unset, .unset] [(.int (9 : Int32)), (.int (2 : Int32)), (.ref b1), (.ref b1)]))
  obtain ⟨T4, X4, W4, A4, st4⟩ := own_stI X3 hx hZ rfl A3 (by decide) (by decide) (g := (mkF m 17 #[.val (.int x0), .val (.int x1), .val (.int x2), .unset, .unset, .unset, .unset] [(.int (9 : Int32)), (.int (2 : Int32)), (.ref b1), (.ref b1)])) rfl rfl (hb hby at_17)
  obtain ⟨f4, A4⟩ : ∃ f, own_A Z T4.heap b1 .int (16 : Int32) f := ⟨_, A4⟩
  refine own_go st4 ?_
  show own_Fin p e below s (own_Q0 n0) room_1.cells room_1.slots (T4.setTop (mkF m 18 #[.val (.int x0), .val (.int x1), .val (.int x2), .unset, .unset, .unset, .unset] [(.ref b1)]))
  have N4 := Fr.snoc X4 N3 G
  refine own_go (fun t => XS.dup X4.here hx rfl (hb hby at_18) rfl rfl) ?_
  show own_Fin p e below s (own_Q0 n0) room_1.cells room_1.slots (T4.setTop (mkF m 19 #[.val (.int x0), .val (.int x1), .val (.int x2), .unset, .unset, .unset, .unset] [(.ref b1), (.ref b1)]))
  refine own_go (fun t => XS.iconst X4.here hx rfl (hb hby at_19)) ?_
  show own_Fin p e below s (own_Q0 n0) room_1.cells room_1.slots (T4.setTop (mkF m 20 #[.val (.int x0), .val (.int x1), .val (.int x2), .unset, .unset, .unset, .unset] [(.int (3 : Int32)), (.ref b1), (.ref b1)]))
  refine own_go (fun t => XS.bipush X4.here hx rfl (hb hby at_20)) ?_
  show own_Fin p e below s (own_Q0 n0) room_1.cells room_1.slots (T4.setTop (mkF m 22 #[.val (.int x0), .val (.int x1), .val (.int x2), .unset, .unset, .unset, .unset] [(.int (10 : Int32)), (.int (3 : Int32)), (.ref b1), (.ref b1)]))
  obtain ⟨T5, X5, W5, A5, st5⟩ := own_stI X4 hx hZ rfl A4 (by decide) (by decide) (g := (mkF m 22 #[.val (.int x0), .val (.int x1), .val (.int x2), .unset, .unset, .unset, .unset] [(.int (10 : Int32)), (.int (3 : Int32)), (.ref b1), (.ref b1)])) rfl rfl (hb hby at_22)
  obtain ⟨f5, A5⟩ : ∃ f, own_A Z T5.heap b1 .int (16 : Int32) f := ⟨_, A5⟩
  refine own_go st5 ?_
  show own_Fin p e below s (own_Q0 n0) room_1.cells room_1.slots (T5.setTop (mkF m 23 #[.val (.int x0), .val (.int x1), .val (.int x2), .unset, .unset, .unset, .unset] [(.ref b1)]))
  have N5 := Fr.snoc X5 N4 G
  refine own_go (fun t => XS.dup X5.here hx rfl (hb hby at_23) rfl rfl) ?_
  show own_Fin p e below s (own_Q0 n0) room_1.cells room_1.slots (T5.setTop (mkF m 24 #[.val (.int x0), .val (.int x1), .val (.int x2), .unset, .unset, .unset, .unset] [(.ref b1), (.ref b1)]))
  refine own_go (fun t => XS.iconst X5.here hx rfl (hb hby at_24)) ?_
  show own_Fin p e below s (own_Q0 n0) room_1.cells room_1.slots (T5.setTop (mkF m 25 #[.val (.int x0), .val (.int x1), .val (.int x2), .unset, .unset, .unset, .unset] [(.int (4 : Int32)), (.ref b1), (.ref b1)]))
  refine own_go (fun t => XS.bipush X5.here hx rfl (hb hby at_25)) ?_
  show own_Fin p e below s (own_Q0 n0) room_1.cells room_1.slots (T5.setTop (mkF m 27 #[.val (.int x0), .val (.int x1), .val (.int x2), .unset, .unset, .unset, .unset] [(.int (13 : Int32)), (.int (4 : Int32)), (.ref b1), (.ref b1)]))
  obtain ⟨T6, X6, W6, A6, st6⟩ := own_stI X5 hx hZ rfl A5 (by decide) (by decide) (g := (mkF m 27 #[.val (.int x0), .val (.int x1), .val (.int x2), .unset, .unset, .unset, .unset] [(.int (13 : Int32)), (.int (4 : Int32)), (.ref b1), (.ref b1)])) rfl rfl (hb hby at_27)
  obtain ⟨f6, A6⟩ : ∃ f, own_A Z T6.heap b1 .int (16 : Int32) f := ⟨_, A6⟩
  refine own_go st6 ?_
  show own_Fin p e below s (own_Q0 n0) room_1.cells room_1.slots (T6.setTop (mkF m 28 #[.val (.int x0), .val (.int x1), .val (.int x2), .unset, .unset, .unset, .unset] [(.ref b1)]))
  have N6 := Fr.snoc X6 N5 G
  refine own_go (fun t => XS.dup X6.here hx rfl (hb hby at_28) rfl rfl) ?_
  show own_Fin p e below s (own_Q0 n0) room_1.cells room_1.slots (T6.setTop (mkF m 29 #[.val (.int x0), .val (.int x1), .val (.int x2), .unset, .unset, .unset, .unset] [(.ref b1), (.ref b1)]))
  refine own_go (fun t => XS.iconst X6.here hx rfl (hb hby at_29)) ?_
  show own_Fin p e below s (own_Q0 n0) room_1.cells room_1.slots (T6.setTop (mkF m 30 #[.val (.int x0), .val (.int x1), .val (.int x2), .unset, .unset, .unset, .unset] [(.int (5 : Int32)), (.ref b1), (.ref b1)]))
  refine own_go (fun t => XS.bipush X6.here hx rfl (hb hby at_30)) ?_
  show own_Fin p e below s (own_Q0 n0) room_1.cells room_1.slots (T6.setTop (mkF m 32 #[.val (.int x0), .val (.int x1), .val (.int x2), .unset, .unset, .unset, .unset] [(.int (31 : Int32)), (.int (5 : Int32)), (.ref b1), (.ref b1)]))
  obtain ⟨T7, X7, W7, A7, st7⟩ := own_stI X6 hx hZ rfl A6 (by decide) (by decide) (g := (mkF m 32 #[.val (.int x0), .val (.int x1), .val (.int x2), .unset, .unset, .unset, .unset] [(.int (31 : Int32)), (.int (5 : Int32)), (.ref b1), (.ref b1)])) rfl rfl (hb hby at_32)
  obtain ⟨f7, A7⟩ : ∃ f, own_A Z T7.heap b1 .int (16 : Int32) f := ⟨_, A7⟩
  refine own_go st7 ?_
  show own_Fin p e below s (own_Q0 n0) room_1.cells room_1.slots (T7.setTop (mkF m 33 #[.val (.int x0), .val (.int x1), .val (.int x2), .unset, .unset, .unset, .unset] [(.ref b1)]))
  have N7 := Fr.snoc X7 N6 G
  refine own_go (fun t => XS.dup X7.here hx rfl (hb hby at_33) rfl rfl) ?_
  show own_Fin p e below s (own_Q0 n0) room_1.cells room_1.slots (T7.setTop (mkF m 34 #[.val (.int x0), .val (.int x1), .val (.int x2), .unset, .unset, .unset, .unset] [(.ref b1), (.ref b1)]))
  refine own_go (fun t => XS.bipush X7.here hx rfl (hb hby at_34)) ?_
  show own_Fin p e below s (own_Q0 n0) room_1.cells room_1.slots (T7.setTop (mkF m 36 #[.val (.int x0), .val (.int x1), .val (.int x2), .unset, .unset, .unset, .unset] [(.int (6 : Int32)), (.ref b1), (.ref b1)]))
  refine own_go (fun t => XS.bipush X7.here hx rfl (hb hby at_36)) ?_
  show own_Fin p e below s (own_Q0 n0) room_1.cells room_1.slots (T7.setTop (mkF m 38 #[.val (.int x0), .val (.int x1), .val (.int x2), .unset, .unset, .unset, .unset] [(.int (32 : Int32)), (.int (6 : Int32)), (.ref b1), (.ref b1)]))
  obtain ⟨T8, X8, W8, A8, st8⟩ := own_stI X7 hx hZ rfl A7 (by decide) (by decide) (g := (mkF m 38 #[.val (.int x0), .val (.int x1), .val (.int x2), .unset, .unset, .unset, .unset] [(.int (32 : Int32)), (.int (6 : Int32)), (.ref b1), (.ref b1)])) rfl rfl (hb hby at_38)
  obtain ⟨f8, A8⟩ : ∃ f, own_A Z T8.heap b1 .int (16 : Int32) f := ⟨_, A8⟩
  refine own_go st8 ?_
  show own_Fin p e below s (own_Q0 n0) room_1.cells room_1.slots (T8.setTop (mkF m 39 #[.val (.int x0), .val (.int x1), .val (.int x2), .unset, .unset, .unset, .unset] [(.ref b1)]))
  have N8 := Fr.snoc X8 N7 G
  refine own_go (fun t => XS.dup X8.here hx rfl (hb hby at_39) rfl rfl) ?_
  show own_Fin p e below s (own_Q0 n0) room_1.cells room_1.slots (T8.setTop (mkF m 40 #[.val (.int x0), .val (.int x1), .val (.int x2), .unset, .unset, .unset, .unset] [(.ref b1), (.ref b1)]))
  refine own_go (fun t => XS.bipush X8.here hx rfl (hb hby at_40)) ?_
  show own_Fin p e below s (own_Q0 n0) room_1.cells room_1.slots (T8.setTop (mkF m 42 #[.val (.int x0), .val (.int x1), .val (.int x2), .unset, .unset, .unset, .unset] [(.int (7 : Int32)), (.ref b1), (.ref b1)]))
  refine own_go (fun t => XS.bipush X8.here hx rfl (hb hby at_42)) ?_
  show own_Fin p e below s (own_Q0 n0) room_1.cells room_1.slots (T8.setTop (mkF m 44 #[.val (.int x0), .val (.int x1), .val (.int x2), .unset, .unset, .unset, .unset] [(.int (127 : Int32)), (.int (7 : Int32)), (.ref b1), (.ref b1)]))
  obtain ⟨T9, X9, W9, A9, st9⟩ := own_stI X8 hx hZ rfl A8 (by decide) (by decide) (g := (mkF m 44 #[.val (.int x0), .val (.int x1), .val (.int x2), .unset, .unset, .unset, .unset] [(.int (127 : Int32)), (.int (7 : Int32)), (.ref b1), (.ref b1)])) rfl rfl (hb hby at_44)
  obtain ⟨f9, A9⟩ : ∃ f, own_A Z T9.heap b1 .int (16 : Int32) f := ⟨_, A9⟩
  refine own_go st9 ?_
  show own_Fin p e below s (own_Q0 n0) room_1.cells room_1.slots (T9.setTop (mkF m 45 #[.val (.int x0), .val (.int x1), .val (.int x2), .unset, .unset, .unset, .unset] [(.ref b1)]))
  have N9 := Fr.snoc X9 N8 G
  refine own_go (fun t => XS.dup X9.here hx rfl (hb hby at_45) rfl rfl) ?_
  show own_Fin p e below s (own_Q0 n0) room_1.cells room_1.slots (T9.setTop (mkF m 46 #[.val (.int x0), .val (.int x1), .val (.int x2), .unset, .unset, .unset, .unset] [(.ref b1), (.ref b1)]))
  refine own_go (fun t => XS.bipush X9.here hx rfl (hb hby at_46)) ?_
  show own_Fin p e below s (own_Q0 n0) room_1.cells room_1.slots (T9.setTop (mkF m 48 #[.val (.int x0), .val (.int x1), .val (.int x2), .unset, .unset, .unset, .unset] [(.int (8 : Int32)), (.ref b1), (.ref b1)]))
  refine own_go (fun t => X9.ldcInt hx hown (mvT hZ (hw _ (List.mem_of_getElem? (i := 2) rfl))) (g := (mkF m 48 #[.val (.int x0), .val (.int x1), .val (.int x2), .unset, .unset, .unset, .unset] [(.int (8 : Int32)), (.ref b1), (.ref b1)])) rfl (hb hby at_48) t) ?_
  show own_Fin p e below s (own_Q0 n0) room_1.cells room_1.slots (T9.setTop (mkF m 50 #[.val (.int x0), .val (.int x1), .val (.int x2), .unset, .unset, .unset, .unset] [(.int (55295 : Int32)), (.int (8 : Int32)), (.ref b1), (.ref b1)]))
  obtain ⟨T10, X10, W10, A10, st10⟩ := own_stI X9 hx hZ rfl A9 (by decide) (by decide) (g := (mkF m 50 #[.val (.int x0), .val (.int x1), .val (.int x2), .unset, .unset, .unset, .unset] [(.int (55295 : Int32)), (.int (8 : Int32)), (.ref b1), (.ref b1)])) rfl rfl (hb hby at_50)
  obtain ⟨f10, A10⟩ : ∃ f, own_A Z T10.heap b1 .int (16 : Int32) f := ⟨_, A10⟩
  refine own_go st10 ?_
  show own_Fin p e below s (own_Q0 n0) room_1.cells room_1.slots (T10.setTop (mkF m 51 #[.val (.int x0), .val (.int x1), .val (.int x2), .unset, .unset, .unset, .unset] [(.ref b1)]))
  have N10 := Fr.snoc X10 N9 G
  refine own_go (fun t => XS.dup X10.here hx rfl (hb hby at_51) rfl rfl) ?_
  show own_Fin p e below s (own_Q0 n0) room_1.cells room_1.slots (T10.setTop (mkF m 52 #[.val (.int x0), .val (.int x1), .val (.int x2), .unset, .unset, .unset, .unset] [(.ref b1), (.ref b1)]))
  refine own_go (fun t => XS.bipush X10.here hx rfl (hb hby at_52)) ?_
  show own_Fin p e below s (own_Q0 n0) room_1.cells room_1.slots (T10.setTop (mkF m 54 #[.val (.int x0), .val (.int x1), .val (.int x2), .unset, .unset, .unset, .unset] [(.int (9 : Int32)), (.ref b1), (.ref b1)]))
  refine own_go (fun t => X10.ldcInt hx hown (mvT hZ (hw _ (List.mem_of_getElem? (i := 3) rfl))) (g := (mkF m 54 #[.val (.int x0), .val (.int x1), .val (.int x2), .unset, .unset, .unset, .unset] [(.int (9 : Int32)), (.ref b1), (.ref b1)])) rfl (hb hby at_54) t) ?_
  show own_Fin p e below s (own_Q0 n0) room_1.cells room_1.slots (T10.setTop (mkF m 56 #[.val (.int x0), .val (.int x1), .val (.int x2), .unset, .unset, .unset, .unset] [(.int (57343 : Int32)), (.int (9 : Int32)), (.ref b1), (.ref b1)]))
  obtain ⟨T11, X11, W11, A11, st11⟩ := own_stI X10 hx hZ rfl A10 (by decide) (by decide) (g := (mkF m 56 #[.val (.int x0), .val (.int x1), .val (.int x2), .unset, .unset, .unset, .unset] [(.int (57343 : Int32)), (.int (9 : Int32)), (.ref b1), (.ref b1)])) rfl rfl (hb hby at_56)
  obtain ⟨f11, A11⟩ : ∃ f, own_A Z T11.heap b1 .int (16 : Int32) f := ⟨_, A11⟩
  refine own_go st11 ?_
  show own_Fin p e below s (own_Q0 n0) room_1.cells room_1.slots (T11.setTop (mkF m 57 #[.val (.int x0), .val (.int x1), .val (.int x2), .unset, .unset, .unset, .unset] [(.ref b1)]))
  have N11 := Fr.snoc X11 N10 G
  refine own_go (fun t => XS.dup X11.here hx rfl (hb hby at_57) rfl rfl) ?_
  show own_Fin p e below s (own_Q0 n0) room_1.cells room_1.slots (T11.setTop (mkF m 58 #[.val (.int x0), .val (.int x1), .val (.int x2), .unset, .unset, .unset, .unset] [(.ref b1), (.ref b1)]))
  refine own_go (fun t => XS.bipush X11.here hx rfl (hb hby at_58)) ?_
  show own_Fin p e below s (own_Q0 n0) room_1.cells room_1.slots (T11.setTop (mkF m 60 #[.val (.int x0), .val (.int x1), .val (.int x2), .unset, .unset, .unset, .unset] [(.int (10 : Int32)), (.ref b1), (.ref b1)]))
  refine own_go (fun t => X11.ldcInt hx hown (mvT hZ (hw _ (List.mem_of_getElem? (i := 4) rfl))) (g := (mkF m 60 #[.val (.int x0), .val (.int x1), .val (.int x2), .unset, .unset, .unset, .unset] [(.int (10 : Int32)), (.ref b1), (.ref b1)])) rfl (hb hby at_60) t) ?_
  show own_Fin p e below s (own_Q0 n0) room_1.cells room_1.slots (T11.setTop (mkF m 62 #[.val (.int x0), .val (.int x1), .val (.int x2), .unset, .unset, .unset, .unset] [(.int (65533 : Int32)), (.int (10 : Int32)), (.ref b1), (.ref b1)]))
  obtain ⟨T12, X12, W12, A12, st12⟩ := own_stI X11 hx hZ rfl A11 (by decide) (by decide) (g := (mkF m 62 #[.val (.int x0), .val (.int x1), .val (.int x2), .unset, .unset, .unset, .unset] [(.int (65533 : Int32)), (.int (10 : Int32)), (.ref b1), (.ref b1)])) rfl rfl (hb hby at_62)
  obtain ⟨f12, A12⟩ : ∃ f, own_A Z T12.heap b1 .int (16 : Int32) f := ⟨_, A12⟩
  refine own_go st12 ?_
  show own_Fin p e below s (own_Q0 n0) room_1.cells room_1.slots (T12.setTop (mkF m 63 #[.val (.int x0), .val (.int x1), .val (.int x2), .unset, .unset, .unset, .unset] [(.ref b1)]))
  have N12 := Fr.snoc X12 N11 G
  refine own_go (fun t => XS.dup X12.here hx rfl (hb hby at_63) rfl rfl) ?_
  show own_Fin p e below s (own_Q0 n0) room_1.cells room_1.slots (T12.setTop (mkF m 64 #[.val (.int x0), .val (.int x1), .val (.int x2), .unset, .unset, .unset, .unset] [(.ref b1), (.ref b1)]))
  refine own_go (fun t => XS.bipush X12.here hx rfl (hb hby at_64)) ?_
  show own_Fin p e below s (own_Q0 n0) room_1.cells room_1.slots (T12.setTop (mkF m 66 #[.val (.int x0), .val (.int x1), .val (.int x2), .unset, .unset, .unset, .unset] [(.int (11 : Int32)), (.ref b1), (.ref b1)]))
  refine own_go (fun t => X12.ldcInt hx hown (mvT hZ (hw _ (List.mem_of_getElem? (i := 5) rfl))) (g := (mkF m 66 #[.val (.int x0), .val (.int x1), .val (.int x2), .unset, .unset, .unset, .unset] [(.int (11 : Int32)), (.ref b1), (.ref b1)])) rfl (hb hby at_66) t) ?_
  show own_Fin p e below s (own_Q0 n0) room_1.cells room_1.slots (T12.setTop (mkF m 68 #[.val (.int x0), .val (.int x1), .val (.int x2), .unset, .unset, .unset, .unset] [(.int (65535 : Int32)), (.int (11 : Int32)), (.ref b1), (.ref b1)]))
  obtain ⟨T13, X13, W13, A13, st13⟩ := own_stI X12 hx hZ rfl A12 (by decide) (by decide) (g := (mkF m 68 #[.val (.int x0), .val (.int x1), .val (.int x2), .unset, .unset, .unset, .unset] [(.int (65535 : Int32)), (.int (11 : Int32)), (.ref b1), (.ref b1)])) rfl rfl (hb hby at_68)
  obtain ⟨f13, A13⟩ : ∃ f, own_A Z T13.heap b1 .int (16 : Int32) f := ⟨_, A13⟩
  refine own_go st13 ?_
  show own_Fin p e below s (own_Q0 n0) room_1.cells room_1.slots (T13.setTop (mkF m 69 #[.val (.int x0), .val (.int x1), .val (.int x2), .unset, .unset, .unset, .unset] [(.ref b1)]))
  have N13 := Fr.snoc X13 N12 G
  refine own_go (fun t => XS.dup X13.here hx rfl (hb hby at_69) rfl rfl) ?_
  show own_Fin p e below s (own_Q0 n0) room_1.cells room_1.slots (T13.setTop (mkF m 70 #[.val (.int x0), .val (.int x1), .val (.int x2), .unset, .unset, .unset, .unset] [(.ref b1), (.ref b1)]))
  refine own_go (fun t => XS.bipush X13.here hx rfl (hb hby at_70)) ?_
  show own_Fin p e below s (own_Q0 n0) room_1.cells room_1.slots (T13.setTop (mkF m 72 #[.val (.int x0), .val (.int x1), .val (.int x2), .unset, .unset, .unset, .unset] [(.int (12 : Int32)), (.ref b1), (.ref b1)]))
  refine own_go (fun t => X13.ldcInt hx hown (mvT hZ (hw _ (List.mem_of_getElem? (i := 6) rfl))) (g := (mkF m 72 #[.val (.int x0), .val (.int x1), .val (.int x2), .unset, .unset, .unset, .unset] [(.int (12 : Int32)), (.ref b1), (.ref b1)])) rfl (hb hby at_72) t) ?_
  show own_Fin p e below s (own_Q0 n0) room_1.cells room_1.slots (T13.setTop (mkF m 74 #[.val (.int x0), .val (.int x1), .val (.int x2), .unset, .unset, .unset, .unset] [(.int (1114111 : Int32)), (.int (12 : Int32)), (.ref b1), (.ref b1)]))
  obtain ⟨T14, X14, W14, A14, st14⟩ := own_stI X13 hx hZ rfl A13 (by decide) (by decide) (g := (mkF m 74 #[.val (.int x0), .val (.int x1), .val (.int x2), .unset, .unset, .unset, .unset] [(.int (1114111 : Int32)), (.int (12 : Int32)), (.ref b1), (.ref b1)])) rfl rfl (hb hby at_74)
  obtain ⟨f14, A14⟩ : ∃ f, own_A Z T14.heap b1 .int (16 : Int32) f := ⟨_, A14⟩
  refine own_go st14 ?_
  show own_Fin p e below s (own_Q0 n0) room_1.cells room_1.slots (T14.setTop (mkF m 75 #[.val (.int x0), .val (.int x1), .val (.int x2), .unset, .unset, .unset, .unset] [(.ref b1)]))
  have N14 := Fr.snoc X14 N13 G
  refine own_go (fun t => XS.dup X14.here hx rfl (hb hby at_75) rfl rfl) ?_
  show own_Fin p e below s (own_Q0 n0) room_1.cells room_1.slots (T14.setTop (mkF m 76 #[.val (.int x0), .val (.int x1), .val (.int x2), .unset, .unset, .unset, .unset] [(.ref b1), (.ref b1)]))
  refine own_go (fun t => XS.bipush X14.here hx rfl (hb hby at_76)) ?_
  show own_Fin p e below s (own_Q0 n0) room_1.cells room_1.slots (T14.setTop (mkF m 78 #[.val (.int x0), .val (.int x1), .val (.int x2), .unset, .unset, .unset, .unset] [(.int (13 : Int32)), (.ref b1), (.ref b1)]))
  refine own_go (fun t => XS.iconst X14.here hx rfl (hb hby at_78)) ?_
  show own_Fin p e below s (own_Q0 n0) room_1.cells room_1.slots (T14.setTop (mkF m 79 #[.val (.int x0), .val (.int x1), .val (.int x2), .unset, .unset, .unset, .unset] [(.int (-1 : Int32)), (.int (13 : Int32)), (.ref b1), (.ref b1)]))
  obtain ⟨T15, X15, W15, A15, st15⟩ := own_stI X14 hx hZ rfl A14 (by decide) (by decide) (g := (mkF m 79 #[.val (.int x0), .val (.int x1), .val (.int x2), .unset, .unset, .unset, .unset] [(.int (-1 : Int32)), (.int (13 : Int32)), (.ref b1), (.ref b1)])) rfl rfl (hb hby at_79)
  obtain ⟨f15, A15⟩ : ∃ f, own_A Z T15.heap b1 .int (16 : Int32) f := ⟨_, A15⟩
  refine own_go st15 ?_
  show own_Fin p e below s (own_Q0 n0) room_1.cells room_1.slots (T15.setTop (mkF m 80 #[.val (.int x0), .val (.int x1), .val (.int x2), .unset, .unset, .unset, .unset] [(.ref b1)]))
  have N15 := Fr.snoc X15 N14 G
  refine own_go (fun t => XS.dup X15.here hx rfl (hb hby at_80) rfl rfl) ?_
  show own_Fin p e below s (own_Q0 n0) room_1.cells room_1.slots (T15.setTop (mkF m 81 #[.val (.int x0), .val (.int x1), .val (.int x2), .unset, .unset, .unset, .unset] [(.ref b1), (.ref b1)]))
  refine own_go (fun t => XS.bipush X15.here hx rfl (hb hby at_81)) ?_
  show own_Fin p e below s (own_Q0 n0) room_1.cells room_1.slots (T15.setTop (mkF m 83 #[.val (.int x0), .val (.int x1), .val (.int x2), .unset, .unset, .unset, .unset] [(.int (14 : Int32)), (.ref b1), (.ref b1)]))
  refine own_go (fun t => X15.ldcInt hx hown (mvT hZ (hw _ (List.mem_of_getElem? (i := 7) rfl))) (g := (mkF m 83 #[.val (.int x0), .val (.int x1), .val (.int x2), .unset, .unset, .unset, .unset] [(.int (14 : Int32)), (.ref b1), (.ref b1)])) rfl (hb hby at_83) t) ?_
  show own_Fin p e below s (own_Q0 n0) room_1.cells room_1.slots (T15.setTop (mkF m 85 #[.val (.int x0), .val (.int x1), .val (.int x2), .unset, .unset, .unset, .unset] [(.int (2147483647 : Int32)), (.int (14 : Int32)), (.ref b1), (.ref b1)]))
  obtain ⟨T16, X16, W16, A16, st16⟩ := own_stI X15 hx hZ rfl A15 (by decide) (by decide) (g := (mkF m 85 #[.val (.int x0), .val (.int x1), .val (.int x2), .unset, .unset, .unset, .unset] [(.int (2147483647 : Int32)), (.int (14 : Int32)), (.ref b1), (.ref b1)])) rfl rfl (hb hby at_85)
  obtain ⟨f16, A16⟩ : ∃ f, own_A Z T16.heap b1 .int (16 : Int32) f := ⟨_, A16⟩
  refine own_go st16 ?_
  show own_Fin p e below s (own_Q0 n0) room_1.cells room_1.slots (T16.setTop (mkF m 86 #[.val (.int x0), .val (.int x1), .val (.int x2), .unset, .unset, .unset, .unset] [(.ref b1)]))
  have N16 := Fr.snoc X16 N15 G
  refine own_go (fun t => XS.dup X16.here hx rfl (hb hby at_86) rfl rfl) ?_
  show own_Fin p e below s (own_Q0 n0) room_1.cells room_1.slots (T16.setTop (mkF m 87 #[.val (.int x0), .val (.int x1), .val (.int x2), .unset, .unset, .unset, .unset] [(.ref b1), (.ref b1)]))
  refine own_go (fun t => XS.bipush X16.here hx rfl (hb hby at_87)) ?_
  show own_Fin p e below s (own_Q0 n0) room_1.cells room_1.slots (T16.setTop (mkF m 89 #[.val (.int x0), .val (.int x1), .val (.int x2), .unset, .unset, .unset, .unset] [(.int (15 : Int32)), (.ref b1), (.ref b1)]))
  refine own_go (fun t => XS.sipush X16.here hx rfl (hb hby at_89)) ?_
  show own_Fin p e below s (own_Q0 n0) room_1.cells room_1.slots (T16.setTop (mkF m 92 #[.val (.int x0), .val (.int x1), .val (.int x2), .unset, .unset, .unset, .unset] [(.int (12288 : Int32)), (.int (15 : Int32)), (.ref b1), (.ref b1)]))
  obtain ⟨T17, X17, W17, A17, st17⟩ := own_stI X16 hx hZ rfl A16 (by decide) (by decide) (g := (mkF m 92 #[.val (.int x0), .val (.int x1), .val (.int x2), .unset, .unset, .unset, .unset] [(.int (12288 : Int32)), (.int (15 : Int32)), (.ref b1), (.ref b1)])) rfl rfl (hb hby at_92)
  obtain ⟨f17, A17⟩ : ∃ f, own_A Z T17.heap b1 .int (16 : Int32) f := ⟨_, A17⟩
  refine own_go st17 ?_
  show own_Fin p e below s (own_Q0 n0) room_1.cells room_1.slots (T17.setTop (mkF m 93 #[.val (.int x0), .val (.int x1), .val (.int x2), .unset, .unset, .unset, .unset] [(.ref b1)]))
  have N17 := Fr.snoc X17 N16 G
  refine own_go (fun t => XS.astoreN X17.here hx rfl (hb hby at_93) rfl rfl (l' := #[.val (.int x0), .val (.int x1), .val (.int x2), .val (.ref b1), .unset, .unset, .unset]) rfl) ?_
  show own_Fin p e below s (own_Q0 n0) room_1.cells room_1.slots (T17.setTop (mkF m 94 #[.val (.int x0), .val (.int x1), .val (.int x2), .val (.ref b1), .unset, .unset, .unset] []))
  refine own_go (fun t => XS.aloadN X17.here hx rfl (hb hby at_94) rfl rfl) ?_
  show own_Fin p e below s (own_Q0 n0) room_1.cells room_1.slots (T17.setTop (mkF m 95 #[.val (.int x0), .val (.int x1), .val (.int x2), .val (.ref b1), .unset, .unset, .unset] [(.ref b1)]))
  refine own_go (fun t => XS.iloadN X17.here hx rfl (hb hby at_95) rfl) ?_
  show own_Fin p e below s (own_Q0 n0) room_1.cells room_1.slots (T17.setTop (mkF m 96 #[.val (.int x0), .val (.int x1), .val (.int x2), .val (.ref b1), .unset, .unset, .unset] [(.int x1), (.ref b1)]))
  refine own_go (fun t => XS.bipush X17.here hx rfl (hb hby at_96)) ?_
  show own_Fin p e below s (own_Q0 n0) room_1.cells room_1.slots (T17.setTop (mkF m 98 #[.val (.int x0), .val (.int x1), .val (.int x2), .val (.ref b1), .unset, .unset, .unset] [(.int (15 : Int32)), (.int x1), (.ref b1)]))
  refine own_go (fun t => XS.iand X17.here hx rfl (hb hby at_98) rfl) ?_
  show own_Fin p e below s (own_Q0 n0) room_1.cells room_1.slots (T17.setTop (mkF m 99 #[.val (.int x0), .val (.int x1), .val (.int x2), .val (.ref b1), .unset, .unset, .unset] [(.int (x1 &&& (15 : Int32))), (.ref b1)]))
  have hj := own_maskpos x1 15 4 (by decide) (by decide) 16 (by decide) (by decide)
  refine own_go (own_ldI X17 hx hZ rfl A17 (j := (x1 &&& (15 : Int32))) (own_nlt 0 (by decide) hj.1) (own_lt 16 (by decide) hj.2) (g := (mkF m 99 #[.val (.int x0), .val (.int x1), .val (.int x2), .val (.ref b1), .unset, .unset, .unset] [(.int (x1 &&& (15 : Int32))), (.ref b1)])) rfl rfl (hb hby at_99)) ?_
  show own_Fin p e below s (own_Q0 n0) room_1.cells room_1.slots (T17.setTop (mkF m 100 #[.val (.int x0), .val (.int x1), .val (.int x2), .val (.ref b1), .unset, .unset, .unset] [(.int (f17 (x1 &&& (15 : Int32))))]))
  refine own_go (fun t => XS.iloadN X17.here hx rfl (hb hby at_100) rfl) ?_
  show own_Fin p e below s (own_Q0 n0) room_1.cells room_1.slots (T17.setTop (mkF m 101 #[.val (.int x0), .val (.int x1), .val (.int x2), .val (.ref b1), .unset, .unset, .unset] [(.int x2), (.int (f17 (x1 &&& (15 : Int32))))]))
  refine own_go (fun t => XS.iconst X17.here hx rfl (hb hby at_101)) ?_
  show own_Fin p e below s (own_Q0 n0) room_1.cells room_1.slots (T17.setTop (mkF m 102 #[.val (.int x0), .val (.int x1), .val (.int x2), .val (.ref b1), .unset, .unset, .unset] [(.int (3 : Int32)), (.int x2), (.int (f17 (x1 &&& (15 : Int32))))]))
  refine own_go (fun t => XS.iand X17.here hx rfl (hb hby at_102) rfl) ?_
  show own_Fin p e below s (own_Q0 n0) room_1.cells room_1.slots (T17.setTop (mkF m 103 #[.val (.int x0), .val (.int x1), .val (.int x2), .val (.ref b1), .unset, .unset, .unset] [(.int (x2 &&& (3 : Int32))), (.int (f17 (x1 &&& (15 : Int32))))]))
  refine own_go (fun t => XS.iconst X17.here hx rfl (hb hby at_103)) ?_
  show own_Fin p e below s (own_Q0 n0) room_1.cells room_1.slots (T17.setTop (mkF m 104 #[.val (.int x0), .val (.int x1), .val (.int x2), .val (.ref b1), .unset, .unset, .unset] [(.int (1 : Int32)), (.int (x2 &&& (3 : Int32))), (.int (f17 (x1 &&& (15 : Int32))))]))
  refine own_go (fun t => XS.isub X17.here hx rfl (hb hby at_104) rfl) ?_
  show own_Fin p e below s (own_Q0 n0) room_1.cells room_1.slots (T17.setTop (mkF m 105 #[.val (.int x0), .val (.int x1), .val (.int x2), .val (.ref b1), .unset, .unset, .unset] [(.int ((x2 &&& (3 : Int32)) - (1 : Int32))), (.int (f17 (x1 &&& (15 : Int32))))]))
  refine own_go (fun t => XS.iadd X17.here hx rfl (hb hby at_105) rfl) ?_
  show own_Fin p e below s (own_Q0 n0) room_1.cells room_1.slots (T17.setTop (mkF m 106 #[.val (.int x0), .val (.int x1), .val (.int x2), .val (.ref b1), .unset, .unset, .unset] [(.int ((f17 (x1 &&& (15 : Int32))) + ((x2 &&& (3 : Int32)) - (1 : Int32))))]))
  generalize ((f17 (x1 &&& (15 : Int32))) + ((x2 &&& (3 : Int32)) - (1 : Int32))) = e5
  show own_Fin p e below s (own_Q0 n0) room_1.cells room_1.slots (T17.setTop (mkF m 106 #[.val (.int x0), .val (.int x1), .val (.int x2), .val (.ref b1), .unset, .unset, .unset] [(.int e5)]))
  refine own_go (fun t => XS.istore X17.here hx rfl (hb hby at_106) rfl (l' := #[.val (.int x0), .val (.int x1), .val (.int x2), .val (.ref b1), .val (.int e5), .unset, .unset]) rfl) ?_
  show own_Fin p e below s (own_Q0 n0) room_1.cells room_1.slots (T17.setTop (mkF m 108 #[.val (.int x0), .val (.int x1), .val (.int x2), .val (.ref b1), .val (.int e5), .unset, .unset] []))
  refine own_go (fun t => XS.iloadN X17.here hx rfl (hb hby at_108) rfl) ?_
  show own_Fin p e below s (own_Q0 n0) room_1.cells room_1.slots (T17.setTop (mkF m 109 #[.val (.int x0), .val (.int x1), .val (.int x2), .val (.ref b1), .val (.int e5), .unset, .unset] [(.int x0)]))
  obtain ⟨T18, X18, e18, st18⟩ := own_callP X17 hx hZ rfl (y := (⟨"com/example/dovetail/dovetail/xml/XmlInput", "isXmlCharacter", "(I)Z"⟩ : MethodName)) hown (hw _ (List.mem_of_getElem? (i := 8) rfl)) (hw _ (List.mem_of_getElem? (i := 9) rfl)) (hw _ (List.mem_of_getElem? (i := 10) rfl)) (hw _ (List.mem_of_getElem? (i := 11) rfl)) (by decide) (argsL := [(.int x0)]) (rest := []) (own_c1 l Z a0 hw x0 _) (by decide) 0 (by decide) (by decide) (by decide) (g := (mkF m 109 #[.val (.int x0), .val (.int x1), .val (.int x2), .val (.ref b1), .val (.int e5), .unset, .unset] [(.int x0)])) rfl (by rw [hml]; rfl) (lenOf own_pd0 rfl) rfl (by show 2 * 0 + _ ≤ _; exact Nat.le_of_eq rfl) (hb hby at_109)
  refine own_go st18 ?_
  show own_Fin p e below s (own_Q0 n0) room_1.cells room_1.slots (T18.setTop (mkF m 112 #[.val (.int x0), .val (.int x1), .val (.int x2), .val (.ref b1), .val (.int e5), .unset, .unset] [(.int (own_f1_0 x0))]))
  refine own_go (fun t => XS.iloadN X18.here hx rfl (hb hby at_112) rfl) ?_
  show own_Fin p e below s (own_Q0 n0) room_1.cells room_1.slots (T18.setTop (mkF m 113 #[.val (.int x0), .val (.int x1), .val (.int x2), .val (.ref b1), .val (.int e5), .unset, .unset] [(.int x0), (.int (own_f1_0 x0))]))
  obtain ⟨T19, X19, e19, st19⟩ := own_callP X18 hx hZ e18 (y := (⟨"com/example/dovetail/dovetail/xml/XmlInputIsXmlCharacterPinLaw", "allowed", "(I)Z"⟩ : MethodName)) hown (hw _ (List.mem_of_getElem? (i := 14) rfl)) (hw _ (List.mem_of_getElem? (i := 15) rfl)) (hw _ (List.mem_of_getElem? (i := 16) rfl)) (hw _ (List.mem_of_getElem? (i := 17) rfl)) (by decide) (argsL := [(.int x0)]) (rest := [(.int (own_f1_0 x0))]) (own_c2 l Z a0 hw x0 _) (by decide) 1 (by decide) (by decide) (by decide) (g := (mkF m 113 #[.val (.int x0), .val (.int x1), .val (.int x2), .val (.ref b1), .val (.int e5), .unset, .unset] [(.int x0), (.int (own_f1_0 x0))])) rfl (by rw [hml]; rfl) (lenOf own_pd0 rfl) rfl (by show 2 * 0 + _ ≤ _; exact Nat.le_of_eq rfl) (hb hby at_113)
  refine own_go st19 ?_
  show own_Fin p e below s (own_Q0 n0) room_1.cells room_1.slots (T19.setTop (mkF m 116 #[.val (.int x0), .val (.int x1), .val (.int x2), .val (.ref b1), .val (.int e5), .unset, .unset] [(.int (own_f2_0 x0)), (.int (own_f1_0 x0))]))
  refine own_go (fun t => XS.icmpNo X19.here hx rfl (hb hby at_116) rfl (teq (own_same x0)).2) ?_
  show own_Fin p e below s (own_Q0 n0) room_1.cells room_1.slots (T19.setTop (mkF m 119 #[.val (.int x0), .val (.int x1), .val (.int x2), .val (.ref b1), .val (.int e5), .unset, .unset] []))
  refine own_go (fun t => XS.iconst X19.here hx rfl (hb hby at_119)) ?_
  show own_Fin p e below s (own_Q0 n0) room_1.cells room_1.slots (T19.setTop (mkF m 120 #[.val (.int x0), .val (.int x1), .val (.int x2), .val (.ref b1), .val (.int e5), .unset, .unset] [(.int (1 : Int32))]))
  refine own_go (fun t => XS.goto X19.here hx rfl (pc0 := 120) (pc' := 124) rfl (hb hby at_120) (by decide) (by decide)) ?_
  show own_Fin p e below s (own_Q0 n0) room_1.cells room_1.slots (T19.setTop (mkF m 124 #[.val (.int x0), .val (.int x1), .val (.int x2), .val (.ref b1), .val (.int e5), .unset, .unset] [(.int (1 : Int32))]))
  refine own_go (fun t => XS.istore X19.here hx rfl (hb hby at_124) rfl (l' := #[.val (.int x0), .val (.int x1), .val (.int x2), .val (.ref b1), .val (.int e5), .val (.int (1 : Int32)), .unset]) rfl) ?_
  show own_Fin p e below s (own_Q0 n0) room_1.cells room_1.slots (T19.setTop (mkF m 126 #[.val (.int x0), .val (.int x1), .val (.int x2), .val (.ref b1), .val (.int e5), .val (.int (1 : Int32)), .unset] []))
  refine own_go (fun t => XS.iload X19.here hx rfl (hb hby at_126) rfl) ?_
  show own_Fin p e below s (own_Q0 n0) room_1.cells room_1.slots (T19.setTop (mkF m 128 #[.val (.int x0), .val (.int x1), .val (.int x2), .val (.ref b1), .val (.int e5), .val (.int (1 : Int32)), .unset] [(.int e5)]))
  obtain ⟨T20, X20, e20, st20⟩ := own_callP X19 hx hZ e19 (y := (⟨"com/example/dovetail/dovetail/xml/XmlInput", "isXmlCharacter", "(I)Z"⟩ : MethodName)) hown (hw _ (List.mem_of_getElem? (i := 8) rfl)) (hw _ (List.mem_of_getElem? (i := 9) rfl)) (hw _ (List.mem_of_getElem? (i := 10) rfl)) (hw _ (List.mem_of_getElem? (i := 11) rfl)) (by decide) (argsL := [(.int e5)]) (rest := []) (own_c1 l Z a0 hw e5 _) (by decide) 0 (by decide) (by decide) (by decide) (g := (mkF m 128 #[.val (.int x0), .val (.int x1), .val (.int x2), .val (.ref b1), .val (.int e5), .val (.int (1 : Int32)), .unset] [(.int e5)])) rfl (by rw [hml]; rfl) (lenOf own_pd0 rfl) rfl (by show 2 * 0 + _ ≤ _; exact Nat.le_of_eq rfl) (hb hby at_128)
  refine own_go st20 ?_
  show own_Fin p e below s (own_Q0 n0) room_1.cells room_1.slots (T20.setTop (mkF m 131 #[.val (.int x0), .val (.int x1), .val (.int x2), .val (.ref b1), .val (.int e5), .val (.int (1 : Int32)), .unset] [(.int (own_f1_0 e5))]))
  refine own_go (fun t => XS.iload X20.here hx rfl (hb hby at_131) rfl) ?_
  show own_Fin p e below s (own_Q0 n0) room_1.cells room_1.slots (T20.setTop (mkF m 133 #[.val (.int x0), .val (.int x1), .val (.int x2), .val (.ref b1), .val (.int e5), .val (.int (1 : Int32)), .unset] [(.int e5), (.int (own_f1_0 e5))]))
  obtain ⟨T21, X21, e21, st21⟩ := own_callP X20 hx hZ e20 (y := (⟨"com/example/dovetail/dovetail/xml/XmlInputIsXmlCharacterPinLaw", "allowed", "(I)Z"⟩ : MethodName)) hown (hw _ (List.mem_of_getElem? (i := 14) rfl)) (hw _ (List.mem_of_getElem? (i := 15) rfl)) (hw _ (List.mem_of_getElem? (i := 16) rfl)) (hw _ (List.mem_of_getElem? (i := 17) rfl)) (by decide) (argsL := [(.int e5)]) (rest := [(.int (own_f1_0 e5))]) (own_c2 l Z a0 hw e5 _) (by decide) 1 (by decide) (by decide) (by decide) (g := (mkF m 133 #[.val (.int x0), .val (.int x1), .val (.int x2), .val (.ref b1), .val (.int e5), .val (.int (1 : Int32)), .unset] [(.int e5), (.int (own_f1_0 e5))])) rfl (by rw [hml]; rfl) (lenOf own_pd0 rfl) rfl (by show 2 * 0 + _ ≤ _; exact Nat.le_of_eq rfl) (hb hby at_133)
  refine own_go st21 ?_
  show own_Fin p e below s (own_Q0 n0) room_1.cells room_1.slots (T21.setTop (mkF m 136 #[.val (.int x0), .val (.int x1), .val (.int x2), .val (.ref b1), .val (.int e5), .val (.int (1 : Int32)), .unset] [(.int (own_f2_0 e5)), (.int (own_f1_0 e5))]))
  refine own_go (fun t => XS.icmpNo X21.here hx rfl (hb hby at_136) rfl (teq (own_same e5)).2) ?_
  show own_Fin p e below s (own_Q0 n0) room_1.cells room_1.slots (T21.setTop (mkF m 139 #[.val (.int x0), .val (.int x1), .val (.int x2), .val (.ref b1), .val (.int e5), .val (.int (1 : Int32)), .unset] []))
  refine own_go (fun t => XS.iconst X21.here hx rfl (hb hby at_139)) ?_
  show own_Fin p e below s (own_Q0 n0) room_1.cells room_1.slots (T21.setTop (mkF m 140 #[.val (.int x0), .val (.int x1), .val (.int x2), .val (.ref b1), .val (.int e5), .val (.int (1 : Int32)), .unset] [(.int (1 : Int32))]))
  refine own_go (fun t => XS.goto X21.here hx rfl (pc0 := 140) (pc' := 144) rfl (hb hby at_140) (by decide) (by decide)) ?_
  show own_Fin p e below s (own_Q0 n0) room_1.cells room_1.slots (T21.setTop (mkF m 144 #[.val (.int x0), .val (.int x1), .val (.int x2), .val (.ref b1), .val (.int e5), .val (.int (1 : Int32)), .unset] [(.int (1 : Int32))]))
  refine own_go (fun t => XS.istore X21.here hx rfl (hb hby at_144) rfl (l' := #[.val (.int x0), .val (.int x1), .val (.int x2), .val (.ref b1), .val (.int e5), .val (.int (1 : Int32)), .val (.int (1 : Int32))]) rfl) ?_
  show own_Fin p e below s (own_Q0 n0) room_1.cells room_1.slots (T21.setTop (mkF m 146 #[.val (.int x0), .val (.int x1), .val (.int x2), .val (.ref b1), .val (.int e5), .val (.int (1 : Int32)), .val (.int (1 : Int32))] []))
  refine own_go (fun t => XS.iload X21.here hx rfl (hb hby at_146) rfl) ?_
  show own_Fin p e below s (own_Q0 n0) room_1.cells room_1.slots (T21.setTop (mkF m 148 #[.val (.int x0), .val (.int x1), .val (.int x2), .val (.ref b1), .val (.int e5), .val (.int (1 : Int32)), .val (.int (1 : Int32))] [(.int (1 : Int32))]))
  refine own_go (fun t => XS.ifNo X21.here hx rfl (hb hby at_148) rfl ((if0 _ _).trans (feq (by decide)).1)) ?_
  show own_Fin p e below s (own_Q0 n0) room_1.cells room_1.slots (T21.setTop (mkF m 151 #[.val (.int x0), .val (.int x1), .val (.int x2), .val (.ref b1), .val (.int e5), .val (.int (1 : Int32)), .val (.int (1 : Int32))] []))
  refine own_go (fun t => XS.iload X21.here hx rfl (hb hby at_151) rfl) ?_
  show own_Fin p e below s (own_Q0 n0) room_1.cells room_1.slots (T21.setTop (mkF m 153 #[.val (.int x0), .val (.int x1), .val (.int x2), .val (.ref b1), .val (.int e5), .val (.int (1 : Int32)), .val (.int (1 : Int32))] [(.int (1 : Int32))]))
  refine own_go (fun t => XS.ifNo X21.here hx rfl (hb hby at_153) rfl ((if0 _ _).trans (feq (by decide)).1)) ?_
  show own_Fin p e below s (own_Q0 n0) room_1.cells room_1.slots (T21.setTop (mkF m 156 #[.val (.int x0), .val (.int x1), .val (.int x2), .val (.ref b1), .val (.int e5), .val (.int (1 : Int32)), .val (.int (1 : Int32))] []))
  refine own_go (fun t => XS.iconst X21.here hx rfl (hb hby at_156)) ?_
  show own_Fin p e below s (own_Q0 n0) room_1.cells room_1.slots (T21.setTop (mkF m 157 #[.val (.int x0), .val (.int x1), .val (.int x2), .val (.ref b1), .val (.int e5), .val (.int (1 : Int32)), .val (.int (1 : Int32))] [(.int (1 : Int32))]))
  refine own_go (fun t => XS.goto X21.here hx rfl (pc0 := 157) (pc' := 161) rfl (hb hby at_157) (by decide) (by decide)) ?_
  show own_Fin p e below s (own_Q0 n0) room_1.cells room_1.slots (T21.setTop (mkF m 161 #[.val (.int x0), .val (.int x1), .val (.int x2), .val (.ref b1), .val (.int e5), .val (.int (1 : Int32)), .val (.int (1 : Int32))] [(.int (1 : Int32))]))
  exact own_ret X21 hlk hx (t := .boolean) hret rfl (Or.inl ⟨rfl, by simp, _, rfl⟩) (hb hby at_161) ⟨rfl, N17⟩ (by decide) (by decide)
theorem own_rm0 (l : Launch) (Z : State) (a0 : Array Value) (hw : ∀ d ∈ tables_1, d.before a0 Z = true) (ws : List Jvm.Cond) (x0 : Int32) (x1 : Int32) (x2 : Int32) (h0 : Heap) (n0 : Nat) (Z0 : n0 ≤ h0.size) : own_Met l Z x code maxLocals ret ws room_1 #[(.int x0), (.int x1), (.int x2)] h0 (own_Q0 n0) :=
  own_enter (plainFor_of_name own_pn1) (own_ef0 x0 x1 x2) hw (fun p e s m below meth c T X C hh => own_law X C hh x0 x1 x2 n0 Z0)
set_option maxRecDepth 65536 in
set_option maxHeartbeats 40000000 in
theorem own_comes {Post : Tables → Env → Array Value → State → Outcome → State → Prop} (hpost : ∀ tb e args s v u, (limb_1_1.after args s (.returned v) u = true ∧ limb_1_2.after args s (.returned v) u = true ∧ True) → FrameEnd s (.returned v) u (Jvm.fieldLocs frame_1_writes args s ++ Jvm.arrayLocs frame_1_arrays args s ++ Jvm.staticLocs frame_1_statics s) 16 128 → Post tb e args s (.returned v) u) :
    ArmFor flags0 classFile x code maxLocals ret World_1 tables_1 room_1 Calls_1 rest_1 Pre_1 Post := by
  intro l hfl _ _ p e ha hc hk s m args below hf hA hF happ hP
  obtain ⟨hcalls, hrest, hpre⟩ := hP
  obtain ⟨-, -, -, hnamed, -, -, -, hat⟩ := (Spec.applies_iff hf).mp happ
  obtain ⟨hg, hn⟩ := and_e (Cond.before_iff.mp (show (Jvm.Cond.and given_1 narrow_1).before args s = true from hpre))
  obtain ⟨g0, r0⟩ := and_e hg
  obtain ⟨g1, r1⟩ := and_e r0
  obtain ⟨g2, r2⟩ := and_e r1
  obtain ⟨w0, w1, w2, rfl⟩ : ∃ w0 w1 w2 : Value, args = #[w0, w1, w2] := by
    have hs : args.size = 3 := by simpa [Cond.value, given_1] using g0
    obtain ⟨L⟩ := args
    match L, hs with
    | [w0, w1, w2], _ => exact ⟨w0, w1, w2, rfl⟩
  have hw := fun d (hd : d ∈ tables_1) => atoms_spec (ws := Jvm.Cond.code x code maxLocals ret :: tables_1) hat d (List.mem_cons_of_mem _ hd)
  obtain ⟨i0, ei0⟩ := is_v g1
  obtain rfl : w0 = (.int i0) := Option.some.inj ei0
  obtain ⟨i1, ei1⟩ := is_v g2
  obtain rfl : w1 = (.int i1) := Option.some.inj ei1
  obtain ⟨i2, ei2⟩ := is_v r2
  obtain rfl : w2 = (.int i2) := Option.some.inj ei2
  obtain ⟨n, o, h1, h2, h3, _, L, rfl, ⟨rfl, N⟩, hq⟩ := own_rm0 l s _ hw tables_1 i0 i1 i2 s.heap s.heap.size (Nat.le_refl _) p e ha hc hk s m _ below hf ((Spec.applies_iff_loose hf).mp happ).1 ⟨rfl, State.Warmed39.refl s, rfl⟩ trivial
  refine ⟨n, _, h1, h2, h3, hpost _ _ _ _ _ _ ⟨Cond.after_iff.mpr rfl, Cond.after_iff.mpr (eq_i res_at (Term.int_eval (1)) rfl), trivial⟩ ⟨hq.1, hq.2.1, (hq.2.2.sift fun y hy => Or.inr (N y hy)).mono (by decide) (by decide)⟩⟩
theorem main_1_1 : Claimed_1_1 := own_comes fun _ _ _ _ _ _ h hF => ⟨h.1, hF⟩
theorem main_1_2 : Claimed_1_2 := own_comes fun _ _ _ _ _ _ h hF => ⟨h.2.1, hF⟩
end Jvm.Pilot.@@N@@
namespace Jvm.Pilot.@@N@@
open Jvm Jvm.ClassFile Sem Op Lib Jvm.Free Jvm.Stand Jvm.Pilot.@@N@@.Jvm.D
/-! MADE BY PROGRAM (witnessworld.py) out of the Statement's table words and the real class files: 9 classes; the members and pool entries that the words name. The judged class is class 1, her method 2. -/
namespace start1
open Jvm.ClassFile
def u (s : String) : CpInfo := .utf8 (stringToUtf16 s)
/-- a pool by its gaps: so many unusable entries, then the entry; so many at the end -/
def gap : Nat → List CpInfo → List CpInfo
  | 0, r => r
  | n + 1, r => .unusable :: gap n r
def poolList (es : List (Nat × CpInfo)) (last : Nat) : List CpInfo := es.foldr (fun e r => gap e.1 (e.2 :: r)) (gap last [])
def pool (es : List (Nat × CpInfo)) (last : Nat) : Array CpInfo := ⟨poolList es last⟩
def fileOf (pool : Array CpInfo) (this : Nat) (attrs : Array Attribute := #[]) (ms : Array MethodInfo := #[]) (fl : Nat := 33) (sup : Nat := 0) (ifs : Array Nat := #[]) (fds : Array FieldInfo := #[]) : ClassFile where
  minorVersion := 0
  majorVersion := 65
  constantPool := pool
  accessFlags := fl
  thisClass := this
  superClass := sup
  interfaces := ifs
  fields := fds
  methods := ms
  attributes := attrs
def plain (name : String) (sup : Option ClassId) : Class where
  name := name
  kind := .ordinary
  loader := none
  accessFlags := 33
  super := sup
  interfaces := #[]
  cf := none
  fields := #[]
  methods := #[]
  instanceTypes := #[]
  staticTypes := #[]
  resolved := #[]
  callSites := []
  init := .initialized
  statics := none
  mirror := none

def pool0 : Array CpInfo := pool [(5, u "<init>"), (0, u "()V"), (1, .class_ 10), (1, u "java/lang/Object")] 113

def k0m0 : Method := { name := "<init>", desc := "()V", sig := { parameters := [], returnType := none }, accessFlags := 1, code := none }
/-- java/lang/Object -/
def k0 : Class := { plain "java/lang/Object" none with
  accessFlags := 33
  interfaces := #[]
  cf := some (fileOf pool0 8 #[] #[{ accessFlags := 1, nameIndex := 5, descriptorIndex := 6, attributes := #[] }] 33 0 #[] #[])
  fields := #[]
  methods := #[k0m0]
  instanceTypes := #[]
  staticTypes := #[]
  resolved := Array.replicate 124 none
  statics := none }

def pool1 : Array CpInfo := pool [(2, .class_ 4), (1, u "java/lang/Object"), (0, u "<init>"), (0, u "()V"), (0, .integer 1114111), (0, .integer 55296), (0, .integer 57343), (0, .integer 65534), (0, .integer 65535), (2, .integer 2147483648), (0, .integer 55295), (0, .integer 65533), (0, .integer 2147483647), (0, .methodref 19 20), (0, .class_ 21), (0, .nameAndType 22 23), (0, u "com/example/dovetail/dovetail/xml/XmlInput"), (0, u "isXmlCharacter"), (0, u "(I)Z"), (0, .methodref 25 26), (0, .class_ 27), (0, .nameAndType 28 23), (0, u "com/example/dovetail/dovetail/xml/XmlInputIsXmlCharacterPinLaw"), (0, u "allowed"), (3, u "law"), (0, u "(III)Z")] 4

def k1m0 : Method := { name := "<init>", desc := "()V", sig := { parameters := [], returnType := none }, accessFlags := 2, code := none }
def k1c1 : Code := { maxStack := 2, maxLocals := 1, code := method_2_code, exceptionTable := #[], attributes := #[] }
def k1m1 : Method := { name := "allowed", desc := "(I)Z", sig := { parameters := [.int], returnType := some .boolean }, accessFlags := 10, code := some k1c1 }
def k1c2 : Code := { maxStack := 4, maxLocals := 7, code := code, exceptionTable := #[], attributes := #[] }
def k1m2 : Method := { name := "law", desc := "(III)Z", sig := { parameters := [.int, .int, .int], returnType := some .boolean }, accessFlags := 9, code := some k1c2 }
/-- com/example/dovetail/dovetail/xml/XmlInputIsXmlCharacterPinLaw -/
def k1 : Class := { plain "com/example/dovetail/dovetail/xml/XmlInputIsXmlCharacterPinLaw" (some 0) with
  accessFlags := 49
  interfaces := #[]
  cf := some (fileOf pool1 25 #[] #[{ accessFlags := 2, nameIndex := 5, descriptorIndex := 6, attributes := #[] }, { accessFlags := 10, nameIndex := 28, descriptorIndex := 23, attributes := #[] }, { accessFlags := 9, nameIndex := 32, descriptorIndex := 33, attributes := #[] }] 49 2 #[] #[])
  fields := #[]
  methods := #[k1m0, k1m1, k1m2]
  instanceTypes := #[]
  staticTypes := #[]
  resolved := Array.replicate 38 none
  statics := none }

def pool2 : Array CpInfo := pool [(2, .class_ 4), (1, u "java/lang/Object"), (6, .class_ 13), (1, u "com/example/dovetail/dovetail/xml/XmlInput"), (0, u "name"), (0, u "Lcom/example/dovetail/dovetail/io/TextBuffer;"), (2, u "line"), (0, u "J"), (4, u "carriageReturn"), (7, u "chars"), (0, u "Lcom/example/dovetail/dovetail/io/CharWindow;"), (40, u "lineStart"), (36, u "(I)Z"), (7, u "NAME_STOPS"), (0, u "Lcom/example/dovetail/dovetail/io/CharWindow$Stops;"), (61, u "CONTROLS"), (0, u "Ljava/lang/String;"), (14, .integer 55295), (0, .integer 57344), (0, .integer 65533), (0, .integer 65536), (0, .integer 1114111), (45, u "isXmlCharacter")] 23

def k2c0 : Code := { maxStack := 2, maxLocals := 1, code := prog_120_method_23_code, exceptionTable := #[], attributes := #[] }
def k2m0 : Method := { name := "isXmlCharacter", desc := "(I)Z", sig := { parameters := [.int], returnType := some .boolean }, accessFlags := 8, code := some k2c0 }
/-- com/example/dovetail/dovetail/xml/XmlInput -/
def k2 : Class := { plain "com/example/dovetail/dovetail/xml/XmlInput" (some 0) with
  accessFlags := 48
  interfaces := #[]
  cf := some (fileOf pool2 11 #[] #[{ accessFlags := 8, nameIndex := 248, descriptorIndex := 111, attributes := #[] }] 48 2 #[] #[{ accessFlags := 26, nameIndex := 182, descriptorIndex := 183, attributes := #[] }, { accessFlags := 26, nameIndex := 119, descriptorIndex := 120, attributes := #[] }, { accessFlags := 18, nameIndex := 32, descriptorIndex := 33, attributes := #[] }, { accessFlags := 18, nameIndex := 14, descriptorIndex := 15, attributes := #[] }, { accessFlags := 2, nameIndex := 18, descriptorIndex := 19, attributes := #[] }, { accessFlags := 2, nameIndex := 74, descriptorIndex := 19, attributes := #[] }, { accessFlags := 2, nameIndex := 24, descriptorIndex := 19, attributes := #[] }])
  fields := #[{ name := "CONTROLS", type := (.object "java/lang/String"), accessFlags := 26, slot := 0, constantValue := 0 }, { name := "NAME_STOPS", type := (.object "com/example/dovetail/dovetail/io/CharWindow$Stops"), accessFlags := 26, slot := 1, constantValue := 0 }, { name := "chars", type := (.object "com/example/dovetail/dovetail/io/CharWindow"), accessFlags := 18, slot := 0, constantValue := 0 }, { name := "name", type := (.object "com/example/dovetail/dovetail/io/TextBuffer"), accessFlags := 18, slot := 1, constantValue := 0 }, { name := "line", type := .long, accessFlags := 2, slot := 2, constantValue := 0 }, { name := "lineStart", type := .long, accessFlags := 2, slot := 3, constantValue := 0 }, { name := "carriageReturn", type := .long, accessFlags := 2, slot := 4, constantValue := 0 }]
  methods := #[k2m0]
  instanceTypes := #[(.object "com/example/dovetail/dovetail/io/CharWindow"), (.object "com/example/dovetail/dovetail/io/TextBuffer"), .long, .long, .long]
  staticTypes := #[(.object "java/lang/String"), (.object "com/example/dovetail/dovetail/io/CharWindow$Stops")]
  resolved := Array.replicate 272 none
  statics := none }

def pool3 : Array CpInfo := pool [(1, u "java/lang/Cloneable"), (0, .class_ 1), (0, u "java/lang/Object"), (0, .class_ 3)] 3

/-- java/lang/Cloneable -/
def k3 : Class := { plain "java/lang/Cloneable" (some 0) with
  accessFlags := 1537
  interfaces := #[]
  cf := some (fileOf pool3 2 #[] #[] 1537 4 #[] #[])
  fields := #[]
  methods := #[]
  instanceTypes := #[]
  staticTypes := #[]
  resolved := Array.replicate 8 none
  statics := none }

def pool4 : Array CpInfo := pool [(1, u "java/io/Serializable"), (0, .class_ 1), (0, u "java/lang/Object"), (0, .class_ 3)] 3

/-- java/io/Serializable -/
def k4 : Class := { plain "java/io/Serializable" (some 0) with
  accessFlags := 1537
  interfaces := #[]
  cf := some (fileOf pool4 2 #[] #[] 1537 4 #[] #[])
  fields := #[]
  methods := #[]
  instanceTypes := #[]
  staticTypes := #[]
  resolved := Array.replicate 8 none
  statics := none }

/-- the primitive byte -/
def k5 : Class := { plain "byte" none with kind := .primitive 'B', accessFlags := 0x411 }
/-- [B -/
def k6 : Class := { plain "[B" (some 0) with kind := .array 5 .byte, interfaces := #[3, 4], accessFlags := 1041 }

/-- the primitive int -/
def k7 : Class := { plain "int" none with kind := .primitive 'I', accessFlags := 0x411 }
/-- [I -/
def k8 : Class := { plain "[I" (some 0) with kind := .array 7 .int, interfaces := #[3, 4], accessFlags := 1041 }

def heap : Heap := #[]
def classes : Array Class := #[k0, k1, k2, k3, k4, k5, k6, k7, k8]
def interned : List (Array UInt16 × Addr) := []
def slotsUsed : Nat := 0
def theMethod : MethodId := ⟨1, 2⟩
def args0 : Array Value := #[.int 5, .int 3, .int 1]
def aboutOver (below : List Frame) : State where
  vm := { classes := classes, interned := interned.toArray }
  heap := heap
  slotsUsed := slotsUsed
  threads := #[{ frames := .invoking theMethod args0 :: below }]
def below0 : List Frame := [.native { method := ⟨0, 0⟩, args := #[] }]
def about1 : State := aboutOver below0
def p0 : Program := .bare "" "" ""
def e0 : Env := launch0.env 0 0 0
theorem w_frames : about1.frames = Frame.invoking theMethod args0 :: below0 := rfl
set_option maxRecDepth 65536 in
theorem w_args : argsFit about1.vm theMethod args0 = true := by decide +kernel
set_option maxRecDepth 65536 in
theorem w_heap : heapFits about1 = true := by decide +kernel
set_option maxRecDepth 65536 in
theorem w_runnable : about1.curStatus? = some .runnable := by decide +kernel
set_option maxRecDepth 65536 in
theorem w_alone : about1.alone = true := by decide +kernel
set_option maxRecDepth 65536 in
theorem w_named : about1.methodNamed? x = some theMethod := by decide +kernel
set_option maxRecDepth 65536 in
theorem w_hears : about1.hears theMethod below0 = true := by decide +kernel
set_option maxRecDepth 65536 in
theorem w_ripe : about1.ripe theMethod args0 below0 = true := by decide +kernel
theorem w_running : about1.status = .running := rfl
set_option maxRecDepth 65536 in
theorem w_room : about1.hasRoom e0.platform room_1 = true :=
  launch0.hasRoom_least _ room_1 (by decide +kernel) (by decide +kernel) (by decide +kernel) (by decide +kernel) (by decide +kernel) (by decide +kernel)
theorem allAtoms_all (ts : List Jvm.Cond) (a : Array Jvm.Value) (st : Jvm.State) : (allAtoms ts).before a st = ts.all (fun c => c.before a st) := by
  induction ts with
  | nil => rfl
  | cons c t ih =>
    show (Jvm.Cond.and c (allAtoms t)).before a st = _
    rw [Jvm.Cond.before_and, ih, List.all_cons]
def words1 : List Jvm.Cond := Jvm.Cond.code x code maxLocals ret :: tables_1
/-- a 'code' word, met by the world's own term for the bytes: nothing is compared byte by byte -/
theorem code_word {y : MethodName} {bytes : ByteArray} {mx : Nat} {rt : Option FieldType} {a : Array Value} {s : State} {m : MethodId} {meth : Method} {c : Code} (h1 : s.methodNamed? y = some m) (h2 : s.vm.method? m = some meth) (h3 : meth.code = some c) (h4 : c.code = bytes)
    (h5 : (c.maxLocals == mx && c.exceptionTable.isEmpty && decide (c.maxStack ≤ mostOperands) && decide (meth.sig.returnType = rt) && !meth.locks && decide (parseMethodDescriptor y.desc = some meth.sig)) = true) : (Jvm.Cond.code y bytes mx rt).before a s = true := by
  simp only [Bool.and_eq_true, beq_iff_eq, Bool.not_eq_true', decide_eq_true_eq] at h5
  obtain ⟨⟨⟨⟨⟨g1, g2⟩, g3⟩, g4⟩, g5⟩, g6⟩ := h5
  simp [Cond.before, Cond.holds, Cond.value, h1, h2, h3, h4, g1, g2, g3, g4, g5, g6]
def isCode : Jvm.Cond → Bool
  | .code _ _ _ _ => true
  | _ => false
theorem all_split {L : List Jvm.Cond} {P : Jvm.Cond → Bool} (h1 : L.all (fun c => isCode c || P c) = true) (h2 : ∀ c ∈ L.filter isCode, P c = true) : L.all P = true := by
  refine List.all_eq_true.mpr fun c hc => ?_
  have h := List.all_eq_true.mp h1 c hc
  rcases Bool.eq_false_or_eq_true (isCode c) with hi | hi
  · exact h2 c (List.mem_filter.mpr ⟨hc, hi⟩)
  · simpa [hi] using h
set_option maxRecDepth 65536 in
theorem w_c0 : (Jvm.Cond.code x code maxLocals ret).before args0 about1 = true := code_word (m := ⟨1, 2⟩) (meth := k1m2) (c := k1c2) (by decide +kernel) rfl rfl rfl (by decide +kernel)
set_option maxRecDepth 65536 in
theorem w_c1 : (Jvm.Cond.code ({ cls := "com/example/dovetail/dovetail/xml/XmlInput", name := "isXmlCharacter", desc := "(I)Z" } : Jvm.MethodName) prog_120_method_23_code (1 : Nat) (Option.some Jvm.ClassFile.FieldType.boolean)).before args0 about1 = true := code_word (m := ⟨2, 0⟩) (meth := k2m0) (c := k2c0) (by decide +kernel) rfl rfl rfl (by decide +kernel)
set_option maxRecDepth 65536 in
theorem w_c2 : (Jvm.Cond.code ({ cls := "com/example/dovetail/dovetail/xml/XmlInputIsXmlCharacterPinLaw", name := "allowed", desc := "(I)Z" } : Jvm.MethodName) method_2_code (1 : Nat) (Option.some Jvm.ClassFile.FieldType.boolean)).before args0 about1 = true := code_word (m := ⟨1, 1⟩) (meth := k1m1) (c := k1c1) (by decide +kernel) rfl rfl rfl (by decide +kernel)
def codes1 : List Jvm.Cond := [Jvm.Cond.code x code maxLocals ret, Jvm.Cond.code ({ cls := "com/example/dovetail/dovetail/xml/XmlInput", name := "isXmlCharacter", desc := "(I)Z" } : Jvm.MethodName) prog_120_method_23_code (1 : Nat) (Option.some Jvm.ClassFile.FieldType.boolean), Jvm.Cond.code ({ cls := "com/example/dovetail/dovetail/xml/XmlInputIsXmlCharacterPinLaw", name := "allowed", desc := "(I)Z" } : Jvm.MethodName) method_2_code (1 : Nat) (Option.some Jvm.ClassFile.FieldType.boolean)]
set_option maxRecDepth 65536 in
theorem codes_eq : words1.filter isCode = codes1 := rfl
theorem w_codes : ∀ c ∈ words1.filter isCode, c.before args0 about1 = true := by
  rw [codes_eq]
  intro c hc
  simp only [codes1, List.mem_cons, List.not_mem_nil, or_false] at hc
  rcases hc with rfl | rfl | rfl
  · exact w_c0
  · exact w_c1
  · exact w_c2
set_option maxRecDepth 65536 in
theorem w_t1 : words1.all (fun c => isCode c || c.before args0 about1) = true := by decide +kernel
theorem w_tables : (allAtoms (Jvm.Cond.code x code maxLocals ret :: tables_1)).before args0 about1 = true := by
  rw [allAtoms_all]
  show words1.all (fun c => c.before args0 about1) = true
  refine all_split ?_ w_codes
  rw [w_t1]
set_option maxRecDepth 65536 in
theorem w_case : (Jvm.Cond.and given_1 narrow_1).before args0 about1 = true := by decide +kernel
theorem w_applies : (headSpec (Jvm.Cond.code x code maxLocals ret :: tables_1) room_1).applies x e0.platform about1 = true :=
  (Spec.applies_iff w_frames).mpr ⟨w_running, w_runnable, w_alone, w_named, w_hears, w_ripe, w_room, w_tables⟩
theorem atStart : AtStart classFile x code maxLocals ret World_1 tables_1 room_1 Calls_1 rest_1 Pre_1 launch0 p0 e0 about1 theMethod args0 below0 :=
  ⟨lists_1, trivial, launch0.admits_env _ _ _, launch0.least_env, fairChoices_fair.cas, fairChoices_fair.clock, w_frames, w_args, w_heap, w_applies, trivial, trivial, w_case⟩
end start1
theorem witness_1 : WitnessClaimed_1 := ⟨start1.p0, start1.e0, start1.about1, start1.theMethod, start1.args0, start1.below0, start1.atStart⟩
end Jvm.Pilot.@@N@@
