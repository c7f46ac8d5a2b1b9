import JvmDerived
import JvmDerived.Pilot.@@N@@Statement
import JvmDerived.Pilot.@@N@@Code
set_option linter.unusedVariables false
set_option linter.unusedSimpArgs false
namespace Jvm.RoadKit
open Sem ClassFile Op Lib Jvm.Stand Jvm.Free Jvm.LawKit
section OwnKit
variable {p : Program} {l : Launch} {e : Env} {R : Room} {s : State} {m : MethodId} {args : Array Value} {below : List Frame} {meth : Method} {c : Code} {T : State} {locs : List Loc} {cells slots : Nat} {Z : State} {a0 : Array Value} {Q : Option Value → Heap → List Loc → Prop} {kc ks : Nat}
/-- the run from A ends, returns, and leaves what Q says -/
def own_Fin (p : Program) (e : Env) (below : List Frame) (s : State) (Q : Option Value → Heap → List Loc → Prop) (kc ks : Nat) (A : State) : Prop :=
  ∃ s₂ o, Steps p.tables e below A s₂ ∧ s₂.status = .running ∧ Ended s₂ below o ∧ ∃ v L, o = .returned v ∧ Q v s₂.heap L ∧ FrameEnd s o s₂ L kc ks
theorem own_go {A A' : State} (h : ∀ t, Steps p.tables e below A' t → Steps p.tables e below A t) (k : own_Fin p e below s Q kc ks A') : own_Fin p e below s Q kc ks A := by
  obtain ⟨s₂, o, h1, r⟩ := k
  exact ⟨s₂, o, h _ h1, r⟩
theorem own_to {A A' : State} (h : Steps p.tables e below A A') (k : own_Fin p e below s Q kc ks A') : own_Fin p e below s Q kc ks A := own_go (fun _ q => h.trans q) k
theorem own_mono {A : State} {Q' : Option Value → Heap → List Loc → Prop} (k : own_Fin p e below s Q kc ks A) (q : ∀ v h L, Q v h L → Q' v h L) : own_Fin p e below s Q' kc ks A := by
  obtain ⟨s₂, o, h1, h2, h3, v, L, h4, h5, h6⟩ := k
  exact ⟨s₂, o, h1, h2, h3, v, L, h4, q _ _ _ h5, h6⟩
/-- what a body knows of itself -/
def own_Ctx (p : Program) (s : State) (m : MethodId) (meth : Method) (c : Code) (Z : State) (a0 : Array Value) (tb : List Cond) (y : MethodName) (bytes : ByteArray) (maxL : Nat) (ret : Option FieldType) : Prop :=
  p.tables.exec = Jvm.exec ∧ c.code = bytes ∧ c.maxLocals = maxL ∧ Z.Warmed39 s.vm ∧ s.vm.findClass y.cls = some m.cls ∧ meth.name = y.name ∧ meth.sig.returnType = ret ∧ meth.locks = false ∧ (∀ d ∈ tb, d.before a0 Z = true)
/-- a contract -/
def own_Met (l : Launch) (Z : State) (y : MethodName) (bytes : ByteArray) (maxL : Nat) (ret : Option FieldType) (ws : List Cond) (rm : Room) (as' : Array Value) (h0 : Heap) (Q : Option Value → Heap → List Loc → Prop) : Prop :=
  MetFree l y (head1 (Cond.code y bytes maxL ret :: ws) rm) (fun a U => a = as' ∧ Z.Warmed39 U.vm ∧ U.heap = h0) (fun _ _ _ _ _ => True) (fun _ U o U' => ∃ v L, o = .returned v ∧ Q v U'.heap L ∧ FrameEnd U o U' L rm.cells rm.slots)
theorem own_enter {y : MethodName} {bytes : ByteArray} {maxL : Nat} {ret : Option FieldType} {rm : Room} {as' : Array Value} {h0 : Heap} {ws tb : List Cond} {Ls : Array Slot} (hp : plainFor y = true) (hef : ∀ m, entryFrame m as' maxL = mkF m 0 Ls []) (hw : ∀ d ∈ tb, d.before a0 Z = true)
    (body : ∀ (p : Program) (e : Env) (s : State) (m : MethodId) (below : List Frame) (meth : Method) (c : Code) (T : State), Stand p l e rm s m as' below meth c T [] 0 0 → own_Ctx p s m meth c Z a0 tb y bytes maxL ret → T.heap = h0 → own_Fin p e below s Q rm.cells rm.slots (T.setTop (mkF m 0 Ls []))) :
    own_Met l Z y bytes maxL ret ws rm as' h0 Q := by
  refine MetFree.of_bodySF hp hisR ?_
  intro p e s m args below meth c s₁ Bd hml0 hP hK
  obtain ⟨rfl, hZ, hh⟩ := hP
  have e0 : s₁.heap = h0 := by rw [← hh, Bd.state]; rfl
  obtain ⟨s₂, o, h1, r⟩ := body p e s m below meth c s₁ (Stand.of_body Bd) ⟨Bd.exec, Bd.bytes, hml0, hZ, findClass_of_methodNamed Bd.named, (name_of_methodNamed Bd.named Bd.method).1, Bd.returns, Bd.notSynchronized, hw⟩ e0
  exact ⟨s₂, o, castTop (hef m) h1, r⟩
/-- a return of a value -/
theorem own_ret (X : Stand p l e R s m args below meth c T locs cells slots) (hlk : meth.locks = false) (hx : p.tables.exec = Jvm.exec) {pc : Nat} {Ls : Array Slot} {w : Value} {t : FieldType} {i : Instr} {rest : List Value} (hret : meth.sig.returnType = some t) (hn : narrow t w = w)
    (hi : (i = .ireturn ∧ (t = .int ∨ t = .boolean ∨ t = .byte ∨ t = .char ∨ t = .short) ∧ ∃ z, w = .int z) ∨ (i = .lreturn ∧ t = .long ∧ ∃ z, w = .long z) ∨ (i = .dreturn ∧ t = .double ∧ ∃ z, w = .double z) ∨ (i = .freturn ∧ t = .float ∧ ∃ z, w = .float z) ∨ (i = .areturn ∧ t.isReference = true ∧ w.isRef = true))
    (hd : decode c.code pc = .ok (i, 1)) (hq : Q (some w) T.heap locs) (hc : cells ≤ kc) (hs : slots ≤ ks) : own_Fin p e below s Q kc ks (T.setTop (mkF m pc Ls (w :: rest))) := by
  obtain ⟨fs, hr, hrun, hended, hW, hsame⟩ := X.leave (v := some w) (fun h => by rw [hret] at h; cases h) hlk
  exact ⟨_, _, retOut X hx hret hn hi hd hr, hrun, hended, _, _, rfl, hq, ⟨_, rfl⟩, hW, hsame.mono hc hs⟩
/-- a return of a boolean, byte, char, short that may be narrowed -/
theorem own_retN (X : Stand p l e R s m args below meth c T locs cells slots) (hlk : meth.locks = false) (hx : p.tables.exec = Jvm.exec) {pc : Nat} {Ls : Array Slot} {z : Int32} {t : FieldType} {rest : List Value} (hret : meth.sig.returnType = some t) (ht : t = .boolean ∨ t = .byte ∨ t = .char ∨ t = .short)
    (hd : decode c.code pc = .ok (.ireturn, 1)) (hq : Q (some (.int (nar t z))) T.heap locs) (hc : cells ≤ kc) (hs : slots ≤ ks) : own_Fin p e below s Q kc ks (T.setTop (mkF m pc Ls (.int z :: rest))) := by
  obtain ⟨fs, hr, hrun, hended, hW, hsame⟩ := X.leave (v := some (.int (nar t z))) (fun h => by rw [hret] at h; cases h) hlk
  exact ⟨_, _, retN X hx hret ht hd hr, hrun, hended, _, _, rfl, hq, ⟨_, rfl⟩, hW, hsame.mono hc hs⟩
/-- a return of nothing -/
theorem own_ret0 (X : Stand p l e R s m args below meth c T locs cells slots) (hlk : meth.locks = false) (hx : p.tables.exec = Jvm.exec) {pc : Nat} {Ls : Array Slot} (hret : meth.sig.returnType = none)
    (hd : decode c.code pc = .ok (.return_, 1)) (hq : Q none T.heap locs) (hc : cells ≤ kc) (hs : slots ≤ ks) : own_Fin p e below s Q kc ks (T.setTop (mkF m pc Ls [])) := by
  obtain ⟨fs, hr, hrun, hended, hW, hsame⟩ := X.leave (v := none) (fun _ => rfl) hlk
  exact ⟨_, _, X.returnOut hx hret hd hr, hrun, hended, _, _, rfl, hq, ⟨_, rfl⟩, hW, hsame.mono hc hs⟩
/-- calls by contract -/
theorem own_callS (X : Stand p l e R s m args below meth c T locs cells slots) (hx : p.tables.exec = Jvm.exec) (hZ : Z.Warmed39 s.vm) {h : Heap} (eT : T.heap = h) {own : String} {index : Nat} {y : MethodName} {bytes : ByteArray} {maxL : Nat} {ret : Option FieldType} (hown : s.vm.findClass own = some m.cls)
    (w1 : (Cond.methodLink own index y).before a0 Z = true) (w2 : (Cond.static y).before a0 Z = true) (w3 : (Cond.initialized y.cls).before a0 Z = true) (w4 : (Cond.code y bytes maxL ret).before a0 Z = true) (hy : y.cls ≠ "java/lang/invoke/MethodHandle" ∧ y.cls ≠ "java/lang/invoke/VarHandle")
    {rm : Room} {argsL rest : List Value} (hM : own_Met l Z y bytes maxL ret [] rm argsL.toArray h Q) (hf : rm.frames + 1 ≤ R.frames) (W : Nat) (hl : W + (maxL + 11) + rm.locals ≤ R.locals) (hcR : cells + rm.cells ≤ R.cells) (hsR : slots + rm.slots ≤ R.slots)
    {g : JFrame} (hg : g.method = m) (hsize : g.locals.size = c.maxLocals) (hlen : ∀ sig, parseMethodDescriptor y.desc = some sig → argsL.length = sig.parameters.length) (hstack : g.stack = argsL.reverse ++ rest) (hW : 2 * g.monitorRoom + (rest.map fun v => v.category).sum ≤ W) (hdg : decode c.code g.pc = .ok (.invokestatic index, 3)) :
    ∃ v T' L, Stand p l e R s m args below meth c T' (locs ++ L) (cells + rm.cells) (slots + rm.slots) ∧ Q v T'.heap L ∧ ∀ target, Steps p.tables e below (T'.setTop { g with pc := g.pc + 3, stack := v.toList ++ rest }) target → Steps p.tables e below (T.setTop g) target := by
  obtain ⟨v, _, ⟨T', L', k', n'⟩, -, X', ⟨L, hQ, l1, y1, z1⟩, st⟩ := Jvm.LawKit.callS X hx hown (mvT hZ w1) (mvT hZ w2) (mvT hZ w3) (mvT hZ w4) hy (backOf (W := W) hM hZ w4 w3 hf hl) hg hsize hlen hstack hW hdg (fun _ _ => ⟨rfl, eT, hcR, hsR⟩)
  dsimp only [Pt.U, Pt.locs, Pt.cells, Pt.slots] at X' l1 y1 z1 st hQ
  subst l1 y1 z1
  exact ⟨v, T', L, X', hQ, st⟩
/-- a result, and nothing else -/
def own_QP (r : Option Value) (h0 : Heap) (v : Option Value) (h : Heap) (L : List Loc) : Prop := v = r ∧ L = [] ∧ h = h0
theorem own_callP (X : Stand p l e R s m args below meth c T locs cells slots) (hx : p.tables.exec = Jvm.exec) (hZ : Z.Warmed39 s.vm) {h : Heap} (eT : T.heap = h) {own : String} {index : Nat} {y : MethodName} {bytes : ByteArray} {maxL : Nat} {ret : Option FieldType} (hown : s.vm.findClass own = some m.cls)
    (w1 : (Cond.methodLink own index y).before a0 Z = true) (w2 : (Cond.static y).before a0 Z = true) (w3 : (Cond.initialized y.cls).before a0 Z = true) (w4 : (Cond.code y bytes maxL ret).before a0 Z = true) (hy : y.cls ≠ "java/lang/invoke/MethodHandle" ∧ y.cls ≠ "java/lang/invoke/VarHandle")
    {fr lo : Nat} {r : Option Value} {argsL rest : List Value} (hM : own_Met l Z y bytes maxL ret [] { frames := fr, cells := 0, slots := 0, locals := lo } argsL.toArray h (own_QP r h)) (hf : fr + 1 ≤ R.frames) (W : Nat) (hl : W + (maxL + 11) + lo ≤ R.locals) (hcR : cells ≤ R.cells) (hsR : slots ≤ R.slots)
    {g : JFrame} (hg : g.method = m) (hsize : g.locals.size = c.maxLocals) (hlen : ∀ sig, parseMethodDescriptor y.desc = some sig → argsL.length = sig.parameters.length) (hstack : g.stack = argsL.reverse ++ rest) (hW : 2 * g.monitorRoom + (rest.map fun v => v.category).sum ≤ W) (hdg : decode c.code g.pc = .ok (.invokestatic index, 3)) :
    ∃ T', Stand p l e R s m args below meth c T' locs cells slots ∧ T'.heap = h ∧ ∀ target, Steps p.tables e below (T'.setTop { g with pc := g.pc + 3, stack := r.toList ++ rest }) target → Steps p.tables e below (T.setTop g) target := by
  obtain ⟨v, T', L, X', ⟨rfl, rfl, e1⟩, st⟩ := own_callS X hx hZ eT hown w1 w2 w3 w4 hy hM hf W hl hcR hsR hg hsize hlen hstack hW hdg
  rw [List.append_nil] at X'
  exact ⟨T', X', e1, st⟩
theorem own_callI (X : Stand p l e R s m args below meth c T locs cells slots) (hx : p.tables.exec = Jvm.exec) (hZ : Z.Warmed39 s.vm) {h : Heap} (eT : T.heap = h) {own : String} {index : Nat} {y : MethodName} {bytes : ByteArray} {maxL : Nat} (hy1 : y.name = "<init>") (hown : s.vm.findClass own = some m.cls)
    (w1 : (Cond.methodLink own index y).before a0 Z = true) (w2 : (Cond.instanceMethod y).before a0 Z = true) (w3 : (Cond.initialized y.cls).before a0 Z = true) (w4 : (Cond.code y bytes maxL none).before a0 Z = true) (hy : y.cls ≠ "java/lang/invoke/MethodHandle" ∧ y.cls ≠ "java/lang/invoke/VarHandle")
    {rm : Room} {a : Addr} {argsL rest : List Value} (hM : own_Met l Z y bytes maxL none [] rm (.ref a :: argsL).toArray h Q) (hf : rm.frames + 1 ≤ R.frames) (W : Nat) (hl : W + (maxL + 11) + rm.locals ≤ R.locals) (hcR : cells + rm.cells ≤ R.cells) (hsR : slots + rm.slots ≤ R.slots)
    {g : JFrame} (hg : g.method = m) (hsize : g.locals.size = c.maxLocals) (hlen : ∀ sig, parseMethodDescriptor y.desc = some sig → argsL.length = sig.parameters.length) (hstack : g.stack = argsL.reverse ++ .ref a :: rest) (hW : 2 * g.monitorRoom + (rest.map fun v => v.category).sum ≤ W) (hdg : decode c.code g.pc = .ok (.invokespecial index, 3)) :
    ∃ v T' L, Stand p l e R s m args below meth c T' (locs ++ L) (cells + rm.cells) (slots + rm.slots) ∧ Q v T'.heap L ∧ ∀ target, Steps p.tables e below (T'.setTop { g with pc := g.pc + 3, stack := v.toList ++ rest }) target → Steps p.tables e below (T.setTop g) target := by
  obtain ⟨v, _, ⟨T', L', k', n'⟩, -, X', ⟨L, hQ, l1, y1, z1⟩, st⟩ := X.specialBack hx hy1 hown (mvT hZ w1) (mvT hZ w2) (mvT hZ w4) hy (backOf (W := W) hM hZ w4 w3 hf hl) hg hsize (Steps.refl _) hlen hstack hW hdg (fun _ _ => ⟨rfl, eT, hcR, hsR⟩)
  dsimp only [Pt.U, Pt.locs, Pt.cells, Pt.slots] at X' l1 y1 z1 st hQ
  subst l1 y1 z1
  exact ⟨v, T', L, X', hQ, fun _ q => st.trans q⟩
theorem own_callIP (X : Stand p l e R s m args below meth c T locs cells slots) (hx : p.tables.exec = Jvm.exec) (hZ : Z.Warmed39 s.vm) {h : Heap} (eT : T.heap = h) {own : String} {index : Nat} {y : MethodName} {bytes : ByteArray} {maxL : Nat} (hy1 : y.name = "<init>") (hown : s.vm.findClass own = some m.cls)
    (w1 : (Cond.methodLink own index y).before a0 Z = true) (w2 : (Cond.instanceMethod y).before a0 Z = true) (w3 : (Cond.initialized y.cls).before a0 Z = true) (w4 : (Cond.code y bytes maxL none).before a0 Z = true) (hy : y.cls ≠ "java/lang/invoke/MethodHandle" ∧ y.cls ≠ "java/lang/invoke/VarHandle")
    {fr lo : Nat} {a : Addr} {argsL rest : List Value} (hM : own_Met l Z y bytes maxL none [] { frames := fr, cells := 0, slots := 0, locals := lo } (.ref a :: argsL).toArray h (own_QP none h)) (hf : fr + 1 ≤ R.frames) (W : Nat) (hl : W + (maxL + 11) + lo ≤ R.locals) (hcR : cells ≤ R.cells) (hsR : slots ≤ R.slots)
    {g : JFrame} (hg : g.method = m) (hsize : g.locals.size = c.maxLocals) (hlen : ∀ sig, parseMethodDescriptor y.desc = some sig → argsL.length = sig.parameters.length) (hstack : g.stack = argsL.reverse ++ .ref a :: rest) (hW : 2 * g.monitorRoom + (rest.map fun v => v.category).sum ≤ W) (hdg : decode c.code g.pc = .ok (.invokespecial index, 3)) :
    ∃ T', Stand p l e R s m args below meth c T' locs cells slots ∧ T'.heap = h ∧ ∀ target, Steps p.tables e below (T'.setTop { g with pc := g.pc + 3, stack := rest }) target → Steps p.tables e below (T.setTop g) target := by
  obtain ⟨v, T', L, X', ⟨rfl, rfl, e1⟩, st⟩ := own_callI X hx hZ eT hy1 hown w1 w2 w3 w4 hy hM hf W hl hcR hsR hg hsize hlen hstack hW hdg
  rw [List.append_nil] at X'
  exact ⟨T', X', e1, st⟩
theorem own_callV (X : Stand p l e R s m args below meth c T locs cells slots) (hx : p.tables.exec = Jvm.exec) (hZ : Z.Warmed39 s.vm) {h : Heap} (eT : T.heap = h) {own C : String} {index : Nat} {y : MethodName} {bytes : ByteArray} {maxL : Nat} {ret : Option FieldType} (hown : s.vm.findClass own = some m.cls)
    (w1 : (Cond.methodLink own index y).before a0 Z = true) (wd : (Cond.declares y).before a0 Z = true) (ws : (Cond.selects C y y).before a0 Z = true) (w2 : (Cond.instanceMethod y).before a0 Z = true) (w3 : (Cond.initialized y.cls).before a0 Z = true) (w4 : (Cond.code y bytes maxL ret).before a0 Z = true) (hy : y.cls ≠ "java/lang/invoke/MethodHandle" ∧ y.cls ≠ "java/lang/invoke/VarHandle")
    {rm : Room} {a : Addr} (hE : Exa Z h a C) {argsL rest : List Value} (hM : own_Met l Z y bytes maxL ret [] rm (.ref a :: argsL).toArray h Q) (hf : rm.frames + 1 ≤ R.frames) (W : Nat) (hl : W + (maxL + 11) + rm.locals ≤ R.locals) (hcR : cells + rm.cells ≤ R.cells) (hsR : slots + rm.slots ≤ R.slots)
    {g : JFrame} (hg : g.method = m) (hsize : g.locals.size = c.maxLocals) (hlen : ∀ sig, parseMethodDescriptor y.desc = some sig → argsL.length = sig.parameters.length) (hstack : g.stack = argsL.reverse ++ .ref a :: rest) (hW : 2 * g.monitorRoom + (rest.map fun v => v.category).sum ≤ W) (hdg : decode c.code g.pc = .ok (.invokevirtual index, 3)) :
    ∃ v T' L, Stand p l e R s m args below meth c T' (locs ++ L) (cells + rm.cells) (slots + rm.slots) ∧ Q v T'.heap L ∧ ∀ target, Steps p.tables e below (T'.setTop { g with pc := g.pc + 3, stack := v.toList ++ rest }) target → Steps p.tables e below (T.setTop g) target := by
  obtain ⟨cq, kq, qa, qb, qc⟩ := isOf hZ eT hE
  obtain ⟨v, _, ⟨T', L', k', n'⟩, -, X', ⟨L, hQ, l1, y1, z1⟩, st⟩ := X.virtualBack hx hown (mvT hZ w1) (mvT hZ wd) (notFace_of_selects (args := #[]) (mvT hZ ws)) (mvT hZ ws) (mvT hZ w2) hy (backOf (W := W) hM hZ w4 w3 hf hl) qa qc hg hsize (Steps.refl _) hlen hstack hW hdg (fun _ _ => ⟨rfl, eT, hcR, hsR⟩)
  dsimp only [Pt.U, Pt.locs, Pt.cells, Pt.slots] at X' l1 y1 z1 st hQ
  subst l1 y1 z1
  exact ⟨v, T', L, X', hQ, fun _ q => st.trans q⟩
/-- a virtual call that only reads -/
theorem own_callVP (X : Stand p l e R s m args below meth c T locs cells slots) (hx : p.tables.exec = Jvm.exec) (hZ : Z.Warmed39 s.vm) {h : Heap} (eT : T.heap = h) {own C : String} {index : Nat} {y : MethodName} {bytes : ByteArray} {maxL : Nat} {ret : Option FieldType} (hown : s.vm.findClass own = some m.cls)
    (w1 : (Cond.methodLink own index y).before a0 Z = true) (wd : (Cond.declares y).before a0 Z = true) (ws : (Cond.selects C y y).before a0 Z = true) (w2 : (Cond.instanceMethod y).before a0 Z = true) (w3 : (Cond.initialized y.cls).before a0 Z = true) (w4 : (Cond.code y bytes maxL ret).before a0 Z = true) (hy : y.cls ≠ "java/lang/invoke/MethodHandle" ∧ y.cls ≠ "java/lang/invoke/VarHandle")
    {fr lo : Nat} {r : Option Value} {a : Addr} (hE : Exa Z h a C) {argsL rest : List Value} (hM : own_Met l Z y bytes maxL ret [] { frames := fr, cells := 0, slots := 0, locals := lo } (.ref a :: argsL).toArray h (own_QP r h)) (hf : fr + 1 ≤ R.frames) (W : Nat) (hl : W + (maxL + 11) + lo ≤ R.locals) (hcR : cells ≤ R.cells) (hsR : slots ≤ R.slots)
    {g : JFrame} (hg : g.method = m) (hsize : g.locals.size = c.maxLocals) (hlen : ∀ sig, parseMethodDescriptor y.desc = some sig → argsL.length = sig.parameters.length) (hstack : g.stack = argsL.reverse ++ .ref a :: rest) (hW : 2 * g.monitorRoom + (rest.map fun v => v.category).sum ≤ W) (hdg : decode c.code g.pc = .ok (.invokevirtual index, 3)) :
    ∃ T', Stand p l e R s m args below meth c T' locs cells slots ∧ T'.heap = h ∧ ∀ target, Steps p.tables e below (T'.setTop { g with pc := g.pc + 3, stack := r.toList ++ rest }) target → Steps p.tables e below (T.setTop g) target := by
  obtain ⟨v, T', L, X', ⟨rfl, rfl, e1⟩, st⟩ := own_callV X hx hZ eT hown w1 wd ws w2 w3 w4 hy hE hM hf W hl hcR hsR hg hsize hlen hstack hW hdg
  rw [List.append_nil] at X'
  exact ⟨T', X', e1, st⟩
/-- an array of ints or bytes, its elements by a function -/
def own_A (Z : State) (h : Heap) (a : Addr) (ty : FieldType) (z : Int32) (f : Int32 → Int32) : Prop :=
  ∃ cl : Cell, Arr Z h a cl ty ∧ cl.slots.size = z.toNatClampNeg ∧ ¬ z < 0 ∧ ∀ j : Int32, ¬ j < 0 → j < z → cl.slots[j.toNatClampNeg]? = some (.int (f j))
section A
variable {h h' : Heap} {a b : Addr} {ty : FieldType} {z : Int32} {f : Int32 → Int32} {ws : List Addr} {sl : Nat} {v : Value}
theorem own_A.lt (F : own_A Z h a ty z f) : a < h.size := by obtain ⟨cl, A, -⟩ := F; exact A.lt
theorem own_A.ext (F : own_A Z h a ty z f) (E : Ext h h') : own_A Z h' a ty z f := by obtain ⟨cl, A, r⟩ := F; exact ⟨cl, A.ext E, r⟩
theorem own_A.other (F : own_A Z h a ty z f) (W : Wr h h' b sl v) (q : a ≠ b) : own_A Z h' a ty z f := by obtain ⟨cl, A, r⟩ := F; exact ⟨cl, A.other W q, r⟩
theorem own_A.keep (F : own_A Z h a ty z f) (K : Keep h h' ws) (q : a ∉ ws) : own_A Z h' a ty z f := by obtain ⟨cl, A, r⟩ := F; exact ⟨cl, ⟨K.2.1 a cl A.1 q, A.2⟩, r⟩
theorem own_A.cong (F : own_A Z h a ty z f) {f' : Int32 → Int32} (q : ∀ j : Int32, ¬ j < 0 → j < z → f j = f' j) : own_A Z h a ty z f' := by
  obtain ⟨cl, A, S, n, H⟩ := F
  exact ⟨cl, A, S, n, fun j h1 h2 => by rw [← q j h1 h2]; exact H j h1 h2⟩
theorem own_A.set (F : own_A Z h a ty z f) {j w : Int32} (h0 : ¬ j < 0) (hj : j < z) (W : Wr h h' a j.toNatClampNeg (.int w)) : own_A Z h' a ty z (fun i => if i = j then w else f i) := by
  obtain ⟨cl, A, S, n, H⟩ := F
  refine ⟨_, A.same W, by rw [sz_set]; exact S, n, fun i h1 h2 => ?_⟩
  by_cases q : i = j
  · rw [get_hit (inb_of S ⟨h0, hj⟩) q]; show _ = some (Value.int (if i = j then w else f i)); rw [if_pos q]
  · rw [get_miss h0 h1 q, H i h1 h2]; show _ = some (Value.int (if i = j then w else f i)); rw [if_neg q]
theorem own_A.new {k : ClassId} (A : Arr Z h a (newA k ty z) ty) (q : ¬ z < 0) (d : defaultValue ty = .int 0) : own_A Z h a ty z (fun _ => 0) :=
  ⟨_, A, sz_new _ _ _, q, fun j h1 h2 => by rw [get_new (by have := inb_of (sz_new k ty z) ⟨h1, h2⟩; rw [sz_new] at this; exact this), d]⟩
theorem own_A.nn (F : own_A Z h a ty z f) : ¬ z < 0 := by obtain ⟨cl, A, S, n, H⟩ := F; exact n
end A
theorem own_newI (X : Stand p l e R s m args below meth c T locs cells slots) (hx : p.tables.exec = Jvm.exec) (hZ : Z.Warmed39 s.vm) {h : Heap} (eT : T.heap = h) (w : (Cond.arrayClass .int).before a0 Z = true) {g : JFrame} (hg : g.method = m) (hd : decode c.code g.pc = .ok (.newarray .int, 2)) {n : Int32} {rest : List Value} (hs : g.stack = .int n :: rest)
    (hn : ¬ n < 0) (cap : Nat) (hcap : n.toNatClampNeg ≤ cap) (hb : cap * 8 ≤ 536870912) (hc : cells + 1 ≤ R.cells) (hl : slots + cap ≤ R.slots) :
    ∃ T' a, Stand p l e R s m args below meth c T' locs (cells + 1) (slots + cap) ∧ Ext h T'.heap ∧ a = h.size ∧ own_A Z T'.heap a .int n (fun _ => 0) ∧ ∀ target, Steps p.tables e below (T'.setTop { g with pc := g.pc + 2, stack := .ref a :: rest }) target → Steps p.tables e below (T.setTop g) target := by
  obtain ⟨T', h', cA, X', e1, E, A, st⟩ := newP (aty := .int) X hx hZ w eT hg hd hs hn hcap hb hc hl
  subst e1
  exact ⟨T', _, X', E, rfl, own_A.new A hn rfl, st⟩
theorem own_newB (X : Stand p l e R s m args below meth c T locs cells slots) (hx : p.tables.exec = Jvm.exec) (hZ : Z.Warmed39 s.vm) {h : Heap} (eT : T.heap = h) (w : (Cond.arrayClass .byte).before a0 Z = true) {g : JFrame} (hg : g.method = m) (hd : decode c.code g.pc = .ok (.newarray .byte, 2)) {n : Int32} {rest : List Value} (hs : g.stack = .int n :: rest)
    (hn : ¬ n < 0) (cap : Nat) (hcap : n.toNatClampNeg ≤ cap) (hb : cap * 8 ≤ 536870912) (hc : cells + 1 ≤ R.cells) (hl : slots + cap ≤ R.slots) :
    ∃ T' a, Stand p l e R s m args below meth c T' locs (cells + 1) (slots + cap) ∧ Ext h T'.heap ∧ a = h.size ∧ own_A Z T'.heap a .byte n (fun _ => 0) ∧ ∀ target, Steps p.tables e below (T'.setTop { g with pc := g.pc + 2, stack := .ref a :: rest }) target → Steps p.tables e below (T.setTop g) target := by
  obtain ⟨T', h', cA, X', e1, E, A, st⟩ := newP (aty := .byte) X hx hZ w eT hg hd hs hn hcap hb hc hl
  subst e1
  exact ⟨T', _, X', E, rfl, own_A.new A hn rfl, st⟩
theorem own_stI (X : Stand p l e R s m args below meth c T locs cells slots) (hx : p.tables.exec = Jvm.exec) (hZ : Z.Warmed39 s.vm) {h : Heap} (eT : T.heap = h) {a : Addr} {z : Int32} {f : Int32 → Int32} (F : own_A Z h a .int z f) {j x : Int32} (h0 : ¬ j < 0) (hj : j < z) {g : JFrame} (hg : g.method = m) {rest : List Value} (hs : g.stack = .int x :: .int j :: .ref a :: rest) (hd : decode c.code g.pc = .ok (.iastore, 1)) :
    ∃ T', Stand p l e R s m args below meth c T' (locs ++ [⟨a, j.toNatClampNeg⟩]) cells slots ∧ Wr h T'.heap a j.toNatClampNeg (.int x) ∧ own_A Z T'.heap a .int z (fun i => if i = j then x else f i) ∧ ∀ target, Steps p.tables e below (T'.setTop { g with pc := g.pc + 1, stack := rest }) target → Steps p.tables e below (T.setTop g) target := by
  obtain ⟨cl, A, S, n, H⟩ := id F
  obtain ⟨T', h', X', e1, W, st⟩ := stI X hx hZ eT A (inb_of S ⟨h0, hj⟩) hg hs hd
  subst e1
  exact ⟨T', X', W, F.set h0 hj W, st⟩
theorem own_stB (X : Stand p l e R s m args below meth c T locs cells slots) (hx : p.tables.exec = Jvm.exec) (hZ : Z.Warmed39 s.vm) {h : Heap} (eT : T.heap = h) {a : Addr} {z : Int32} {f : Int32 → Int32} (F : own_A Z h a .byte z f) {j x : Int32} (h0 : ¬ j < 0) (hj : j < z) {g : JFrame} (hg : g.method = m) {rest : List Value} (hs : g.stack = .int x :: .int j :: .ref a :: rest) (hd : decode c.code g.pc = .ok (.bastore, 1)) :
    ∃ T', Stand p l e R s m args below meth c T' (locs ++ [⟨a, j.toNatClampNeg⟩]) cells slots ∧ Wr h T'.heap a j.toNatClampNeg (.int x.toInt8.toInt32) ∧ own_A Z T'.heap a .byte z (fun i => if i = j then x.toInt8.toInt32 else f i) ∧ ∀ target, Steps p.tables e below (T'.setTop { g with pc := g.pc + 1, stack := rest }) target → Steps p.tables e below (T.setTop g) target := by
  obtain ⟨cl, A, S, n, H⟩ := id F
  obtain ⟨T', h', X', e1, W, st⟩ := stB X hx hZ eT A (inb_of S ⟨h0, hj⟩) hg hs hd
  subst e1
  exact ⟨T', X', W, F.set h0 hj W, st⟩
theorem own_ldI (X : Stand p l e R s m args below meth c T locs cells slots) (hx : p.tables.exec = Jvm.exec) (hZ : Z.Warmed39 s.vm) {h : Heap} (eT : T.heap = h) {a : Addr} {z : Int32} {f : Int32 → Int32} (F : own_A Z h a .int z f) {j : Int32} (h0 : ¬ j < 0) (hj : j < z) {g : JFrame} (hg : g.method = m) {rest : List Value} (hs : g.stack = .int j :: .ref a :: rest) (hd : decode c.code g.pc = .ok (.iaload, 1)) :
    ∀ target, Steps p.tables e below (T.setTop { g with pc := g.pc + 1, stack := .int (f j) :: rest }) target → Steps p.tables e below (T.setTop g) target := by
  obtain ⟨cl, A, S, n, H⟩ := id F
  exact fun target q => X.iaload hx (by rw [eT]; exact A.1) (State.isArrayOf_alike hZ.alike A.2.1) A.2.2 (inb_of S ⟨h0, hj⟩) (H j h0 hj) hg hs hd target q
theorem own_ldB (X : Stand p l e R s m args below meth c T locs cells slots) (hx : p.tables.exec = Jvm.exec) (hZ : Z.Warmed39 s.vm) {h : Heap} (eT : T.heap = h) {a : Addr} {z : Int32} {f : Int32 → Int32} (F : own_A Z h a .byte z f) {j : Int32} (h0 : ¬ j < 0) (hj : j < z) {g : JFrame} (hg : g.method = m) {rest : List Value} (hs : g.stack = .int j :: .ref a :: rest) (hd : decode c.code g.pc = .ok (.baload, 1)) :
    ∀ target, Steps p.tables e below (T.setTop { g with pc := g.pc + 1, stack := .int (f j) :: rest }) target → Steps p.tables e below (T.setTop g) target := by
  obtain ⟨cl, A, S, n, H⟩ := id F
  exact fun target q => X.baloadBytes hx (by rw [eT]; exact A.1) (State.isArrayOf_alike hZ.alike A.2.1) A.2.2 (inb_of S ⟨h0, hj⟩) (H j h0 hj) hg hs hd target q
theorem own_len (X : Stand p l e R s m args below meth c T locs cells slots) (hx : p.tables.exec = Jvm.exec) (hZ : Z.Warmed39 s.vm) {h : Heap} (eT : T.heap = h) {a : Addr} {ty : FieldType} {z : Int32} {f : Int32 → Int32} (F : own_A Z h a ty z f) {g : JFrame} (hg : g.method = m) {rest : List Value} (hs : g.stack = .ref a :: rest) (hd : decode c.code g.pc = .ok (.arraylength, 1)) :
    ∀ target, Steps p.tables e below (T.setTop { g with pc := g.pc + 1, stack := .int z :: rest }) target → Steps p.tables e below (T.setTop g) target := by
  obtain ⟨cl, A, S, n, H⟩ := id F
  exact fun target q => X.arraylength hx (by rw [eT]; exact A.1) (State.isArrayOf_alike hZ.alike A.2.1) hg hs hd target (by rw [len_of S n]; exact q)
/-- fields -/
theorem own_getF (X : Stand p l e R s m args below meth c T locs cells slots) (hx : p.tables.exec = Jvm.exec) (hZ : Z.Warmed39 s.vm) {h : Heap} (eT : T.heap = h) {own O n d : String} {index : Nat} (hown : s.vm.findClass own = some m.cls) (w : (Cond.fieldLink own index O n d).before a0 Z = true)
    {a : Addr} {v : Value} (F : Fld Z h a O n d v) {g : JFrame} (hg : g.method = m) {rest : List Value} (hs : g.stack = .ref a :: rest) (hd : decode c.code g.pc = .ok (.getfield index, 3)) :
    ∃ T', Stand p l e R s m args below meth c T' locs cells slots ∧ T'.heap = h ∧ ∀ target, Steps p.tables e below (T'.setTop { g with pc := g.pc + 3, stack := v :: rest }) target → Steps p.tables e below (T.setTop g) target :=
  getF X hx hZ hown (host := "") (Or.inl w) Via.refl eT F hg hs hd
theorem own_putF (X : Stand p l e R s m args below meth c T locs cells slots) (hx : p.tables.exec = Jvm.exec) (hZ : Z.Warmed39 s.vm) {h : Heap} (eT : T.heap = h) {own O n d C : String} {index kk : Nat} {ty : FieldType} (hown : s.vm.findClass own = some m.cls) (w : (Cond.fieldLink own index O n d).before a0 Z = true)
    {a : Addr} {v old : Value} (F : Fld Z h a O n d old) (E : Exa Z h a C) (L : (Cond.lays C O n d).before a0 Z = true ∨ ((Cond.laysFinal C O n d).before a0 Z = true ∧ own = O ∧ meth.name = "<init>")) (wi : (Cond.instantiable C kk).before a0 Z = true)
    (hty : parseFieldDescriptor d = some ty) (hn : narrow ty v = v) (hf : fits ty v = true) {g : JFrame} (hg : g.method = m) {rest : List Value} (hs : g.stack = v :: .ref a :: rest) (hd : decode c.code g.pc = .ok (.putfield index, 3)) :
    ∃ T', Stand p l e R s m args below meth c T' (locs ++ [⟨a, slotOf Z O n d⟩]) cells slots ∧ Wr h T'.heap a (slotOf Z O n d) v ∧ ∀ target, Steps p.tables e below (T'.setTop { g with pc := g.pc + 3, stack := rest }) target → Steps p.tables e below (T.setTop g) target := by
  obtain ⟨T', h', X', e1, W, st⟩ := putF X hx hZ hown (host := "") (Or.inl w) Via.refl eT F E L wi hty hn hf hg hs hd
  subst e1
  exact ⟨T', X', W, st⟩
/-- comparisons with literals, through Int -/
theorem own_lt {x k : Int32} (K : Int) (hk : k.toInt = K) (h : x.toInt < K) : x < k := by rw [Int32.lt_iff_toInt_lt, hk]; exact h
theorem own_nlt {x k : Int32} (K : Int) (hk : k.toInt = K) (h : K ≤ x.toInt) : ¬ x < k := by rw [Int32.lt_iff_toInt_lt, hk]; omega
theorem own_gt {x k : Int32} (K : Int) (hk : k.toInt = K) (h : K < x.toInt) : k < x := by rw [Int32.lt_iff_toInt_lt, hk]; exact h
theorem own_ngt {x k : Int32} (K : Int) (hk : k.toInt = K) (h : x.toInt ≤ K) : ¬ k < x := by rw [Int32.lt_iff_toInt_lt, hk]; omega
theorem own_ieq {x k : Int32} (K : Int) (hk : k.toInt = K) (h : x.toInt = K) : x = k := Int32.toInt_inj.mp (by rw [hk]; exact h)
theorem own_ineq {x k : Int32} (K : Int) (hk : k.toInt = K) (h : x.toInt < K ∨ K < x.toInt) : ¬ x = k := fun q => by subst q; omega
end OwnKit
end Jvm.RoadKit
namespace Jvm.RoadKit
open Sem ClassFile Op Lib Jvm.Stand Jvm.Free Jvm.LawKit
theorem own_mask31 (b : Int32) : 0 ≤ (b &&& 2147483647).toInt := by
  have h := c_mask b 2147483647 31 (by decide) (by decide)
  rw [h]; exact Int.emod_nonneg _ (by decide)
theorem own_modpos (b k : Int32) (K : Int) (hk : k.toInt = K) (h0 : 0 < K) : 0 ≤ ((b &&& 2147483647) % k).toInt ∧ ((b &&& 2147483647) % k).toInt < K := by
  rw [(c_irem (b &&& 2147483647) k K hk).1 (own_mask31 b)]
  exact ⟨Int.emod_nonneg _ (by omega), Int.emod_lt_of_pos _ h0⟩
theorem own_maskpos (b m : Int32) (k : Nat) (hk : k ≤ 31) (hm : m.toBitVec.toNat = 2 ^ k - 1) (K : Int) (hK : K = ((2 ^ k : Nat) : Int)) (h0 : 0 < K) : 0 ≤ (b &&& m).toInt ∧ (b &&& m).toInt < K := by
  rw [c_mask b m k hk hm, ← hK]
  exact ⟨Int.emod_nonneg _ (by omega), Int.emod_lt_of_pos _ h0⟩
end Jvm.RoadKit
namespace Jvm.RoadKit
open Sem ClassFile Op Lib Jvm.Stand Jvm.Free Jvm.LawKit
theorem own_clamp (n : Int32) (k : Nat) (h : n.toInt ≤ k) : n.toNatClampNeg ≤ k := by
  show n.toInt.toNat ≤ k
  omega
theorem own_bb (x : Int32) : x.toInt8.toInt32.toInt8.toInt32 = x.toInt8.toInt32 := by rw [Int8.toInt8_toInt32]
theorem own_ltT {x y : Int32} (h : x < y) : x.toInt < y.toInt := Int32.lt_iff_toInt_lt.mp h
theorem own_nltT {x y : Int32} (h : ¬ x < y) : y.toInt ≤ x.toInt := by rw [Int32.lt_iff_toInt_lt] at h; omega
theorem own_Tlt {x y : Int32} (h : x.toInt < y.toInt) : x < y := Int32.lt_iff_toInt_lt.mpr h
theorem own_Tnlt {x y : Int32} (h : y.toInt ≤ x.toInt) : ¬ x < y := by rw [Int32.lt_iff_toInt_lt]; omega
theorem own_neT {x y : Int32} (h : ¬ x = y) : ¬ x.toInt = y.toInt := fun q => h (Int32.toInt_inj.mp q)
end Jvm.RoadKit
namespace Jvm.Pilot.@@N@@
open Jvm Jvm.ClassFile Sem Op Lib Jvm.Free Jvm.Stand Jvm.LawKit Jvm.RoadKit Bundle Jvm.Pilot.@@N@@.Jvm.D
theorem own_d2_0 : decode jdk_30_method_1_code 0 = .ok (.aload_n 0, 1) := by decide +kernel
theorem own_d2_1 : decode jdk_30_method_1_code 1 = .ok (.invokespecial 1, 3) := by decide +kernel
theorem own_d2_4 : decode jdk_30_method_1_code 4 = .ok (.return_, 1) := by decide +kernel
theorem own_pd0 : parseMethodDescriptor "()V" = some ⟨[], none⟩ := by decide +kernel
theorem own_ef2 (x0 : Addr) : ∀ m, entryFrame m #[(.ref x0)] 1 = mkF m 0 #[.val (.ref x0)] [] := fun m => by first | (simp [entryFrame, mkF, argsToLocals, Value.category]; done) | rfl
set_option maxRecDepth 65536 in
set_option maxHeartbeats 40000000 in
theorem own_rec_w {l : Launch} {p : Program} {e : Env} {below : List Frame} {s : State} {m : MethodId} {meth : Method} {c : Code} {Z : State} {a0 args : Array Value} {T : State} {h0 : Heap} (X : Stand p l e ({ frames := 1, cells := 0, slots := 0, locals := 12 } : Room) s m args below meth c T [] 0 0) (C : own_Ctx p s m meth c Z a0 tables_1 (⟨"java/lang/Record", "<init>", "()V"⟩ : MethodName) jdk_30_method_1_code 1 none) (hh : T.heap = h0) (x0 : Addr)  (n0 : Nat) (Z0 : n0 ≤ h0.size)  :
    own_Fin p e below s (own_QP none h0) 0 0 (T.setTop (mkF m 0 #[.val (.ref x0)] [])) := by
  obtain ⟨hx, hby, hml, hZ, hown, hnm, hret, hlk, hw⟩ := id C
  show own_Fin p e below s (own_QP none h0) 0 0 (T.setTop (mkF m 0 #[.val (.ref x0)] []))
  refine own_go (fun t => XS.aloadN X.here hx rfl (hb hby own_d2_0) rfl rfl) ?_
  show own_Fin p e below s (own_QP none h0) 0 0 (T.setTop (mkF m 1 #[.val (.ref x0)] [(.ref x0)]))
  obtain ⟨T1, X1, e1, st1⟩ := initO X hx hZ hown (hw _ (List.mem_of_getElem? (i := 12) rfl)) (hw _ (List.mem_of_getElem? (i := 13) rfl)) (hw _ (List.mem_of_getElem? (i := 14) rfl)) hh (g := (mkF m 1 #[.val (.ref x0)] [(.ref x0)])) rfl (by rw [hml]; rfl) rfl (hb hby own_d2_1) (by decide) (W := 0) (by show 2 * 0 + _ ≤ _; exact Nat.le_of_eq rfl) (by decide)
  refine own_go st1 ?_
  show own_Fin p e below s (own_QP none h0) 0 0 (T1.setTop (mkF m 4 #[.val (.ref x0)] []))
  exact own_ret0 X1 hlk hx hret (hb hby own_d2_4) ⟨rfl, rfl, e1⟩ (by decide) (by decide)
theorem own_pn0 : plainName "java/lang/Record" = true := by first | (simp [plainName, overriddenIn]; done) | decide +kernel
theorem own_rec (l : Launch) (Z : State) (a0 : Array Value) (hw : ∀ d ∈ tables_1, d.before a0 Z = true) (x0 : Addr)  (h0 : Heap) (n0 : Nat) (Z0 : n0 ≤ h0.size)  : own_Met l Z (⟨"java/lang/Record", "<init>", "()V"⟩ : MethodName) jdk_30_method_1_code 1 none [] ({ frames := 1, cells := 0, slots := 0, locals := 12 } : Room) #[(.ref x0)] h0 (own_QP none h0) :=
  own_enter (plainFor_of_name own_pn0) (own_ef2 x0) hw (fun p e s m below meth c T X C hh => own_rec_w X C hh x0  n0 Z0 )
def own_QI (Z : State) (a : Addr) (x1 x2 x3 : Int32) (h0 : Heap) (n0 : Nat) (v : Option Value) (h : Heap) (L : List Loc) : Prop := v = none ∧ Fr n0 L ∧ Keep h0 h [a] ∧ Exa Z h a "com/example/fondmark/fondmark/core/PartialDate" ∧ Fld Z h a "com/example/fondmark/fondmark/core/PartialDate" "year" "I" (.int x1) ∧ Fld Z h a "com/example/fondmark/fondmark/core/PartialDate" "month" "I" (.int x2) ∧ Fld Z h a "com/example/fondmark/fondmark/core/PartialDate" "day" "I" (.int x3)
theorem own_d1_0 : decode prog_27_method_1_code 0 = .ok (.aload_n 0, 1) := by decide +kernel
theorem own_d1_1 : decode prog_27_method_1_code 1 = .ok (.invokespecial 1, 3) := by decide +kernel
theorem own_d1_4 : decode prog_27_method_1_code 4 = .ok (.iload_n 1, 1) := by decide +kernel
theorem own_d1_5 : decode prog_27_method_1_code 5 = .ok (.iconst 1, 1) := by decide +kernel
theorem own_d1_6 : decode prog_27_method_1_code 6 = .ok (.if_icmp .lt 38, 3) := by decide +kernel
theorem own_d1_9 : decode prog_27_method_1_code 9 = .ok (.iload_n 1, 1) := by decide +kernel
theorem own_d1_10 : decode prog_27_method_1_code 10 = .ok (.sipush 9999, 3) := by decide +kernel
theorem own_d1_13 : decode prog_27_method_1_code 13 = .ok (.if_icmp .gt 31, 3) := by decide +kernel
theorem own_d1_16 : decode prog_27_method_1_code 16 = .ok (.iload_n 2, 1) := by decide +kernel
theorem own_d1_17 : decode prog_27_method_1_code 17 = .ok (.ifCond .lt 27, 3) := by decide +kernel
theorem own_d1_20 : decode prog_27_method_1_code 20 = .ok (.iload_n 2, 1) := by decide +kernel
theorem own_d1_21 : decode prog_27_method_1_code 21 = .ok (.bipush 12, 2) := by decide +kernel
theorem own_d1_23 : decode prog_27_method_1_code 23 = .ok (.if_icmp .gt 21, 3) := by decide +kernel
theorem own_d1_26 : decode prog_27_method_1_code 26 = .ok (.iload_n 3, 1) := by decide +kernel
theorem own_d1_27 : decode prog_27_method_1_code 27 = .ok (.ifCond .lt 17, 3) := by decide +kernel
theorem own_d1_30 : decode prog_27_method_1_code 30 = .ok (.iload_n 3, 1) := by decide +kernel
theorem own_d1_31 : decode prog_27_method_1_code 31 = .ok (.bipush 31, 2) := by decide +kernel
theorem own_d1_33 : decode prog_27_method_1_code 33 = .ok (.if_icmp .gt 11, 3) := by decide +kernel
theorem own_d1_36 : decode prog_27_method_1_code 36 = .ok (.iload_n 3, 1) := by decide +kernel
theorem own_d1_37 : decode prog_27_method_1_code 37 = .ok (.ifCond .eq 23, 3) := by decide +kernel
theorem own_d1_40 : decode prog_27_method_1_code 40 = .ok (.iload_n 2, 1) := by decide +kernel
theorem own_d1_41 : decode prog_27_method_1_code 41 = .ok (.ifCond .ne 19, 3) := by decide +kernel
theorem own_d1_44 : decode prog_27_method_1_code 44 = .ok (.new 9, 3) := by decide +kernel
theorem own_d1_47 : decode prog_27_method_1_code 47 = .ok (.dup, 1) := by decide +kernel
theorem own_d1_48 : decode prog_27_method_1_code 48 = .ok (.iload_n 1, 1) := by decide +kernel
theorem own_d1_49 : decode prog_27_method_1_code 49 = .ok (.iload_n 2, 1) := by decide +kernel
theorem own_d1_50 : decode prog_27_method_1_code 50 = .ok (.iload_n 3, 1) := by decide +kernel
theorem own_d1_51 : decode prog_27_method_1_code 51 = .ok (.invokedynamic 11, 5) := by decide +kernel
theorem own_d1_56 : decode prog_27_method_1_code 56 = .ok (.invokespecial 15, 3) := by decide +kernel
theorem own_d1_59 : decode prog_27_method_1_code 59 = .ok (.athrow, 1) := by decide +kernel
theorem own_d1_60 : decode prog_27_method_1_code 60 = .ok (.aload_n 0, 1) := by decide +kernel
theorem own_d1_61 : decode prog_27_method_1_code 61 = .ok (.iload_n 1, 1) := by decide +kernel
theorem own_d1_62 : decode prog_27_method_1_code 62 = .ok (.putfield 18, 3) := by decide +kernel
theorem own_d1_65 : decode prog_27_method_1_code 65 = .ok (.aload_n 0, 1) := by decide +kernel
theorem own_d1_66 : decode prog_27_method_1_code 66 = .ok (.iload_n 2, 1) := by decide +kernel
theorem own_d1_67 : decode prog_27_method_1_code 67 = .ok (.putfield 24, 3) := by decide +kernel
theorem own_d1_70 : decode prog_27_method_1_code 70 = .ok (.aload_n 0, 1) := by decide +kernel
theorem own_d1_71 : decode prog_27_method_1_code 71 = .ok (.iload_n 3, 1) := by decide +kernel
theorem own_d1_72 : decode prog_27_method_1_code 72 = .ok (.putfield 27, 3) := by decide +kernel
theorem own_d1_75 : decode prog_27_method_1_code 75 = .ok (.return_, 1) := by decide +kernel
theorem own_ef1 (x0 : Addr) (x1 : Int32) (x2 : Int32) (x3 : Int32) : ∀ m, entryFrame m #[(.ref x0), (.int x1), (.int x2), (.int x3)] 4 = mkF m 0 #[.val (.ref x0), .val (.int x1), .val (.int x2), .val (.int x3)] [] := fun m => by first | (simp [entryFrame, mkF, argsToLocals, Value.category]; done) | rfl
set_option maxRecDepth 65536 in
set_option maxHeartbeats 40000000 in
theorem own_ini_w {l : Launch} {p : Program} {e : Env} {below : List Frame} {s : State} {m : MethodId} {meth : Method} {c : Code} {Z : State} {a0 args : Array Value} {T : State} {h0 : Heap} (X : Stand p l e ({ frames := 2, cells := 0, slots := 0, locals := 24 } : Room) s m args below meth c T [] 0 0) (C : own_Ctx p s m meth c Z a0 tables_1 (⟨"com/example/fondmark/fondmark/core/PartialDate", "<init>", "(III)V"⟩ : MethodName) prog_27_method_1_code 4 none) (hh : T.heap = h0) (x0 : Addr) (x1 : Int32) (x2 : Int32) (x3 : Int32)  (n0 : Nat) (Z0 : n0 ≤ h0.size) (g0 : n0 ≤ x0) (hE : Exa Z h0 x0 "com/example/fondmark/fondmark/core/PartialDate") (hyear : Fld Z h0 x0 "com/example/fondmark/fondmark/core/PartialDate" "year" "I" (.int (0 : Int32))) (hmonth : Fld Z h0 x0 "com/example/fondmark/fondmark/core/PartialDate" "month" "I" (.int (0 : Int32))) (hday : Fld Z h0 x0 "com/example/fondmark/fondmark/core/PartialDate" "day" "I" (.int (0 : Int32))) (q1 : ¬ x1 < (1 : Int32)) (q2 : ¬ (9999 : Int32) < x1) (q3 : ¬ x2 < (0 : Int32)) (q4 : ¬ (12 : Int32) < x2) (q5 : ¬ x3 < (0 : Int32)) (q6 : ¬ (31 : Int32) < x3) (q7 : ¬ x3 = (0 : Int32) → ¬ x2 = (0 : Int32)) :
    own_Fin p e below s (own_QI Z x0 x1 x2 x3 h0 n0) 0 0 (T.setTop (mkF m 0 #[.val (.ref x0), .val (.int x1), .val (.int x2), .val (.int x3)] [])) := by
  obtain ⟨hx, hby, hml, hZ, hown, hnm, hret, hlk, hw⟩ := id C
  show own_Fin p e below s (own_QI Z x0 x1 x2 x3 h0 n0) 0 0 (T.setTop (mkF m 0 #[.val (.ref x0), .val (.int x1), .val (.int x2), .val (.int x3)] []))
  have N0 := Fr.nil n0
  have KK0 : Keep h0 h0 [x0] := Keep.refl _ _
  refine own_go (fun t => XS.aloadN X.here hx rfl (hb hby own_d1_0) rfl rfl) ?_
  show own_Fin p e below s (own_QI Z x0 x1 x2 x3 h0 n0) 0 0 (T.setTop (mkF m 1 #[.val (.ref x0), .val (.int x1), .val (.int x2), .val (.int x3)] [(.ref x0)]))
  obtain ⟨T1, X1, e1, st1⟩ := own_callIP X hx hZ hh (y := (⟨"java/lang/Record", "<init>", "()V"⟩ : MethodName)) rfl hown (hw _ (List.mem_of_getElem? (i := 7) rfl)) (hw _ (List.mem_of_getElem? (i := 8) rfl)) (hw _ (List.mem_of_getElem? (i := 10) rfl)) (hw _ (List.mem_of_getElem? (i := 11) rfl)) (by decide) (a := x0) (argsL := []) (rest := []) (own_rec l Z a0 hw x0 _ 0 (Nat.zero_le _)) (by decide) 0 (by decide) (by decide) (by decide) (g := (mkF m 1 #[.val (.ref x0), .val (.int x1), .val (.int x2), .val (.int x3)] [(.ref x0)])) rfl (by rw [hml]; rfl) (lenOf own_pd0 rfl) rfl (by show 2 * 0 + _ ≤ _; exact Nat.le_of_eq rfl) (hb hby own_d1_1)
  refine own_go st1 ?_
  show own_Fin p e below s (own_QI Z x0 x1 x2 x3 h0 n0) 0 0 (T1.setTop (mkF m 4 #[.val (.ref x0), .val (.int x1), .val (.int x2), .val (.int x3)] []))
  refine own_go (fun t => XS.iloadN X1.here hx rfl (hb hby own_d1_4) rfl) ?_
  show own_Fin p e below s (own_QI Z x0 x1 x2 x3 h0 n0) 0 0 (T1.setTop (mkF m 5 #[.val (.ref x0), .val (.int x1), .val (.int x2), .val (.int x3)] [(.int x1)]))
  refine own_go (fun t => XS.iconst X1.here hx rfl (hb hby own_d1_5)) ?_
  show own_Fin p e below s (own_QI Z x0 x1 x2 x3 h0 n0) 0 0 (T1.setTop (mkF m 6 #[.val (.ref x0), .val (.int x1), .val (.int x2), .val (.int x3)] [(.int (1 : Int32)), (.int x1)]))
  refine own_go (fun t => XS.icmpNo X1.here hx rfl (hb hby own_d1_6) rfl (flt q1).1) ?_
  show own_Fin p e below s (own_QI Z x0 x1 x2 x3 h0 n0) 0 0 (T1.setTop (mkF m 9 #[.val (.ref x0), .val (.int x1), .val (.int x2), .val (.int x3)] []))
  refine own_go (fun t => XS.iloadN X1.here hx rfl (hb hby own_d1_9) rfl) ?_
  show own_Fin p e below s (own_QI Z x0 x1 x2 x3 h0 n0) 0 0 (T1.setTop (mkF m 10 #[.val (.ref x0), .val (.int x1), .val (.int x2), .val (.int x3)] [(.int x1)]))
  refine own_go (fun t => XS.sipush X1.here hx rfl (hb hby own_d1_10)) ?_
  show own_Fin p e below s (own_QI Z x0 x1 x2 x3 h0 n0) 0 0 (T1.setTop (mkF m 13 #[.val (.ref x0), .val (.int x1), .val (.int x2), .val (.int x3)] [(.int (9999 : Int32)), (.int x1)]))
  refine own_go (fun t => XS.icmpNo X1.here hx rfl (hb hby own_d1_13) rfl (flt q2).2.2.1) ?_
  show own_Fin p e below s (own_QI Z x0 x1 x2 x3 h0 n0) 0 0 (T1.setTop (mkF m 16 #[.val (.ref x0), .val (.int x1), .val (.int x2), .val (.int x3)] []))
  refine own_go (fun t => XS.iloadN X1.here hx rfl (hb hby own_d1_16) rfl) ?_
  show own_Fin p e below s (own_QI Z x0 x1 x2 x3 h0 n0) 0 0 (T1.setTop (mkF m 17 #[.val (.ref x0), .val (.int x1), .val (.int x2), .val (.int x3)] [(.int x2)]))
  refine own_go (fun t => XS.ifNo X1.here hx rfl (hb hby own_d1_17) rfl ((if0 _ _).trans (flt q3).1)) ?_
  show own_Fin p e below s (own_QI Z x0 x1 x2 x3 h0 n0) 0 0 (T1.setTop (mkF m 20 #[.val (.ref x0), .val (.int x1), .val (.int x2), .val (.int x3)] []))
  refine own_go (fun t => XS.iloadN X1.here hx rfl (hb hby own_d1_20) rfl) ?_
  show own_Fin p e below s (own_QI Z x0 x1 x2 x3 h0 n0) 0 0 (T1.setTop (mkF m 21 #[.val (.ref x0), .val (.int x1), .val (.int x2), .val (.int x3)] [(.int x2)]))
  refine own_go (fun t => XS.bipush X1.here hx rfl (hb hby own_d1_21)) ?_
  show own_Fin p e below s (own_QI Z x0 x1 x2 x3 h0 n0) 0 0 (T1.setTop (mkF m 23 #[.val (.ref x0), .val (.int x1), .val (.int x2), .val (.int x3)] [(.int (12 : Int32)), (.int x2)]))
  refine own_go (fun t => XS.icmpNo X1.here hx rfl (hb hby own_d1_23) rfl (flt q4).2.2.1) ?_
  show own_Fin p e below s (own_QI Z x0 x1 x2 x3 h0 n0) 0 0 (T1.setTop (mkF m 26 #[.val (.ref x0), .val (.int x1), .val (.int x2), .val (.int x3)] []))
  refine own_go (fun t => XS.iloadN X1.here hx rfl (hb hby own_d1_26) rfl) ?_
  show own_Fin p e below s (own_QI Z x0 x1 x2 x3 h0 n0) 0 0 (T1.setTop (mkF m 27 #[.val (.ref x0), .val (.int x1), .val (.int x2), .val (.int x3)] [(.int x3)]))
  refine own_go (fun t => XS.ifNo X1.here hx rfl (hb hby own_d1_27) rfl ((if0 _ _).trans (flt q5).1)) ?_
  show own_Fin p e below s (own_QI Z x0 x1 x2 x3 h0 n0) 0 0 (T1.setTop (mkF m 30 #[.val (.ref x0), .val (.int x1), .val (.int x2), .val (.int x3)] []))
  refine own_go (fun t => XS.iloadN X1.here hx rfl (hb hby own_d1_30) rfl) ?_
  show own_Fin p e below s (own_QI Z x0 x1 x2 x3 h0 n0) 0 0 (T1.setTop (mkF m 31 #[.val (.ref x0), .val (.int x1), .val (.int x2), .val (.int x3)] [(.int x3)]))
  refine own_go (fun t => XS.bipush X1.here hx rfl (hb hby own_d1_31)) ?_
  show own_Fin p e below s (own_QI Z x0 x1 x2 x3 h0 n0) 0 0 (T1.setTop (mkF m 33 #[.val (.ref x0), .val (.int x1), .val (.int x2), .val (.int x3)] [(.int (31 : Int32)), (.int x3)]))
  refine own_go (fun t => XS.icmpNo X1.here hx rfl (hb hby own_d1_33) rfl (flt q6).2.2.1) ?_
  show own_Fin p e below s (own_QI Z x0 x1 x2 x3 h0 n0) 0 0 (T1.setTop (mkF m 36 #[.val (.ref x0), .val (.int x1), .val (.int x2), .val (.int x3)] []))
  refine own_go (fun t => XS.iloadN X1.here hx rfl (hb hby own_d1_36) rfl) ?_
  show own_Fin p e below s (own_QI Z x0 x1 x2 x3 h0 n0) 0 0 (T1.setTop (mkF m 37 #[.val (.ref x0), .val (.int x1), .val (.int x2), .val (.int x3)] [(.int x3)]))
  have J : own_Fin p e below s (own_QI Z x0 x1 x2 x3 h0 n0) 0 0 (T1.setTop (mkF m 60 #[.val (.ref x0), .val (.int x1), .val (.int x2), .val (.int x3)] [])) := by
    refine own_go (fun t => XS.aloadN X1.here hx rfl (hb hby own_d1_60) rfl rfl) ?_
    show own_Fin p e below s (own_QI Z x0 x1 x2 x3 h0 n0) 0 0 (T1.setTop (mkF m 61 #[.val (.ref x0), .val (.int x1), .val (.int x2), .val (.int x3)] [(.ref x0)]))
    refine own_go (fun t => XS.iloadN X1.here hx rfl (hb hby own_d1_61) rfl) ?_
    show own_Fin p e below s (own_QI Z x0 x1 x2 x3 h0 n0) 0 0 (T1.setTop (mkF m 62 #[.val (.ref x0), .val (.int x1), .val (.int x2), .val (.int x3)] [(.int x1), (.ref x0)]))
    obtain ⟨T102, X102, W102, st102⟩ := own_putF X1 hx hZ e1 hown (hw _ (List.mem_of_getElem? (i := 15) rfl)) hyear hE (Or.inr ⟨(hw _ (List.mem_of_getElem? (i := 16) rfl)), rfl, hnm⟩) (hw _ (List.mem_of_getElem? (i := 2) rfl)) (ty := .int) (by decide) rfl rfl (g := (mkF m 62 #[.val (.ref x0), .val (.int x1), .val (.int x2), .val (.int x3)] [(.int x1), (.ref x0)])) rfl rfl (hb hby own_d1_62)
    have N102 := Fr.snoc X102 N0 g0
    have E_x0_102 := hE.wr W102
    have F_x0_year_102 := hyear.same W102
    have F_x0_month_102 := hmonth.other W102 (Or.inr (slot_ne (a0 := a0) (Or.inr (hw _ (List.mem_of_getElem? (i := 18) rfl))) (Or.inr (hw _ (List.mem_of_getElem? (i := 16) rfl))) (by decide) (t := .int) (t' := .int) (by decide) (by decide)))
    have F_x0_day_102 := hday.other W102 (Or.inr (slot_ne (a0 := a0) (Or.inr (hw _ (List.mem_of_getElem? (i := 20) rfl))) (Or.inr (hw _ (List.mem_of_getElem? (i := 16) rfl))) (by decide) (t := .int) (t' := .int) (by decide) (by decide)))
    have KK102 := KK0.wr W102 (Or.inl (List.mem_of_getElem? (i := 0) rfl))
    refine own_go st102 ?_
    show own_Fin p e below s (own_QI Z x0 x1 x2 x3 h0 n0) 0 0 (T102.setTop (mkF m 65 #[.val (.ref x0), .val (.int x1), .val (.int x2), .val (.int x3)] []))
    refine own_go (fun t => XS.aloadN X102.here hx rfl (hb hby own_d1_65) rfl rfl) ?_
    show own_Fin p e below s (own_QI Z x0 x1 x2 x3 h0 n0) 0 0 (T102.setTop (mkF m 66 #[.val (.ref x0), .val (.int x1), .val (.int x2), .val (.int x3)] [(.ref x0)]))
    refine own_go (fun t => XS.iloadN X102.here hx rfl (hb hby own_d1_66) rfl) ?_
    show own_Fin p e below s (own_QI Z x0 x1 x2 x3 h0 n0) 0 0 (T102.setTop (mkF m 67 #[.val (.ref x0), .val (.int x1), .val (.int x2), .val (.int x3)] [(.int x2), (.ref x0)]))
    obtain ⟨T103, X103, W103, st103⟩ := own_putF X102 hx hZ rfl hown (hw _ (List.mem_of_getElem? (i := 17) rfl)) F_x0_month_102 E_x0_102 (Or.inr ⟨(hw _ (List.mem_of_getElem? (i := 18) rfl)), rfl, hnm⟩) (hw _ (List.mem_of_getElem? (i := 2) rfl)) (ty := .int) (by decide) rfl rfl (g := (mkF m 67 #[.val (.ref x0), .val (.int x1), .val (.int x2), .val (.int x3)] [(.int x2), (.ref x0)])) rfl rfl (hb hby own_d1_67)
    have N103 := Fr.snoc X103 N102 g0
    have E_x0_103 := E_x0_102.wr W103
    have F_x0_year_103 := F_x0_year_102.other W103 (Or.inr (slot_ne (a0 := a0) (Or.inr (hw _ (List.mem_of_getElem? (i := 16) rfl))) (Or.inr (hw _ (List.mem_of_getElem? (i := 18) rfl))) (by decide) (t := .int) (t' := .int) (by decide) (by decide)))
    have F_x0_month_103 := F_x0_month_102.same W103
    have F_x0_day_103 := F_x0_day_102.other W103 (Or.inr (slot_ne (a0 := a0) (Or.inr (hw _ (List.mem_of_getElem? (i := 20) rfl))) (Or.inr (hw _ (List.mem_of_getElem? (i := 18) rfl))) (by decide) (t := .int) (t' := .int) (by decide) (by decide)))
    have KK103 := KK102.wr W103 (Or.inl (List.mem_of_getElem? (i := 0) rfl))
    refine own_go st103 ?_
    show own_Fin p e below s (own_QI Z x0 x1 x2 x3 h0 n0) 0 0 (T103.setTop (mkF m 70 #[.val (.ref x0), .val (.int x1), .val (.int x2), .val (.int x3)] []))
    refine own_go (fun t => XS.aloadN X103.here hx rfl (hb hby own_d1_70) rfl rfl) ?_
    show own_Fin p e below s (own_QI Z x0 x1 x2 x3 h0 n0) 0 0 (T103.setTop (mkF m 71 #[.val (.ref x0), .val (.int x1), .val (.int x2), .val (.int x3)] [(.ref x0)]))
    refine own_go (fun t => XS.iloadN X103.here hx rfl (hb hby own_d1_71) rfl) ?_
    show own_Fin p e below s (own_QI Z x0 x1 x2 x3 h0 n0) 0 0 (T103.setTop (mkF m 72 #[.val (.ref x0), .val (.int x1), .val (.int x2), .val (.int x3)] [(.int x3), (.ref x0)]))
    obtain ⟨T104, X104, W104, st104⟩ := own_putF X103 hx hZ rfl hown (hw _ (List.mem_of_getElem? (i := 19) rfl)) F_x0_day_103 E_x0_103 (Or.inr ⟨(hw _ (List.mem_of_getElem? (i := 20) rfl)), rfl, hnm⟩) (hw _ (List.mem_of_getElem? (i := 2) rfl)) (ty := .int) (by decide) rfl rfl (g := (mkF m 72 #[.val (.ref x0), .val (.int x1), .val (.int x2), .val (.int x3)] [(.int x3), (.ref x0)])) rfl rfl (hb hby own_d1_72)
    have N104 := Fr.snoc X104 N103 g0
    have E_x0_104 := E_x0_103.wr W104
    have F_x0_year_104 := F_x0_year_103.other W104 (Or.inr (slot_ne (a0 := a0) (Or.inr (hw _ (List.mem_of_getElem? (i := 16) rfl))) (Or.inr (hw _ (List.mem_of_getElem? (i := 20) rfl))) (by decide) (t := .int) (t' := .int) (by decide) (by decide)))
    have F_x0_month_104 := F_x0_month_103.other W104 (Or.inr (slot_ne (a0 := a0) (Or.inr (hw _ (List.mem_of_getElem? (i := 18) rfl))) (Or.inr (hw _ (List.mem_of_getElem? (i := 20) rfl))) (by decide) (t := .int) (t' := .int) (by decide) (by decide)))
    have F_x0_day_104 := F_x0_day_103.same W104
    have KK104 := KK103.wr W104 (Or.inl (List.mem_of_getElem? (i := 0) rfl))
    refine own_go st104 ?_
    show own_Fin p e below s (own_QI Z x0 x1 x2 x3 h0 n0) 0 0 (T104.setTop (mkF m 75 #[.val (.ref x0), .val (.int x1), .val (.int x2), .val (.int x3)] []))
    exact own_ret0 X104 hlk hx hret (hb hby own_d1_75) ⟨rfl, N104, KK104, E_x0_104, F_x0_year_104, F_x0_month_104, F_x0_day_104⟩ (by decide) (by decide)
  by_cases hd : x3 = (0 : Int32)
  · refine own_go (fun t => XS.ifYes X1.here hx rfl (pc0 := 37) (pc' := 60) rfl (hb hby own_d1_37) rfl ((if0 _ _).trans (teq hd).1) (by decide) (by decide)) ?_
    show own_Fin p e below s (own_QI Z x0 x1 x2 x3 h0 n0) 0 0 (T1.setTop (mkF m 60 #[.val (.ref x0), .val (.int x1), .val (.int x2), .val (.int x3)] []))
    exact J
  · refine own_go (fun t => XS.ifNo X1.here hx rfl (hb hby own_d1_37) rfl ((if0 _ _).trans (feq hd).1)) ?_
    show own_Fin p e below s (own_QI Z x0 x1 x2 x3 h0 n0) 0 0 (T1.setTop (mkF m 40 #[.val (.ref x0), .val (.int x1), .val (.int x2), .val (.int x3)] []))
    refine own_go (fun t => XS.iloadN X1.here hx rfl (hb hby own_d1_40) rfl) ?_
    show own_Fin p e below s (own_QI Z x0 x1 x2 x3 h0 n0) 0 0 (T1.setTop (mkF m 41 #[.val (.ref x0), .val (.int x1), .val (.int x2), .val (.int x3)] [(.int x2)]))
    refine own_go (fun t => XS.ifYes X1.here hx rfl (pc0 := 41) (pc' := 60) rfl (hb hby own_d1_41) rfl ((if0 _ _).trans (feq (q7 hd)).2) (by decide) (by decide)) ?_
    show own_Fin p e below s (own_QI Z x0 x1 x2 x3 h0 n0) 0 0 (T1.setTop (mkF m 60 #[.val (.ref x0), .val (.int x1), .val (.int x2), .val (.int x3)] []))
    exact J
theorem own_pn1 : plainName "com/example/fondmark/fondmark/core/PartialDate" = true := by first | (simp [plainName, overriddenIn]; done) | decide +kernel
theorem own_ini (l : Launch) (Z : State) (a0 : Array Value) (hw : ∀ d ∈ tables_1, d.before a0 Z = true) (x0 : Addr) (x1 : Int32) (x2 : Int32) (x3 : Int32)  (h0 : Heap) (n0 : Nat) (Z0 : n0 ≤ h0.size) (g0 : n0 ≤ x0) (hE : Exa Z h0 x0 "com/example/fondmark/fondmark/core/PartialDate") (hyear : Fld Z h0 x0 "com/example/fondmark/fondmark/core/PartialDate" "year" "I" (.int (0 : Int32))) (hmonth : Fld Z h0 x0 "com/example/fondmark/fondmark/core/PartialDate" "month" "I" (.int (0 : Int32))) (hday : Fld Z h0 x0 "com/example/fondmark/fondmark/core/PartialDate" "day" "I" (.int (0 : Int32))) (q1 : ¬ x1 < (1 : Int32)) (q2 : ¬ (9999 : Int32) < x1) (q3 : ¬ x2 < (0 : Int32)) (q4 : ¬ (12 : Int32) < x2) (q5 : ¬ x3 < (0 : Int32)) (q6 : ¬ (31 : Int32) < x3) (q7 : ¬ x3 = (0 : Int32) → ¬ x2 = (0 : Int32)) : own_Met l Z (⟨"com/example/fondmark/fondmark/core/PartialDate", "<init>", "(III)V"⟩ : MethodName) prog_27_method_1_code 4 none [] ({ frames := 2, cells := 0, slots := 0, locals := 24 } : Room) #[(.ref x0), (.int x1), (.int x2), (.int x3)] h0 (own_QI Z x0 x1 x2 x3 h0 n0) :=
  own_enter (plainFor_of_name own_pn1) (own_ef1 x0 x1 x2 x3) hw (fun p e s m below meth c T X C hh => own_ini_w X C hh x0 x1 x2 x3  n0 Z0 g0 hE hyear hmonth hday q1 q2 q3 q4 q5 q6 q7)
def own_val (y m d : Int32) : Int32 := ((y * (10000 : Int32)) + ((if m = (0 : Int32) then (12 : Int32) else m) * (100 : Int32))) + (if d = (0 : Int32) then (31 : Int32) else d)
theorem own_d4_0 : decode prog_27_method_3_code 0 = .ok (.aload_n 0, 1) := by decide +kernel
theorem own_d4_1 : decode prog_27_method_3_code 1 = .ok (.getfield 18, 3) := by decide +kernel
theorem own_d4_4 : decode prog_27_method_3_code 4 = .ok (.sipush 10000, 3) := by decide +kernel
theorem own_d4_7 : decode prog_27_method_3_code 7 = .ok (.imul, 1) := by decide +kernel
theorem own_d4_8 : decode prog_27_method_3_code 8 = .ok (.aload_n 0, 1) := by decide +kernel
theorem own_d4_9 : decode prog_27_method_3_code 9 = .ok (.getfield 24, 3) := by decide +kernel
theorem own_d4_12 : decode prog_27_method_3_code 12 = .ok (.ifCond .ne 8, 3) := by decide +kernel
theorem own_d4_15 : decode prog_27_method_3_code 15 = .ok (.bipush 12, 2) := by decide +kernel
theorem own_d4_17 : decode prog_27_method_3_code 17 = .ok (.goto 7, 3) := by decide +kernel
theorem own_d4_20 : decode prog_27_method_3_code 20 = .ok (.aload_n 0, 1) := by decide +kernel
theorem own_d4_21 : decode prog_27_method_3_code 21 = .ok (.getfield 24, 3) := by decide +kernel
theorem own_d4_24 : decode prog_27_method_3_code 24 = .ok (.bipush 100, 2) := by decide +kernel
theorem own_d4_26 : decode prog_27_method_3_code 26 = .ok (.imul, 1) := by decide +kernel
theorem own_d4_27 : decode prog_27_method_3_code 27 = .ok (.iadd, 1) := by decide +kernel
theorem own_d4_28 : decode prog_27_method_3_code 28 = .ok (.aload_n 0, 1) := by decide +kernel
theorem own_d4_29 : decode prog_27_method_3_code 29 = .ok (.getfield 27, 3) := by decide +kernel
theorem own_d4_32 : decode prog_27_method_3_code 32 = .ok (.ifCond .ne 8, 3) := by decide +kernel
theorem own_d4_35 : decode prog_27_method_3_code 35 = .ok (.bipush 31, 2) := by decide +kernel
theorem own_d4_37 : decode prog_27_method_3_code 37 = .ok (.goto 7, 3) := by decide +kernel
theorem own_d4_40 : decode prog_27_method_3_code 40 = .ok (.aload_n 0, 1) := by decide +kernel
theorem own_d4_41 : decode prog_27_method_3_code 41 = .ok (.getfield 27, 3) := by decide +kernel
theorem own_d4_44 : decode prog_27_method_3_code 44 = .ok (.iadd, 1) := by decide +kernel
theorem own_d4_45 : decode prog_27_method_3_code 45 = .ok (.ireturn, 1) := by decide +kernel
theorem own_ef4 (x0 : Addr) : ∀ m, entryFrame m #[(.ref x0)] 1 = mkF m 0 #[.val (.ref x0)] [] := fun m => by first | (simp [entryFrame, mkF, argsToLocals, Value.category]; done) | rfl
set_option maxRecDepth 65536 in
set_option maxHeartbeats 40000000 in
theorem own_met_w {l : Launch} {p : Program} {e : Env} {below : List Frame} {s : State} {m : MethodId} {meth : Method} {c : Code} {Z : State} {a0 args : Array Value} {T : State} {h0 : Heap} (X : Stand p l e ({ frames := 0, cells := 0, slots := 0, locals := 0 } : Room) s m args below meth c T [] 0 0) (C : own_Ctx p s m meth c Z a0 tables_1 (⟨"com/example/fondmark/fondmark/core/PartialDate", "latest", "()I"⟩ : MethodName) prog_27_method_3_code 1 (some .int)) (hh : T.heap = h0) (x0 : Addr) (year : Int32) (month : Int32) (day : Int32) (n0 : Nat) (Z0 : n0 ≤ h0.size) (hyear : Fld Z h0 x0 "com/example/fondmark/fondmark/core/PartialDate" "year" "I" (.int year)) (hmonth : Fld Z h0 x0 "com/example/fondmark/fondmark/core/PartialDate" "month" "I" (.int month)) (hday : Fld Z h0 x0 "com/example/fondmark/fondmark/core/PartialDate" "day" "I" (.int day)) :
    own_Fin p e below s (own_QP (some (.int (own_val year month day))) h0) 0 0 (T.setTop (mkF m 0 #[.val (.ref x0)] [])) := by
  obtain ⟨hx, hby, hml, hZ, hown, hnm, hret, hlk, hw⟩ := id C
  show own_Fin p e below s (own_QP (some (.int (own_val year month day))) h0) 0 0 (T.setTop (mkF m 0 #[.val (.ref x0)] []))
  refine own_go (fun t => XS.aloadN X.here hx rfl (hb hby own_d4_0) rfl rfl) ?_
  show own_Fin p e below s (own_QP (some (.int (own_val year month day))) h0) 0 0 (T.setTop (mkF m 1 #[.val (.ref x0)] [(.ref x0)]))
  obtain ⟨T1, X1, e1, st1⟩ := own_getF X hx hZ hh hown (hw _ (List.mem_of_getElem? (i := 15) rfl)) hyear (g := (mkF m 1 #[.val (.ref x0)] [(.ref x0)])) rfl rfl (hb hby own_d4_1)
  refine own_go st1 ?_
  show own_Fin p e below s (own_QP (some (.int (own_val year month day))) h0) 0 0 (T1.setTop (mkF m 4 #[.val (.ref x0)] [(.int year)]))
  refine own_go (fun t => XS.sipush X1.here hx rfl (hb hby own_d4_4)) ?_
  show own_Fin p e below s (own_QP (some (.int (own_val year month day))) h0) 0 0 (T1.setTop (mkF m 7 #[.val (.ref x0)] [(.int (10000 : Int32)), (.int year)]))
  refine own_go (fun t => XS.imul X1.here hx rfl (hb hby own_d4_7) rfl) ?_
  show own_Fin p e below s (own_QP (some (.int (own_val year month day))) h0) 0 0 (T1.setTop (mkF m 8 #[.val (.ref x0)] [(.int (year * (10000 : Int32)))]))
  refine own_go (fun t => XS.aloadN X1.here hx rfl (hb hby own_d4_8) rfl rfl) ?_
  show own_Fin p e below s (own_QP (some (.int (own_val year month day))) h0) 0 0 (T1.setTop (mkF m 9 #[.val (.ref x0)] [(.ref x0), (.int (year * (10000 : Int32)))]))
  obtain ⟨T2, X2, e2, st2⟩ := own_getF X1 hx hZ e1 hown (hw _ (List.mem_of_getElem? (i := 17) rfl)) hmonth (g := (mkF m 9 #[.val (.ref x0)] [(.ref x0), (.int (year * (10000 : Int32)))])) rfl rfl (hb hby own_d4_9)
  refine own_go st2 ?_
  show own_Fin p e below s (own_QP (some (.int (own_val year month day))) h0) 0 0 (T2.setTop (mkF m 12 #[.val (.ref x0)] [(.int month), (.int (year * (10000 : Int32)))]))
  by_cases hm : month = (0 : Int32)
  · refine own_go (fun t => XS.ifNo X2.here hx rfl (hb hby own_d4_12) rfl ((if0 _ _).trans (teq hm).2)) ?_
    show own_Fin p e below s (own_QP (some (.int (own_val year month day))) h0) 0 0 (T2.setTop (mkF m 15 #[.val (.ref x0)] [(.int (year * (10000 : Int32)))]))
    refine own_go (fun t => XS.bipush X2.here hx rfl (hb hby own_d4_15)) ?_
    show own_Fin p e below s (own_QP (some (.int (own_val year month day))) h0) 0 0 (T2.setTop (mkF m 17 #[.val (.ref x0)] [(.int (12 : Int32)), (.int (year * (10000 : Int32)))]))
    refine own_go (fun t => XS.goto X2.here hx rfl (pc0 := 17) (pc' := 24) rfl (hb hby own_d4_17) (by decide) (by decide)) ?_
    show own_Fin p e below s (own_QP (some (.int (own_val year month day))) h0) 0 0 (T2.setTop (mkF m 24 #[.val (.ref x0)] [(.int (12 : Int32)), (.int (year * (10000 : Int32)))]))
    refine own_go (fun t => XS.bipush X2.here hx rfl (hb hby own_d4_24)) ?_
    show own_Fin p e below s (own_QP (some (.int (own_val year month day))) h0) 0 0 (T2.setTop (mkF m 26 #[.val (.ref x0)] [(.int (100 : Int32)), (.int (12 : Int32)), (.int (year * (10000 : Int32)))]))
    refine own_go (fun t => XS.imul X2.here hx rfl (hb hby own_d4_26) rfl) ?_
    show own_Fin p e below s (own_QP (some (.int (own_val year month day))) h0) 0 0 (T2.setTop (mkF m 27 #[.val (.ref x0)] [(.int ((12 : Int32) * (100 : Int32))), (.int (year * (10000 : Int32)))]))
    refine own_go (fun t => XS.iadd X2.here hx rfl (hb hby own_d4_27) rfl) ?_
    show own_Fin p e below s (own_QP (some (.int (own_val year month day))) h0) 0 0 (T2.setTop (mkF m 28 #[.val (.ref x0)] [(.int ((year * (10000 : Int32)) + ((12 : Int32) * (100 : Int32))))]))
    refine own_go (fun t => XS.aloadN X2.here hx rfl (hb hby own_d4_28) rfl rfl) ?_
    show own_Fin p e below s (own_QP (some (.int (own_val year month day))) h0) 0 0 (T2.setTop (mkF m 29 #[.val (.ref x0)] [(.ref x0), (.int ((year * (10000 : Int32)) + ((12 : Int32) * (100 : Int32))))]))
    obtain ⟨T103, X103, e103, st103⟩ := own_getF X2 hx hZ e2 hown (hw _ (List.mem_of_getElem? (i := 19) rfl)) hday (g := (mkF m 29 #[.val (.ref x0)] [(.ref x0), (.int ((year * (10000 : Int32)) + ((12 : Int32) * (100 : Int32))))])) rfl rfl (hb hby own_d4_29)
    refine own_go st103 ?_
    show own_Fin p e below s (own_QP (some (.int (own_val year month day))) h0) 0 0 (T103.setTop (mkF m 32 #[.val (.ref x0)] [(.int day), (.int ((year * (10000 : Int32)) + ((12 : Int32) * (100 : Int32))))]))
    by_cases hd : day = (0 : Int32)
    · refine own_go (fun t => XS.ifNo X103.here hx rfl (hb hby own_d4_32) rfl ((if0 _ _).trans (teq hd).2)) ?_
      show own_Fin p e below s (own_QP (some (.int (own_val year month day))) h0) 0 0 (T103.setTop (mkF m 35 #[.val (.ref x0)] [(.int ((year * (10000 : Int32)) + ((12 : Int32) * (100 : Int32))))]))
      refine own_go (fun t => XS.bipush X103.here hx rfl (hb hby own_d4_35)) ?_
      show own_Fin p e below s (own_QP (some (.int (own_val year month day))) h0) 0 0 (T103.setTop (mkF m 37 #[.val (.ref x0)] [(.int (31 : Int32)), (.int ((year * (10000 : Int32)) + ((12 : Int32) * (100 : Int32))))]))
      refine own_go (fun t => XS.goto X103.here hx rfl (pc0 := 37) (pc' := 44) rfl (hb hby own_d4_37) (by decide) (by decide)) ?_
      show own_Fin p e below s (own_QP (some (.int (own_val year month day))) h0) 0 0 (T103.setTop (mkF m 44 #[.val (.ref x0)] [(.int (31 : Int32)), (.int ((year * (10000 : Int32)) + ((12 : Int32) * (100 : Int32))))]))
      refine own_go (fun t => XS.iadd X103.here hx rfl (hb hby own_d4_44) rfl) ?_
      show own_Fin p e below s (own_QP (some (.int (own_val year month day))) h0) 0 0 (T103.setTop (mkF m 45 #[.val (.ref x0)] [(.int (((year * (10000 : Int32)) + ((12 : Int32) * (100 : Int32))) + (31 : Int32)))]))
      exact own_ret X103 hlk hx (t := .int) hret rfl (Or.inl ⟨rfl, by simp, _, rfl⟩) (hb hby own_d4_45) ⟨by simp [own_val, hm, hd], rfl, e103⟩ (by decide) (by decide)
    · refine own_go (fun t => XS.ifYes X103.here hx rfl (pc0 := 32) (pc' := 40) rfl (hb hby own_d4_32) rfl ((if0 _ _).trans (feq hd).2) (by decide) (by decide)) ?_
      show own_Fin p e below s (own_QP (some (.int (own_val year month day))) h0) 0 0 (T103.setTop (mkF m 40 #[.val (.ref x0)] [(.int ((year * (10000 : Int32)) + ((12 : Int32) * (100 : Int32))))]))
      refine own_go (fun t => XS.aloadN X103.here hx rfl (hb hby own_d4_40) rfl rfl) ?_
      show own_Fin p e below s (own_QP (some (.int (own_val year month day))) h0) 0 0 (T103.setTop (mkF m 41 #[.val (.ref x0)] [(.ref x0), (.int ((year * (10000 : Int32)) + ((12 : Int32) * (100 : Int32))))]))
      obtain ⟨T204, X204, e204, st204⟩ := own_getF X103 hx hZ e103 hown (hw _ (List.mem_of_getElem? (i := 19) rfl)) hday (g := (mkF m 41 #[.val (.ref x0)] [(.ref x0), (.int ((year * (10000 : Int32)) + ((12 : Int32) * (100 : Int32))))])) rfl rfl (hb hby own_d4_41)
      refine own_go st204 ?_
      show own_Fin p e below s (own_QP (some (.int (own_val year month day))) h0) 0 0 (T204.setTop (mkF m 44 #[.val (.ref x0)] [(.int day), (.int ((year * (10000 : Int32)) + ((12 : Int32) * (100 : Int32))))]))
      refine own_go (fun t => XS.iadd X204.here hx rfl (hb hby own_d4_44) rfl) ?_
      show own_Fin p e below s (own_QP (some (.int (own_val year month day))) h0) 0 0 (T204.setTop (mkF m 45 #[.val (.ref x0)] [(.int (((year * (10000 : Int32)) + ((12 : Int32) * (100 : Int32))) + day))]))
      exact own_ret X204 hlk hx (t := .int) hret rfl (Or.inl ⟨rfl, by simp, _, rfl⟩) (hb hby own_d4_45) ⟨by simp [own_val, hm, hd], rfl, e204⟩ (by decide) (by decide)
  · refine own_go (fun t => XS.ifYes X2.here hx rfl (pc0 := 12) (pc' := 20) rfl (hb hby own_d4_12) rfl ((if0 _ _).trans (feq hm).2) (by decide) (by decide)) ?_
    show own_Fin p e below s (own_QP (some (.int (own_val year month day))) h0) 0 0 (T2.setTop (mkF m 20 #[.val (.ref x0)] [(.int (year * (10000 : Int32)))]))
    refine own_go (fun t => XS.aloadN X2.here hx rfl (hb hby own_d4_20) rfl rfl) ?_
    show own_Fin p e below s (own_QP (some (.int (own_val year month day))) h0) 0 0 (T2.setTop (mkF m 21 #[.val (.ref x0)] [(.ref x0), (.int (year * (10000 : Int32)))]))
    obtain ⟨T103, X103, e103, st103⟩ := own_getF X2 hx hZ e2 hown (hw _ (List.mem_of_getElem? (i := 17) rfl)) hmonth (g := (mkF m 21 #[.val (.ref x0)] [(.ref x0), (.int (year * (10000 : Int32)))])) rfl rfl (hb hby own_d4_21)
    refine own_go st103 ?_
    show own_Fin p e below s (own_QP (some (.int (own_val year month day))) h0) 0 0 (T103.setTop (mkF m 24 #[.val (.ref x0)] [(.int month), (.int (year * (10000 : Int32)))]))
    refine own_go (fun t => XS.bipush X103.here hx rfl (hb hby own_d4_24)) ?_
    show own_Fin p e below s (own_QP (some (.int (own_val year month day))) h0) 0 0 (T103.setTop (mkF m 26 #[.val (.ref x0)] [(.int (100 : Int32)), (.int month), (.int (year * (10000 : Int32)))]))
    refine own_go (fun t => XS.imul X103.here hx rfl (hb hby own_d4_26) rfl) ?_
    show own_Fin p e below s (own_QP (some (.int (own_val year month day))) h0) 0 0 (T103.setTop (mkF m 27 #[.val (.ref x0)] [(.int (month * (100 : Int32))), (.int (year * (10000 : Int32)))]))
    refine own_go (fun t => XS.iadd X103.here hx rfl (hb hby own_d4_27) rfl) ?_
    show own_Fin p e below s (own_QP (some (.int (own_val year month day))) h0) 0 0 (T103.setTop (mkF m 28 #[.val (.ref x0)] [(.int ((year * (10000 : Int32)) + (month * (100 : Int32))))]))
    refine own_go (fun t => XS.aloadN X103.here hx rfl (hb hby own_d4_28) rfl rfl) ?_
    show own_Fin p e below s (own_QP (some (.int (own_val year month day))) h0) 0 0 (T103.setTop (mkF m 29 #[.val (.ref x0)] [(.ref x0), (.int ((year * (10000 : Int32)) + (month * (100 : Int32))))]))
    obtain ⟨T104, X104, e104, st104⟩ := own_getF X103 hx hZ e103 hown (hw _ (List.mem_of_getElem? (i := 19) rfl)) hday (g := (mkF m 29 #[.val (.ref x0)] [(.ref x0), (.int ((year * (10000 : Int32)) + (month * (100 : Int32))))])) rfl rfl (hb hby own_d4_29)
    refine own_go st104 ?_
    show own_Fin p e below s (own_QP (some (.int (own_val year month day))) h0) 0 0 (T104.setTop (mkF m 32 #[.val (.ref x0)] [(.int day), (.int ((year * (10000 : Int32)) + (month * (100 : Int32))))]))
    by_cases hd : day = (0 : Int32)
    · refine own_go (fun t => XS.ifNo X104.here hx rfl (hb hby own_d4_32) rfl ((if0 _ _).trans (teq hd).2)) ?_
      show own_Fin p e below s (own_QP (some (.int (own_val year month day))) h0) 0 0 (T104.setTop (mkF m 35 #[.val (.ref x0)] [(.int ((year * (10000 : Int32)) + (month * (100 : Int32))))]))
      refine own_go (fun t => XS.bipush X104.here hx rfl (hb hby own_d4_35)) ?_
      show own_Fin p e below s (own_QP (some (.int (own_val year month day))) h0) 0 0 (T104.setTop (mkF m 37 #[.val (.ref x0)] [(.int (31 : Int32)), (.int ((year * (10000 : Int32)) + (month * (100 : Int32))))]))
      refine own_go (fun t => XS.goto X104.here hx rfl (pc0 := 37) (pc' := 44) rfl (hb hby own_d4_37) (by decide) (by decide)) ?_
      show own_Fin p e below s (own_QP (some (.int (own_val year month day))) h0) 0 0 (T104.setTop (mkF m 44 #[.val (.ref x0)] [(.int (31 : Int32)), (.int ((year * (10000 : Int32)) + (month * (100 : Int32))))]))
      refine own_go (fun t => XS.iadd X104.here hx rfl (hb hby own_d4_44) rfl) ?_
      show own_Fin p e below s (own_QP (some (.int (own_val year month day))) h0) 0 0 (T104.setTop (mkF m 45 #[.val (.ref x0)] [(.int (((year * (10000 : Int32)) + (month * (100 : Int32))) + (31 : Int32)))]))
      exact own_ret X104 hlk hx (t := .int) hret rfl (Or.inl ⟨rfl, by simp, _, rfl⟩) (hb hby own_d4_45) ⟨by simp [own_val, hm, hd], rfl, e104⟩ (by decide) (by decide)
    · refine own_go (fun t => XS.ifYes X104.here hx rfl (pc0 := 32) (pc' := 40) rfl (hb hby own_d4_32) rfl ((if0 _ _).trans (feq hd).2) (by decide) (by decide)) ?_
      show own_Fin p e below s (own_QP (some (.int (own_val year month day))) h0) 0 0 (T104.setTop (mkF m 40 #[.val (.ref x0)] [(.int ((year * (10000 : Int32)) + (month * (100 : Int32))))]))
      refine own_go (fun t => XS.aloadN X104.here hx rfl (hb hby own_d4_40) rfl rfl) ?_
      show own_Fin p e below s (own_QP (some (.int (own_val year month day))) h0) 0 0 (T104.setTop (mkF m 41 #[.val (.ref x0)] [(.ref x0), (.int ((year * (10000 : Int32)) + (month * (100 : Int32))))]))
      obtain ⟨T205, X205, e205, st205⟩ := own_getF X104 hx hZ e104 hown (hw _ (List.mem_of_getElem? (i := 19) rfl)) hday (g := (mkF m 41 #[.val (.ref x0)] [(.ref x0), (.int ((year * (10000 : Int32)) + (month * (100 : Int32))))])) rfl rfl (hb hby own_d4_41)
      refine own_go st205 ?_
      show own_Fin p e below s (own_QP (some (.int (own_val year month day))) h0) 0 0 (T205.setTop (mkF m 44 #[.val (.ref x0)] [(.int day), (.int ((year * (10000 : Int32)) + (month * (100 : Int32))))]))
      refine own_go (fun t => XS.iadd X205.here hx rfl (hb hby own_d4_44) rfl) ?_
      show own_Fin p e below s (own_QP (some (.int (own_val year month day))) h0) 0 0 (T205.setTop (mkF m 45 #[.val (.ref x0)] [(.int (((year * (10000 : Int32)) + (month * (100 : Int32))) + day))]))
      exact own_ret X205 hlk hx (t := .int) hret rfl (Or.inl ⟨rfl, by simp, _, rfl⟩) (hb hby own_d4_45) ⟨by simp [own_val, hm, hd], rfl, e205⟩ (by decide) (by decide)
theorem own_met (l : Launch) (Z : State) (a0 : Array Value) (hw : ∀ d ∈ tables_1, d.before a0 Z = true) (x0 : Addr) (year : Int32) (month : Int32) (day : Int32) (h0 : Heap) (n0 : Nat) (Z0 : n0 ≤ h0.size) (hyear : Fld Z h0 x0 "com/example/fondmark/fondmark/core/PartialDate" "year" "I" (.int year)) (hmonth : Fld Z h0 x0 "com/example/fondmark/fondmark/core/PartialDate" "month" "I" (.int month)) (hday : Fld Z h0 x0 "com/example/fondmark/fondmark/core/PartialDate" "day" "I" (.int day)) : own_Met l Z (⟨"com/example/fondmark/fondmark/core/PartialDate", "latest", "()I"⟩ : MethodName) prog_27_method_3_code 1 (some .int) [] ({ frames := 0, cells := 0, slots := 0, locals := 0 } : Room) #[(.ref x0)] h0 (own_QP (some (.int (own_val year month day))) h0) :=
  own_enter (plainFor_of_name own_pn1) (own_ef4 x0) hw (fun p e s m below meth c T X C hh => own_met_w X C hh x0 year month day n0 Z0 hyear hmonth hday)
theorem own_year (y : Int32) : 1 ≤ ((1 : Int32) + ((y &&& (2147483647 : Int32)) % (9999 : Int32))).toInt ∧ ((1 : Int32) + ((y &&& (2147483647 : Int32)) % (9999 : Int32))).toInt ≤ 9999 := by
  have h := own_modpos y 9999 9999 (by decide) (by decide)
  have a := c_iadd 1 ((y &&& (2147483647 : Int32)) % (9999 : Int32))
  have r := rng32 ((1 : Int32) + ((y &&& (2147483647 : Int32)) % (9999 : Int32)))
  have o : (1 : Int32).toInt = 1 := by decide
  omega
theorem own_arith (y m d v : Int32) (hy : 1 ≤ y.toInt ∧ y.toInt ≤ 9999) (hm : 1 ≤ m.toInt ∧ m.toInt ≤ 12) (hd : 1 ≤ d.toInt ∧ d.toInt ≤ 31) (e : v = (y * (10000 : Int32) + m * (100 : Int32)) + d) :
    0 ≤ v.toInt ∧ v / (10000 : Int32) = y ∧ (v / (100 : Int32)) % (100 : Int32) = m ∧ v % (100 : Int32) = d := by
  have k1 : (10000 : Int32).toInt = 10000 := by decide
  have k2 : (100 : Int32).toInt = 100 := by decide
  have a1 := c_imul y 10000
  have a2 := c_imul m 100
  have a3 := c_iadd (y * (10000 : Int32)) (m * (100 : Int32))
  have a4 := c_iadd (y * (10000 : Int32) + m * (100 : Int32)) d
  rw [k1] at a1
  rw [k2] at a2
  have r1 := rng32 (y * (10000 : Int32))
  have r2 := rng32 (m * (100 : Int32))
  have r3 := rng32 (y * (10000 : Int32) + m * (100 : Int32))
  have r4 := rng32 (y * (10000 : Int32) + m * (100 : Int32) + d)
  rw [← e] at a4 r4
  have hv : v.toInt = y.toInt * 10000 + m.toInt * 100 + d.toInt := by omega
  have v0 : 0 ≤ v.toInt := by omega
  have d1 := (c_idiv v 10000 10000 k1 (by decide)).1 v0
  have d2 := (c_idiv v 100 100 k2 (by decide)).1 v0
  have d3 := (c_irem (v / 100) 100 100 k2).1 (by omega)
  have d4 := (c_irem v 100 100 k2).1 v0
  refine ⟨v0, Int32.toInt_inj.mp ?_, Int32.toInt_inj.mp ?_, Int32.toInt_inj.mp ?_⟩ <;> omega
theorem own_ef0 (x0 : Int32) (x1 : Int32) (x2 : Int32) : ∀ m, entryFrame m #[(.int x0), (.int x1), (.int x2)] maxLocals = mkF m 0 #[.val (.int x0), .val (.int x1), .val (.int x2), .unset, .unset, .unset, .unset, .unset, .unset, .unset, .unset, .unset, .unset, .unset] [] := fun m => by first | (simp [entryFrame, mkF, argsToLocals, Value.category, maxLocals]; done) | rfl
theorem own_pd1 : parseMethodDescriptor "(III)V" = some ⟨[.int, .int, .int], none⟩ := by decide +kernel
theorem own_pd2 : parseMethodDescriptor "()I" = some ⟨[], some .int⟩ := by decide +kernel
def own_Q0 (n0 : Nat) (v : Option Value) (h : Heap) (L : List Loc) : Prop := v = some (.int 1) ∧ Fr n0 L
set_option maxRecDepth 65536 in
set_option maxHeartbeats 40000000 in
theorem own_law {l : Launch} {p : Program} {e : Env} {below : List Frame} {s : State} {m : MethodId} {meth : Method} {c : Code} {Z : State} {a0 args : Array Value} {T : State} {h0 : Heap} (X : Stand p l e room_1 s m args below meth c T [] 0 0) (C : own_Ctx p s m meth c Z a0 tables_1 x code maxLocals ret) (hh : T.heap = h0) (x0 : Int32) (x1 : Int32) (x2 : Int32) (n0 : Nat) (Z0 : n0 ≤ h0.size) :
    own_Fin p e below s (own_Q0 n0) room_1.cells room_1.slots (T.setTop (mkF m 0 #[.val (.int x0), .val (.int x1), .val (.int x2), .unset, .unset, .unset, .unset, .unset, .unset, .unset, .unset, .unset, .unset, .unset] [])) := by
  obtain ⟨hx, hby, hml, hZ, hown, hnm, hret, hlk, hw⟩ := id C
  show own_Fin p e below s (own_Q0 n0) room_1.cells room_1.slots (T.setTop (mkF m 0 #[.val (.int x0), .val (.int x1), .val (.int x2), .unset, .unset, .unset, .unset, .unset, .unset, .unset, .unset, .unset, .unset, .unset] []))
  have N0 := Fr.nil n0
  have KK0 : Keep h0 h0 [] := Keep.refl _ _
  refine own_go (fun t => XS.iconst X.here hx rfl (hb hby at_0)) ?_
  show own_Fin p e below s (own_Q0 n0) room_1.cells room_1.slots (T.setTop (mkF m 1 #[.val (.int x0), .val (.int x1), .val (.int x2), .unset, .unset, .unset, .unset, .unset, .unset, .unset, .unset, .unset, .unset, .unset] [(.int (1 : Int32))]))
  refine own_go (fun t => XS.iloadN X.here hx rfl (hb hby at_1) rfl) ?_
  show own_Fin p e below s (own_Q0 n0) room_1.cells room_1.slots (T.setTop (mkF m 2 #[.val (.int x0), .val (.int x1), .val (.int x2), .unset, .unset, .unset, .unset, .unset, .unset, .unset, .unset, .unset, .unset, .unset] [(.int x0), (.int (1 : Int32))]))
  refine own_go (fun t => X.ldcInt hx hown (mvT hZ (hw _ (List.mem_of_getElem? (i := 0) rfl))) (g := (mkF m 2 #[.val (.int x0), .val (.int x1), .val (.int x2), .unset, .unset, .unset, .unset, .unset, .unset, .unset, .unset, .unset, .unset, .unset] [(.int x0), (.int (1 : Int32))])) rfl (hb hby at_2) t) ?_
  show own_Fin p e below s (own_Q0 n0) room_1.cells room_1.slots (T.setTop (mkF m 4 #[.val (.int x0), .val (.int x1), .val (.int x2), .unset, .unset, .unset, .unset, .unset, .unset, .unset, .unset, .unset, .unset, .unset] [(.int (2147483647 : Int32)), (.int x0), (.int (1 : Int32))]))
  refine own_go (fun t => XS.iand X.here hx rfl (hb hby at_4) rfl) ?_
  show own_Fin p e below s (own_Q0 n0) room_1.cells room_1.slots (T.setTop (mkF m 5 #[.val (.int x0), .val (.int x1), .val (.int x2), .unset, .unset, .unset, .unset, .unset, .unset, .unset, .unset, .unset, .unset, .unset] [(.int (x0 &&& (2147483647 : Int32))), (.int (1 : Int32))]))
  refine own_go (fun t => XS.sipush X.here hx rfl (hb hby at_5)) ?_
  show own_Fin p e below s (own_Q0 n0) room_1.cells room_1.slots (T.setTop (mkF m 8 #[.val (.int x0), .val (.int x1), .val (.int x2), .unset, .unset, .unset, .unset, .unset, .unset, .unset, .unset, .unset, .unset, .unset] [(.int (9999 : Int32)), (.int (x0 &&& (2147483647 : Int32))), (.int (1 : Int32))]))
  refine own_go (fun t => Jvm.RoadKit.iremM X hx rfl (hb hby at_8) rfl (by decide)) ?_
  show own_Fin p e below s (own_Q0 n0) room_1.cells room_1.slots (T.setTop (mkF m 9 #[.val (.int x0), .val (.int x1), .val (.int x2), .unset, .unset, .unset, .unset, .unset, .unset, .unset, .unset, .unset, .unset, .unset] [(.int ((x0 &&& (2147483647 : Int32)) % (9999 : Int32))), (.int (1 : Int32))]))
  refine own_go (fun t => XS.iadd X.here hx rfl (hb hby at_9) rfl) ?_
  show own_Fin p e below s (own_Q0 n0) room_1.cells room_1.slots (T.setTop (mkF m 10 #[.val (.int x0), .val (.int x1), .val (.int x2), .unset, .unset, .unset, .unset, .unset, .unset, .unset, .unset, .unset, .unset, .unset] [(.int ((1 : Int32) + ((x0 &&& (2147483647 : Int32)) % (9999 : Int32))))]))
  refine own_go (fun t => XS.istoreN X.here hx rfl (hb hby at_10) rfl (l' := #[.val (.int x0), .val (.int x1), .val (.int x2), .val (.int ((1 : Int32) + ((x0 &&& (2147483647 : Int32)) % (9999 : Int32)))), .unset, .unset, .unset, .unset, .unset, .unset, .unset, .unset, .unset, .unset]) rfl) ?_
  show own_Fin p e below s (own_Q0 n0) room_1.cells room_1.slots (T.setTop (mkF m 11 #[.val (.int x0), .val (.int x1), .val (.int x2), .val (.int ((1 : Int32) + ((x0 &&& (2147483647 : Int32)) % (9999 : Int32)))), .unset, .unset, .unset, .unset, .unset, .unset, .unset, .unset, .unset, .unset] []))
  refine own_go (fun t => XS.iloadN X.here hx rfl (hb hby at_11) rfl) ?_
  show own_Fin p e below s (own_Q0 n0) room_1.cells room_1.slots (T.setTop (mkF m 12 #[.val (.int x0), .val (.int x1), .val (.int x2), .val (.int ((1 : Int32) + ((x0 &&& (2147483647 : Int32)) % (9999 : Int32)))), .unset, .unset, .unset, .unset, .unset, .unset, .unset, .unset, .unset, .unset] [(.int x1)]))
  refine own_go (fun t => X.ldcInt hx hown (mvT hZ (hw _ (List.mem_of_getElem? (i := 0) rfl))) (g := (mkF m 12 #[.val (.int x0), .val (.int x1), .val (.int x2), .val (.int ((1 : Int32) + ((x0 &&& (2147483647 : Int32)) % (9999 : Int32)))), .unset, .unset, .unset, .unset, .unset, .unset, .unset, .unset, .unset, .unset] [(.int x1)])) rfl (hb hby at_12) t) ?_
  show own_Fin p e below s (own_Q0 n0) room_1.cells room_1.slots (T.setTop (mkF m 14 #[.val (.int x0), .val (.int x1), .val (.int x2), .val (.int ((1 : Int32) + ((x0 &&& (2147483647 : Int32)) % (9999 : Int32)))), .unset, .unset, .unset, .unset, .unset, .unset, .unset, .unset, .unset, .unset] [(.int (2147483647 : Int32)), (.int x1)]))
  refine own_go (fun t => XS.iand X.here hx rfl (hb hby at_14) rfl) ?_
  show own_Fin p e below s (own_Q0 n0) room_1.cells room_1.slots (T.setTop (mkF m 15 #[.val (.int x0), .val (.int x1), .val (.int x2), .val (.int ((1 : Int32) + ((x0 &&& (2147483647 : Int32)) % (9999 : Int32)))), .unset, .unset, .unset, .unset, .unset, .unset, .unset, .unset, .unset, .unset] [(.int (x1 &&& (2147483647 : Int32)))]))
  refine own_go (fun t => XS.bipush X.here hx rfl (hb hby at_15)) ?_
  show own_Fin p e below s (own_Q0 n0) room_1.cells room_1.slots (T.setTop (mkF m 17 #[.val (.int x0), .val (.int x1), .val (.int x2), .val (.int ((1 : Int32) + ((x0 &&& (2147483647 : Int32)) % (9999 : Int32)))), .unset, .unset, .unset, .unset, .unset, .unset, .unset, .unset, .unset, .unset] [(.int (13 : Int32)), (.int (x1 &&& (2147483647 : Int32)))]))
  refine own_go (fun t => Jvm.RoadKit.iremM X hx rfl (hb hby at_17) rfl (by decide)) ?_
  show own_Fin p e below s (own_Q0 n0) room_1.cells room_1.slots (T.setTop (mkF m 18 #[.val (.int x0), .val (.int x1), .val (.int x2), .val (.int ((1 : Int32) + ((x0 &&& (2147483647 : Int32)) % (9999 : Int32)))), .unset, .unset, .unset, .unset, .unset, .unset, .unset, .unset, .unset, .unset] [(.int ((x1 &&& (2147483647 : Int32)) % (13 : Int32)))]))
  refine own_go (fun t => XS.istore X.here hx rfl (hb hby at_18) rfl (l' := #[.val (.int x0), .val (.int x1), .val (.int x2), .val (.int ((1 : Int32) + ((x0 &&& (2147483647 : Int32)) % (9999 : Int32)))), .val (.int ((x1 &&& (2147483647 : Int32)) % (13 : Int32))), .unset, .unset, .unset, .unset, .unset, .unset, .unset, .unset, .unset]) rfl) ?_
  show own_Fin p e below s (own_Q0 n0) room_1.cells room_1.slots (T.setTop (mkF m 20 #[.val (.int x0), .val (.int x1), .val (.int x2), .val (.int ((1 : Int32) + ((x0 &&& (2147483647 : Int32)) % (9999 : Int32)))), .val (.int ((x1 &&& (2147483647 : Int32)) % (13 : Int32))), .unset, .unset, .unset, .unset, .unset, .unset, .unset, .unset, .unset] []))
  refine own_go (fun t => XS.iloadN X.here hx rfl (hb hby at_20) rfl) ?_
  show own_Fin p e below s (own_Q0 n0) room_1.cells room_1.slots (T.setTop (mkF m 21 #[.val (.int x0), .val (.int x1), .val (.int x2), .val (.int ((1 : Int32) + ((x0 &&& (2147483647 : Int32)) % (9999 : Int32)))), .val (.int ((x1 &&& (2147483647 : Int32)) % (13 : Int32))), .unset, .unset, .unset, .unset, .unset, .unset, .unset, .unset, .unset] [(.int x2)]))
  refine own_go (fun t => X.ldcInt hx hown (mvT hZ (hw _ (List.mem_of_getElem? (i := 0) rfl))) (g := (mkF m 21 #[.val (.int x0), .val (.int x1), .val (.int x2), .val (.int ((1 : Int32) + ((x0 &&& (2147483647 : Int32)) % (9999 : Int32)))), .val (.int ((x1 &&& (2147483647 : Int32)) % (13 : Int32))), .unset, .unset, .unset, .unset, .unset, .unset, .unset, .unset, .unset] [(.int x2)])) rfl (hb hby at_21) t) ?_
  show own_Fin p e below s (own_Q0 n0) room_1.cells room_1.slots (T.setTop (mkF m 23 #[.val (.int x0), .val (.int x1), .val (.int x2), .val (.int ((1 : Int32) + ((x0 &&& (2147483647 : Int32)) % (9999 : Int32)))), .val (.int ((x1 &&& (2147483647 : Int32)) % (13 : Int32))), .unset, .unset, .unset, .unset, .unset, .unset, .unset, .unset, .unset] [(.int (2147483647 : Int32)), (.int x2)]))
  refine own_go (fun t => XS.iand X.here hx rfl (hb hby at_23) rfl) ?_
  show own_Fin p e below s (own_Q0 n0) room_1.cells room_1.slots (T.setTop (mkF m 24 #[.val (.int x0), .val (.int x1), .val (.int x2), .val (.int ((1 : Int32) + ((x0 &&& (2147483647 : Int32)) % (9999 : Int32)))), .val (.int ((x1 &&& (2147483647 : Int32)) % (13 : Int32))), .unset, .unset, .unset, .unset, .unset, .unset, .unset, .unset, .unset] [(.int (x2 &&& (2147483647 : Int32)))]))
  refine own_go (fun t => XS.bipush X.here hx rfl (hb hby at_24)) ?_
  show own_Fin p e below s (own_Q0 n0) room_1.cells room_1.slots (T.setTop (mkF m 26 #[.val (.int x0), .val (.int x1), .val (.int x2), .val (.int ((1 : Int32) + ((x0 &&& (2147483647 : Int32)) % (9999 : Int32)))), .val (.int ((x1 &&& (2147483647 : Int32)) % (13 : Int32))), .unset, .unset, .unset, .unset, .unset, .unset, .unset, .unset, .unset] [(.int (32 : Int32)), (.int (x2 &&& (2147483647 : Int32)))]))
  refine own_go (fun t => Jvm.RoadKit.iremM X hx rfl (hb hby at_26) rfl (by decide)) ?_
  show own_Fin p e below s (own_Q0 n0) room_1.cells room_1.slots (T.setTop (mkF m 27 #[.val (.int x0), .val (.int x1), .val (.int x2), .val (.int ((1 : Int32) + ((x0 &&& (2147483647 : Int32)) % (9999 : Int32)))), .val (.int ((x1 &&& (2147483647 : Int32)) % (13 : Int32))), .unset, .unset, .unset, .unset, .unset, .unset, .unset, .unset, .unset] [(.int ((x2 &&& (2147483647 : Int32)) % (32 : Int32)))]))
  refine own_go (fun t => XS.istore X.here hx rfl (hb hby at_27) rfl (l' := #[.val (.int x0), .val (.int x1), .val (.int x2), .val (.int ((1 : Int32) + ((x0 &&& (2147483647 : Int32)) % (9999 : Int32)))), .val (.int ((x1 &&& (2147483647 : Int32)) % (13 : Int32))), .val (.int ((x2 &&& (2147483647 : Int32)) % (32 : Int32))), .unset, .unset, .unset, .unset, .unset, .unset, .unset, .unset]) rfl) ?_
  show own_Fin p e below s (own_Q0 n0) room_1.cells room_1.slots (T.setTop (mkF m 29 #[.val (.int x0), .val (.int x1), .val (.int x2), .val (.int ((1 : Int32) + ((x0 &&& (2147483647 : Int32)) % (9999 : Int32)))), .val (.int ((x1 &&& (2147483647 : Int32)) % (13 : Int32))), .val (.int ((x2 &&& (2147483647 : Int32)) % (32 : Int32))), .unset, .unset, .unset, .unset, .unset, .unset, .unset, .unset] []))
  refine own_go (fun t => XS.iload X.here hx rfl (hb hby at_29) rfl) ?_
  show own_Fin p e below s (own_Q0 n0) room_1.cells room_1.slots (T.setTop (mkF m 31 #[.val (.int x0), .val (.int x1), .val (.int x2), .val (.int ((1 : Int32) + ((x0 &&& (2147483647 : Int32)) % (9999 : Int32)))), .val (.int ((x1 &&& (2147483647 : Int32)) % (13 : Int32))), .val (.int ((x2 &&& (2147483647 : Int32)) % (32 : Int32))), .unset, .unset, .unset, .unset, .unset, .unset, .unset, .unset] [(.int ((x1 &&& (2147483647 : Int32)) % (13 : Int32)))]))
  have hY := own_year x0
  have hM := own_modpos x1 13 13 (by decide) (by decide)
  have hD := own_modpos x2 32 32 (by decide) (by decide)
  generalize ((1 : Int32) + ((x0 &&& (2147483647 : Int32)) % (9999 : Int32))) = Y at hY ⊢
  generalize ((x1 &&& (2147483647 : Int32)) % (13 : Int32)) = M at hM ⊢
  generalize ((x2 &&& (2147483647 : Int32)) % (32 : Int32)) = D at hD ⊢
  show own_Fin p e below s (own_Q0 n0) room_1.cells room_1.slots (T.setTop (mkF m 31 #[.val (.int x0), .val (.int x1), .val (.int x2), .val (.int Y), .val (.int M), .val (.int D), .unset, .unset, .unset, .unset, .unset, .unset, .unset, .unset] [(.int M)]))
  have J : ∀ D1 : Int32, (0 ≤ D1.toInt ∧ D1.toInt < 32) → (¬ D1 = (0 : Int32) → ¬ M = (0 : Int32)) → own_Fin p e below s (own_Q0 n0) room_1.cells room_1.slots (T.setTop (mkF m 37 #[.val (.int x0), .val (.int x1), .val (.int x2), .val (.int Y), .val (.int M), .val (.int D1), .unset, .unset, .unset, .unset, .unset, .unset, .unset, .unset] [])) := by
    intro D1 hD1 hDM
    show own_Fin p e below s (own_Q0 n0) room_1.cells room_1.slots (T.setTop (mkF m 37 #[.val (.int x0), .val (.int x1), .val (.int x2), .val (.int Y), .val (.int M), .val (.int D1), .unset, .unset, .unset, .unset, .unset, .unset, .unset, .unset] []))
    obtain ⟨T101, h101, X101, e101, E101, A101, D101, -, st101⟩ := newO X hx hZ hown (hw _ (List.mem_of_getElem? (i := 1) rfl)) (hw _ (List.mem_of_getElem? (i := 2) rfl)) (hw _ (List.mem_of_getElem? (i := 3) rfl)) hh (g := (mkF m 37 #[.val (.int x0), .val (.int x1), .val (.int x2), .val (.int Y), .val (.int M), .val (.int D1), .unset, .unset, .unset, .unset, .unset, .unset, .unset, .unset] [])) rfl (hb hby at_37) (by decide) (by decide)
    obtain ⟨b101, g101⟩ : ∃ z, z = Array.size h0 := ⟨_, rfl⟩
    rw [← g101] at A101 D101 st101
    have F101_year : Fld Z h101 b101 "com/example/fondmark/fondmark/core/PartialDate" "year" "I" (.int (0 : Int32)) := D101 (Or.inr (hw _ (List.mem_of_getElem? (i := 16) rfl))) (ty := .int) (by decide)
    have F101_month : Fld Z h101 b101 "com/example/fondmark/fondmark/core/PartialDate" "month" "I" (.int (0 : Int32)) := D101 (Or.inr (hw _ (List.mem_of_getElem? (i := 18) rfl))) (ty := .int) (by decide)
    have F101_day : Fld Z h101 b101 "com/example/fondmark/fondmark/core/PartialDate" "day" "I" (.int (0 : Int32)) := D101 (Or.inr (hw _ (List.mem_of_getElem? (i := 20) rfl))) (ty := .int) (by decide)
    have sz_b101 : Array.size h0 ≤ b101 := by rw [g101]; exact KK0.1
    have G_b101 : n0 ≤ b101 := Nat.le_trans Z0 sz_b101
    have KK101 := KK0.ext E101
    refine own_go (fun t => st101 t) ?_
    show own_Fin p e below s (own_Q0 n0) room_1.cells room_1.slots (T101.setTop (mkF m 40 #[.val (.int x0), .val (.int x1), .val (.int x2), .val (.int Y), .val (.int M), .val (.int D1), .unset, .unset, .unset, .unset, .unset, .unset, .unset, .unset] [(.ref b101)]))
    refine own_go (fun t => XS.dup X101.here hx rfl (hb hby at_40) rfl rfl) ?_
    show own_Fin p e below s (own_Q0 n0) room_1.cells room_1.slots (T101.setTop (mkF m 41 #[.val (.int x0), .val (.int x1), .val (.int x2), .val (.int Y), .val (.int M), .val (.int D1), .unset, .unset, .unset, .unset, .unset, .unset, .unset, .unset] [(.ref b101), (.ref b101)]))
    refine own_go (fun t => XS.iloadN X101.here hx rfl (hb hby at_41) rfl) ?_
    show own_Fin p e below s (own_Q0 n0) room_1.cells room_1.slots (T101.setTop (mkF m 42 #[.val (.int x0), .val (.int x1), .val (.int x2), .val (.int Y), .val (.int M), .val (.int D1), .unset, .unset, .unset, .unset, .unset, .unset, .unset, .unset] [(.int Y), (.ref b101), (.ref b101)]))
    refine own_go (fun t => XS.iload X101.here hx rfl (hb hby at_42) rfl) ?_
    show own_Fin p e below s (own_Q0 n0) room_1.cells room_1.slots (T101.setTop (mkF m 44 #[.val (.int x0), .val (.int x1), .val (.int x2), .val (.int Y), .val (.int M), .val (.int D1), .unset, .unset, .unset, .unset, .unset, .unset, .unset, .unset] [(.int M), (.int Y), (.ref b101), (.ref b101)]))
    refine own_go (fun t => XS.iload X101.here hx rfl (hb hby at_44) rfl) ?_
    show own_Fin p e below s (own_Q0 n0) room_1.cells room_1.slots (T101.setTop (mkF m 46 #[.val (.int x0), .val (.int x1), .val (.int x2), .val (.int Y), .val (.int M), .val (.int D1), .unset, .unset, .unset, .unset, .unset, .unset, .unset, .unset] [(.int D1), (.int M), (.int Y), (.ref b101), (.ref b101)]))
    obtain ⟨_, T102, L102, X102, ⟨rfl, Nq102, K102, hE102, hy102, hm102, hd102⟩, st102⟩ := own_callI X101 hx hZ e101 (y := (⟨"com/example/fondmark/fondmark/core/PartialDate", "<init>", "(III)V"⟩ : MethodName)) rfl hown (hw _ (List.mem_of_getElem? (i := 4) rfl)) (hw _ (List.mem_of_getElem? (i := 5) rfl)) (hw _ (List.mem_of_getElem? (i := 3) rfl)) (hw _ (List.mem_of_getElem? (i := 6) rfl)) (by decide) (a := b101) (argsL := [(.int Y), (.int M), (.int D1)]) (rest := [(.ref b101)]) (own_ini l Z a0 hw b101 Y M D1 h101 n0 (Nat.le_trans Z0 KK101.1) G_b101 A101 F101_year F101_month F101_day (own_nlt 1 (by decide) hY.1) (own_ngt 9999 (by decide) hY.2) (own_nlt 0 (by decide) hM.1) (own_ngt 12 (by decide) (by omega)) (own_nlt 0 (by decide) hD1.1) (own_ngt 31 (by decide) (by omega)) hDM) (by decide) 1 (by decide) (by decide) (by decide) (g := (mkF m 46 #[.val (.int x0), .val (.int x1), .val (.int x2), .val (.int Y), .val (.int M), .val (.int D1), .unset, .unset, .unset, .unset, .unset, .unset, .unset, .unset] [(.int D1), (.int M), (.int Y), (.ref b101), (.ref b101)])) rfl (by rw [hml]; rfl) (lenOf own_pd1 rfl) rfl (by show 2 * 0 + _ ≤ _; exact Nat.le_of_eq rfl) (hb hby at_46)
    have N102 := Fr.app N0 Nq102
    have E_b101_102 := A101.keep K102
    have KK102 := KK101.trans K102 (allS (Or.inr sz_b101) all0)
    refine own_go st102 ?_
    show own_Fin p e below s (own_Q0 n0) room_1.cells room_1.slots (T102.setTop (mkF m 49 #[.val (.int x0), .val (.int x1), .val (.int x2), .val (.int Y), .val (.int M), .val (.int D1), .unset, .unset, .unset, .unset, .unset, .unset, .unset, .unset] [(.ref b101)]))
    refine own_go (fun t => XS.astore X102.here hx rfl (hb hby at_49) rfl rfl (l' := #[.val (.int x0), .val (.int x1), .val (.int x2), .val (.int Y), .val (.int M), .val (.int D1), .val (.ref b101), .unset, .unset, .unset, .unset, .unset, .unset, .unset]) rfl) ?_
    show own_Fin p e below s (own_Q0 n0) room_1.cells room_1.slots (T102.setTop (mkF m 51 #[.val (.int x0), .val (.int x1), .val (.int x2), .val (.int Y), .val (.int M), .val (.int D1), .val (.ref b101), .unset, .unset, .unset, .unset, .unset, .unset, .unset] []))
    refine own_go (fun t => XS.aload X102.here hx rfl (hb hby at_51) rfl rfl) ?_
    show own_Fin p e below s (own_Q0 n0) room_1.cells room_1.slots (T102.setTop (mkF m 53 #[.val (.int x0), .val (.int x1), .val (.int x2), .val (.int Y), .val (.int M), .val (.int D1), .val (.ref b101), .unset, .unset, .unset, .unset, .unset, .unset, .unset] [(.ref b101)]))
    obtain ⟨T103, X103, e103, st103⟩ := own_callVP X102 hx hZ rfl (y := (⟨"com/example/fondmark/fondmark/core/PartialDate", "latest", "()I"⟩ : MethodName)) hown (hw _ (List.mem_of_getElem? (i := 21) rfl)) (hw _ (List.mem_of_getElem? (i := 22) rfl)) (hw _ (List.mem_of_getElem? (i := 24) rfl)) (hw _ (List.mem_of_getElem? (i := 23) rfl)) (hw _ (List.mem_of_getElem? (i := 3) rfl)) (hw _ (List.mem_of_getElem? (i := 25) rfl)) (by decide) (a := b101) hE102 (argsL := []) (rest := []) (own_met l Z a0 hw b101 Y M D1 _ 0 (Nat.zero_le _) hy102 hm102 hd102) (by decide) 0 (by decide) (by decide) (by decide) (g := (mkF m 53 #[.val (.int x0), .val (.int x1), .val (.int x2), .val (.int Y), .val (.int M), .val (.int D1), .val (.ref b101), .unset, .unset, .unset, .unset, .unset, .unset, .unset] [(.ref b101)])) rfl (by rw [hml]; rfl) (lenOf own_pd2 rfl) rfl (by show 2 * 0 + _ ≤ _; exact Nat.le_of_eq rfl) (hb hby at_53)
    refine own_go st103 ?_
    show own_Fin p e below s (own_Q0 n0) room_1.cells room_1.slots (T103.setTop (mkF m 56 #[.val (.int x0), .val (.int x1), .val (.int x2), .val (.int Y), .val (.int M), .val (.int D1), .val (.ref b101), .unset, .unset, .unset, .unset, .unset, .unset, .unset] [(.int (own_val Y M D1))]))
    refine own_go (fun t => XS.istore X103.here hx rfl (hb hby at_56) rfl (l' := #[.val (.int x0), .val (.int x1), .val (.int x2), .val (.int Y), .val (.int M), .val (.int D1), .val (.ref b101), .val (.int (own_val Y M D1)), .unset, .unset, .unset, .unset, .unset, .unset]) rfl) ?_
    show own_Fin p e below s (own_Q0 n0) room_1.cells room_1.slots (T103.setTop (mkF m 58 #[.val (.int x0), .val (.int x1), .val (.int x2), .val (.int Y), .val (.int M), .val (.int D1), .val (.ref b101), .val (.int (own_val Y M D1)), .unset, .unset, .unset, .unset, .unset, .unset] []))
    refine own_go (fun t => XS.iload X103.here hx rfl (hb hby at_58) rfl) ?_
    show own_Fin p e below s (own_Q0 n0) room_1.cells room_1.slots (T103.setTop (mkF m 60 #[.val (.int x0), .val (.int x1), .val (.int x2), .val (.int Y), .val (.int M), .val (.int D1), .val (.ref b101), .val (.int (own_val Y M D1)), .unset, .unset, .unset, .unset, .unset, .unset] [(.int (own_val Y M D1))]))
    obtain ⟨m1, em1, hm1⟩ : ∃ z : Int32, z = (if M = (0 : Int32) then (12 : Int32) else M) ∧ (1 ≤ z.toInt ∧ z.toInt ≤ 12) := ⟨_, rfl, by
      by_cases q : M = (0 : Int32)
      · rw [if_pos q]; decide
      · rw [if_neg q]
        have q' : ¬ M.toInt = 0 := fun t => q (Int32.toInt_inj.mp t)
        omega⟩
    obtain ⟨d1, ed1, hd1⟩ : ∃ z : Int32, z = (if D1 = (0 : Int32) then (31 : Int32) else D1) ∧ (1 ≤ z.toInt ∧ z.toInt ≤ 31) := ⟨_, rfl, by
      by_cases q : D1 = (0 : Int32)
      · rw [if_pos q]; decide
      · rw [if_neg q]
        have q' : ¬ D1.toInt = 0 := fun t => q (Int32.toInt_inj.mp t)
        omega⟩
    have hv : own_val Y M D1 = (Y * (10000 : Int32) + m1 * (100 : Int32)) + d1 := by rw [em1, ed1]; rfl
    obtain ⟨v0, v1, v2, v3⟩ := own_arith Y m1 d1 _ hY hm1 hd1 hv
    refine own_go (fun t => XS.ifYes X103.here hx rfl (pc0 := 60) (pc' := 65) rfl (hb hby at_60) rfl ((if0 _ _).trans (flt (own_nlt 0 (by decide) v0)).2.1) (by decide) (by decide)) ?_
    show own_Fin p e below s (own_Q0 n0) room_1.cells room_1.slots (T103.setTop (mkF m 65 #[.val (.int x0), .val (.int x1), .val (.int x2), .val (.int Y), .val (.int M), .val (.int D1), .val (.ref b101), .val (.int (own_val Y M D1)), .unset, .unset, .unset, .unset, .unset, .unset] []))
    refine own_go (fun t => XS.iload X103.here hx rfl (hb hby at_65) rfl) ?_
    show own_Fin p e below s (own_Q0 n0) room_1.cells room_1.slots (T103.setTop (mkF m 67 #[.val (.int x0), .val (.int x1), .val (.int x2), .val (.int Y), .val (.int M), .val (.int D1), .val (.ref b101), .val (.int (own_val Y M D1)), .unset, .unset, .unset, .unset, .unset, .unset] [(.int (own_val Y M D1))]))
    refine own_go (fun t => XS.sipush X103.here hx rfl (hb hby at_67)) ?_
    show own_Fin p e below s (own_Q0 n0) room_1.cells room_1.slots (T103.setTop (mkF m 70 #[.val (.int x0), .val (.int x1), .val (.int x2), .val (.int Y), .val (.int M), .val (.int D1), .val (.ref b101), .val (.int (own_val Y M D1)), .unset, .unset, .unset, .unset, .unset, .unset] [(.int (10000 : Int32)), (.int (own_val Y M D1))]))
    refine own_go (fun t => XS.idiv X103.here hx rfl (hb hby at_70) rfl (by decide)) ?_
    show own_Fin p e below s (own_Q0 n0) room_1.cells room_1.slots (T103.setTop (mkF m 71 #[.val (.int x0), .val (.int x1), .val (.int x2), .val (.int Y), .val (.int M), .val (.int D1), .val (.ref b101), .val (.int (own_val Y M D1)), .unset, .unset, .unset, .unset, .unset, .unset] [(.int ((own_val Y M D1) / (10000 : Int32)))]))
    refine own_go (fun t => XS.istore X103.here hx rfl (hb hby at_71) rfl (l' := #[.val (.int x0), .val (.int x1), .val (.int x2), .val (.int Y), .val (.int M), .val (.int D1), .val (.ref b101), .val (.int (own_val Y M D1)), .val (.int ((own_val Y M D1) / (10000 : Int32))), .unset, .unset, .unset, .unset, .unset]) rfl) ?_
    show own_Fin p e below s (own_Q0 n0) room_1.cells room_1.slots (T103.setTop (mkF m 73 #[.val (.int x0), .val (.int x1), .val (.int x2), .val (.int Y), .val (.int M), .val (.int D1), .val (.ref b101), .val (.int (own_val Y M D1)), .val (.int ((own_val Y M D1) / (10000 : Int32))), .unset, .unset, .unset, .unset, .unset] []))
    refine own_go (fun t => XS.iload X103.here hx rfl (hb hby at_73) rfl) ?_
    show own_Fin p e below s (own_Q0 n0) room_1.cells room_1.slots (T103.setTop (mkF m 75 #[.val (.int x0), .val (.int x1), .val (.int x2), .val (.int Y), .val (.int M), .val (.int D1), .val (.ref b101), .val (.int (own_val Y M D1)), .val (.int ((own_val Y M D1) / (10000 : Int32))), .unset, .unset, .unset, .unset, .unset] [(.int (own_val Y M D1))]))
    refine own_go (fun t => XS.bipush X103.here hx rfl (hb hby at_75)) ?_
    show own_Fin p e below s (own_Q0 n0) room_1.cells room_1.slots (T103.setTop (mkF m 77 #[.val (.int x0), .val (.int x1), .val (.int x2), .val (.int Y), .val (.int M), .val (.int D1), .val (.ref b101), .val (.int (own_val Y M D1)), .val (.int ((own_val Y M D1) / (10000 : Int32))), .unset, .unset, .unset, .unset, .unset] [(.int (100 : Int32)), (.int (own_val Y M D1))]))
    refine own_go (fun t => XS.idiv X103.here hx rfl (hb hby at_77) rfl (by decide)) ?_
    show own_Fin p e below s (own_Q0 n0) room_1.cells room_1.slots (T103.setTop (mkF m 78 #[.val (.int x0), .val (.int x1), .val (.int x2), .val (.int Y), .val (.int M), .val (.int D1), .val (.ref b101), .val (.int (own_val Y M D1)), .val (.int ((own_val Y M D1) / (10000 : Int32))), .unset, .unset, .unset, .unset, .unset] [(.int ((own_val Y M D1) / (100 : Int32)))]))
    refine own_go (fun t => XS.bipush X103.here hx rfl (hb hby at_78)) ?_
    show own_Fin p e below s (own_Q0 n0) room_1.cells room_1.slots (T103.setTop (mkF m 80 #[.val (.int x0), .val (.int x1), .val (.int x2), .val (.int Y), .val (.int M), .val (.int D1), .val (.ref b101), .val (.int (own_val Y M D1)), .val (.int ((own_val Y M D1) / (10000 : Int32))), .unset, .unset, .unset, .unset, .unset] [(.int (100 : Int32)), (.int ((own_val Y M D1) / (100 : Int32)))]))
    refine own_go (fun t => Jvm.RoadKit.iremM X103 hx rfl (hb hby at_80) rfl (by decide)) ?_
    show own_Fin p e below s (own_Q0 n0) room_1.cells room_1.slots (T103.setTop (mkF m 81 #[.val (.int x0), .val (.int x1), .val (.int x2), .val (.int Y), .val (.int M), .val (.int D1), .val (.ref b101), .val (.int (own_val Y M D1)), .val (.int ((own_val Y M D1) / (10000 : Int32))), .unset, .unset, .unset, .unset, .unset] [(.int (((own_val Y M D1) / (100 : Int32)) % (100 : Int32)))]))
    refine own_go (fun t => XS.istore X103.here hx rfl (hb hby at_81) rfl (l' := #[.val (.int x0), .val (.int x1), .val (.int x2), .val (.int Y), .val (.int M), .val (.int D1), .val (.ref b101), .val (.int (own_val Y M D1)), .val (.int ((own_val Y M D1) / (10000 : Int32))), .val (.int (((own_val Y M D1) / (100 : Int32)) % (100 : Int32))), .unset, .unset, .unset, .unset]) rfl) ?_
    show own_Fin p e below s (own_Q0 n0) room_1.cells room_1.slots (T103.setTop (mkF m 83 #[.val (.int x0), .val (.int x1), .val (.int x2), .val (.int Y), .val (.int M), .val (.int D1), .val (.ref b101), .val (.int (own_val Y M D1)), .val (.int ((own_val Y M D1) / (10000 : Int32))), .val (.int (((own_val Y M D1) / (100 : Int32)) % (100 : Int32))), .unset, .unset, .unset, .unset] []))
    refine own_go (fun t => XS.iload X103.here hx rfl (hb hby at_83) rfl) ?_
    show own_Fin p e below s (own_Q0 n0) room_1.cells room_1.slots (T103.setTop (mkF m 85 #[.val (.int x0), .val (.int x1), .val (.int x2), .val (.int Y), .val (.int M), .val (.int D1), .val (.ref b101), .val (.int (own_val Y M D1)), .val (.int ((own_val Y M D1) / (10000 : Int32))), .val (.int (((own_val Y M D1) / (100 : Int32)) % (100 : Int32))), .unset, .unset, .unset, .unset] [(.int (own_val Y M D1))]))
    refine own_go (fun t => XS.bipush X103.here hx rfl (hb hby at_85)) ?_
    show own_Fin p e below s (own_Q0 n0) room_1.cells room_1.slots (T103.setTop (mkF m 87 #[.val (.int x0), .val (.int x1), .val (.int x2), .val (.int Y), .val (.int M), .val (.int D1), .val (.ref b101), .val (.int (own_val Y M D1)), .val (.int ((own_val Y M D1) / (10000 : Int32))), .val (.int (((own_val Y M D1) / (100 : Int32)) % (100 : Int32))), .unset, .unset, .unset, .unset] [(.int (100 : Int32)), (.int (own_val Y M D1))]))
    refine own_go (fun t => Jvm.RoadKit.iremM X103 hx rfl (hb hby at_87) rfl (by decide)) ?_
    show own_Fin p e below s (own_Q0 n0) room_1.cells room_1.slots (T103.setTop (mkF m 88 #[.val (.int x0), .val (.int x1), .val (.int x2), .val (.int Y), .val (.int M), .val (.int D1), .val (.ref b101), .val (.int (own_val Y M D1)), .val (.int ((own_val Y M D1) / (10000 : Int32))), .val (.int (((own_val Y M D1) / (100 : Int32)) % (100 : Int32))), .unset, .unset, .unset, .unset] [(.int ((own_val Y M D1) % (100 : Int32)))]))
    refine own_go (fun t => XS.istore X103.here hx rfl (hb hby at_88) rfl (l' := #[.val (.int x0), .val (.int x1), .val (.int x2), .val (.int Y), .val (.int M), .val (.int D1), .val (.ref b101), .val (.int (own_val Y M D1)), .val (.int ((own_val Y M D1) / (10000 : Int32))), .val (.int (((own_val Y M D1) / (100 : Int32)) % (100 : Int32))), .val (.int ((own_val Y M D1) % (100 : Int32))), .unset, .unset, .unset]) rfl) ?_
    show own_Fin p e below s (own_Q0 n0) room_1.cells room_1.slots (T103.setTop (mkF m 90 #[.val (.int x0), .val (.int x1), .val (.int x2), .val (.int Y), .val (.int M), .val (.int D1), .val (.ref b101), .val (.int (own_val Y M D1)), .val (.int ((own_val Y M D1) / (10000 : Int32))), .val (.int (((own_val Y M D1) / (100 : Int32)) % (100 : Int32))), .val (.int ((own_val Y M D1) % (100 : Int32))), .unset, .unset, .unset] []))
    refine own_go (fun t => XS.iload X103.here hx rfl (hb hby at_90) rfl) ?_
    show own_Fin p e below s (own_Q0 n0) room_1.cells room_1.slots (T103.setTop (mkF m 92 #[.val (.int x0), .val (.int x1), .val (.int x2), .val (.int Y), .val (.int M), .val (.int D1), .val (.ref b101), .val (.int (own_val Y M D1)), .val (.int ((own_val Y M D1) / (10000 : Int32))), .val (.int (((own_val Y M D1) / (100 : Int32)) % (100 : Int32))), .val (.int ((own_val Y M D1) % (100 : Int32))), .unset, .unset, .unset] [(.int ((own_val Y M D1) / (10000 : Int32)))]))
    refine own_go (fun t => XS.iloadN X103.here hx rfl (hb hby at_92) rfl) ?_
    show own_Fin p e below s (own_Q0 n0) room_1.cells room_1.slots (T103.setTop (mkF m 93 #[.val (.int x0), .val (.int x1), .val (.int x2), .val (.int Y), .val (.int M), .val (.int D1), .val (.ref b101), .val (.int (own_val Y M D1)), .val (.int ((own_val Y M D1) / (10000 : Int32))), .val (.int (((own_val Y M D1) / (100 : Int32)) % (100 : Int32))), .val (.int ((own_val Y M D1) % (100 : Int32))), .unset, .unset, .unset] [(.int Y), (.int ((own_val Y M D1) / (10000 : Int32)))]))
    refine own_go (fun t => XS.icmpNo X103.here hx rfl (hb hby at_93) rfl (teq v1).2) ?_
    show own_Fin p e below s (own_Q0 n0) room_1.cells room_1.slots (T103.setTop (mkF m 96 #[.val (.int x0), .val (.int x1), .val (.int x2), .val (.int Y), .val (.int M), .val (.int D1), .val (.ref b101), .val (.int (own_val Y M D1)), .val (.int ((own_val Y M D1) / (10000 : Int32))), .val (.int (((own_val Y M D1) / (100 : Int32)) % (100 : Int32))), .val (.int ((own_val Y M D1) % (100 : Int32))), .unset, .unset, .unset] []))
    refine own_go (fun t => XS.iconst X103.here hx rfl (hb hby at_96)) ?_
    show own_Fin p e below s (own_Q0 n0) room_1.cells room_1.slots (T103.setTop (mkF m 97 #[.val (.int x0), .val (.int x1), .val (.int x2), .val (.int Y), .val (.int M), .val (.int D1), .val (.ref b101), .val (.int (own_val Y M D1)), .val (.int ((own_val Y M D1) / (10000 : Int32))), .val (.int (((own_val Y M D1) / (100 : Int32)) % (100 : Int32))), .val (.int ((own_val Y M D1) % (100 : Int32))), .unset, .unset, .unset] [(.int (1 : Int32))]))
    refine own_go (fun t => XS.goto X103.here hx rfl (pc0 := 97) (pc' := 101) rfl (hb hby at_97) (by decide) (by decide)) ?_
    show own_Fin p e below s (own_Q0 n0) room_1.cells room_1.slots (T103.setTop (mkF m 101 #[.val (.int x0), .val (.int x1), .val (.int x2), .val (.int Y), .val (.int M), .val (.int D1), .val (.ref b101), .val (.int (own_val Y M D1)), .val (.int ((own_val Y M D1) / (10000 : Int32))), .val (.int (((own_val Y M D1) / (100 : Int32)) % (100 : Int32))), .val (.int ((own_val Y M D1) % (100 : Int32))), .unset, .unset, .unset] [(.int (1 : Int32))]))
    refine own_go (fun t => XS.istore X103.here hx rfl (hb hby at_101) rfl (l' := #[.val (.int x0), .val (.int x1), .val (.int x2), .val (.int Y), .val (.int M), .val (.int D1), .val (.ref b101), .val (.int (own_val Y M D1)), .val (.int ((own_val Y M D1) / (10000 : Int32))), .val (.int (((own_val Y M D1) / (100 : Int32)) % (100 : Int32))), .val (.int ((own_val Y M D1) % (100 : Int32))), .val (.int (1 : Int32)), .unset, .unset]) rfl) ?_
    show own_Fin p e below s (own_Q0 n0) room_1.cells room_1.slots (T103.setTop (mkF m 103 #[.val (.int x0), .val (.int x1), .val (.int x2), .val (.int Y), .val (.int M), .val (.int D1), .val (.ref b101), .val (.int (own_val Y M D1)), .val (.int ((own_val Y M D1) / (10000 : Int32))), .val (.int (((own_val Y M D1) / (100 : Int32)) % (100 : Int32))), .val (.int ((own_val Y M D1) % (100 : Int32))), .val (.int (1 : Int32)), .unset, .unset] []))
    refine own_go (fun t => XS.iload X103.here hx rfl (hb hby at_103) rfl) ?_
    show own_Fin p e below s (own_Q0 n0) room_1.cells room_1.slots (T103.setTop (mkF m 105 #[.val (.int x0), .val (.int x1), .val (.int x2), .val (.int Y), .val (.int M), .val (.int D1), .val (.ref b101), .val (.int (own_val Y M D1)), .val (.int ((own_val Y M D1) / (10000 : Int32))), .val (.int (((own_val Y M D1) / (100 : Int32)) % (100 : Int32))), .val (.int ((own_val Y M D1) % (100 : Int32))), .val (.int (1 : Int32)), .unset, .unset] [(.int M)]))
    by_cases h105 : M = (0 : Int32)
    · refine own_go (fun t => XS.ifYes X103.here hx rfl (pc0 := 105) (pc' := 125) rfl (hb hby at_105) rfl ((if0 _ _).trans (teq h105).1) (by decide) (by decide)) ?_
      show own_Fin p e below s (own_Q0 n0) room_1.cells room_1.slots (T103.setTop (mkF m 125 #[.val (.int x0), .val (.int x1), .val (.int x2), .val (.int Y), .val (.int M), .val (.int D1), .val (.ref b101), .val (.int (own_val Y M D1)), .val (.int ((own_val Y M D1) / (10000 : Int32))), .val (.int (((own_val Y M D1) / (100 : Int32)) % (100 : Int32))), .val (.int ((own_val Y M D1) % (100 : Int32))), .val (.int (1 : Int32)), .unset, .unset] []))
      refine own_go (fun t => XS.iload X103.here hx rfl (hb hby at_125) rfl) ?_
      show own_Fin p e below s (own_Q0 n0) room_1.cells room_1.slots (T103.setTop (mkF m 127 #[.val (.int x0), .val (.int x1), .val (.int x2), .val (.int Y), .val (.int M), .val (.int D1), .val (.ref b101), .val (.int (own_val Y M D1)), .val (.int ((own_val Y M D1) / (10000 : Int32))), .val (.int (((own_val Y M D1) / (100 : Int32)) % (100 : Int32))), .val (.int ((own_val Y M D1) % (100 : Int32))), .val (.int (1 : Int32)), .unset, .unset] [(.int (((own_val Y M D1) / (100 : Int32)) % (100 : Int32)))]))
      refine own_go (fun t => XS.bipush X103.here hx rfl (hb hby at_127)) ?_
      show own_Fin p e below s (own_Q0 n0) room_1.cells room_1.slots (T103.setTop (mkF m 129 #[.val (.int x0), .val (.int x1), .val (.int x2), .val (.int Y), .val (.int M), .val (.int D1), .val (.ref b101), .val (.int (own_val Y M D1)), .val (.int ((own_val Y M D1) / (10000 : Int32))), .val (.int (((own_val Y M D1) / (100 : Int32)) % (100 : Int32))), .val (.int ((own_val Y M D1) % (100 : Int32))), .val (.int (1 : Int32)), .unset, .unset] [(.int (12 : Int32)), (.int (((own_val Y M D1) / (100 : Int32)) % (100 : Int32)))]))
      refine own_go (fun t => XS.icmpNo X103.here hx rfl (hb hby at_129) rfl (teq (v2.trans (em1.trans (if_pos h105)))).2) ?_
      show own_Fin p e below s (own_Q0 n0) room_1.cells room_1.slots (T103.setTop (mkF m 132 #[.val (.int x0), .val (.int x1), .val (.int x2), .val (.int Y), .val (.int M), .val (.int D1), .val (.ref b101), .val (.int (own_val Y M D1)), .val (.int ((own_val Y M D1) / (10000 : Int32))), .val (.int (((own_val Y M D1) / (100 : Int32)) % (100 : Int32))), .val (.int ((own_val Y M D1) % (100 : Int32))), .val (.int (1 : Int32)), .unset, .unset] []))
      refine own_go (fun t => XS.iconst X103.here hx rfl (hb hby at_132)) ?_
      show own_Fin p e below s (own_Q0 n0) room_1.cells room_1.slots (T103.setTop (mkF m 133 #[.val (.int x0), .val (.int x1), .val (.int x2), .val (.int Y), .val (.int M), .val (.int D1), .val (.ref b101), .val (.int (own_val Y M D1)), .val (.int ((own_val Y M D1) / (10000 : Int32))), .val (.int (((own_val Y M D1) / (100 : Int32)) % (100 : Int32))), .val (.int ((own_val Y M D1) % (100 : Int32))), .val (.int (1 : Int32)), .unset, .unset] [(.int (1 : Int32))]))
      refine own_go (fun t => XS.goto X103.here hx rfl (pc0 := 133) (pc' := 137) rfl (hb hby at_133) (by decide) (by decide)) ?_
      show own_Fin p e below s (own_Q0 n0) room_1.cells room_1.slots (T103.setTop (mkF m 137 #[.val (.int x0), .val (.int x1), .val (.int x2), .val (.int Y), .val (.int M), .val (.int D1), .val (.ref b101), .val (.int (own_val Y M D1)), .val (.int ((own_val Y M D1) / (10000 : Int32))), .val (.int (((own_val Y M D1) / (100 : Int32)) % (100 : Int32))), .val (.int ((own_val Y M D1) % (100 : Int32))), .val (.int (1 : Int32)), .unset, .unset] [(.int (1 : Int32))]))
      refine own_go (fun t => XS.istore X103.here hx rfl (hb hby at_137) rfl (l' := #[.val (.int x0), .val (.int x1), .val (.int x2), .val (.int Y), .val (.int M), .val (.int D1), .val (.ref b101), .val (.int (own_val Y M D1)), .val (.int ((own_val Y M D1) / (10000 : Int32))), .val (.int (((own_val Y M D1) / (100 : Int32)) % (100 : Int32))), .val (.int ((own_val Y M D1) % (100 : Int32))), .val (.int (1 : Int32)), .val (.int (1 : Int32)), .unset]) rfl) ?_
      show own_Fin p e below s (own_Q0 n0) room_1.cells room_1.slots (T103.setTop (mkF m 139 #[.val (.int x0), .val (.int x1), .val (.int x2), .val (.int Y), .val (.int M), .val (.int D1), .val (.ref b101), .val (.int (own_val Y M D1)), .val (.int ((own_val Y M D1) / (10000 : Int32))), .val (.int (((own_val Y M D1) / (100 : Int32)) % (100 : Int32))), .val (.int ((own_val Y M D1) % (100 : Int32))), .val (.int (1 : Int32)), .val (.int (1 : Int32)), .unset] []))
      refine own_go (fun t => XS.iload X103.here hx rfl (hb hby at_139) rfl) ?_
      show own_Fin p e below s (own_Q0 n0) room_1.cells room_1.slots (T103.setTop (mkF m 141 #[.val (.int x0), .val (.int x1), .val (.int x2), .val (.int Y), .val (.int M), .val (.int D1), .val (.ref b101), .val (.int (own_val Y M D1)), .val (.int ((own_val Y M D1) / (10000 : Int32))), .val (.int (((own_val Y M D1) / (100 : Int32)) % (100 : Int32))), .val (.int ((own_val Y M D1) % (100 : Int32))), .val (.int (1 : Int32)), .val (.int (1 : Int32)), .unset] [(.int D1)]))
      by_cases h141 : D1 = (0 : Int32)
      · refine own_go (fun t => XS.ifYes X103.here hx rfl (pc0 := 141) (pc' := 161) rfl (hb hby at_141) rfl ((if0 _ _).trans (teq h141).1) (by decide) (by decide)) ?_
        show own_Fin p e below s (own_Q0 n0) room_1.cells room_1.slots (T103.setTop (mkF m 161 #[.val (.int x0), .val (.int x1), .val (.int x2), .val (.int Y), .val (.int M), .val (.int D1), .val (.ref b101), .val (.int (own_val Y M D1)), .val (.int ((own_val Y M D1) / (10000 : Int32))), .val (.int (((own_val Y M D1) / (100 : Int32)) % (100 : Int32))), .val (.int ((own_val Y M D1) % (100 : Int32))), .val (.int (1 : Int32)), .val (.int (1 : Int32)), .unset] []))
        refine own_go (fun t => XS.iload X103.here hx rfl (hb hby at_161) rfl) ?_
        show own_Fin p e below s (own_Q0 n0) room_1.cells room_1.slots (T103.setTop (mkF m 163 #[.val (.int x0), .val (.int x1), .val (.int x2), .val (.int Y), .val (.int M), .val (.int D1), .val (.ref b101), .val (.int (own_val Y M D1)), .val (.int ((own_val Y M D1) / (10000 : Int32))), .val (.int (((own_val Y M D1) / (100 : Int32)) % (100 : Int32))), .val (.int ((own_val Y M D1) % (100 : Int32))), .val (.int (1 : Int32)), .val (.int (1 : Int32)), .unset] [(.int ((own_val Y M D1) % (100 : Int32)))]))
        refine own_go (fun t => XS.bipush X103.here hx rfl (hb hby at_163)) ?_
        show own_Fin p e below s (own_Q0 n0) room_1.cells room_1.slots (T103.setTop (mkF m 165 #[.val (.int x0), .val (.int x1), .val (.int x2), .val (.int Y), .val (.int M), .val (.int D1), .val (.ref b101), .val (.int (own_val Y M D1)), .val (.int ((own_val Y M D1) / (10000 : Int32))), .val (.int (((own_val Y M D1) / (100 : Int32)) % (100 : Int32))), .val (.int ((own_val Y M D1) % (100 : Int32))), .val (.int (1 : Int32)), .val (.int (1 : Int32)), .unset] [(.int (31 : Int32)), (.int ((own_val Y M D1) % (100 : Int32)))]))
        refine own_go (fun t => XS.icmpNo X103.here hx rfl (hb hby at_165) rfl (teq (v3.trans (ed1.trans (if_pos h141)))).2) ?_
        show own_Fin p e below s (own_Q0 n0) room_1.cells room_1.slots (T103.setTop (mkF m 168 #[.val (.int x0), .val (.int x1), .val (.int x2), .val (.int Y), .val (.int M), .val (.int D1), .val (.ref b101), .val (.int (own_val Y M D1)), .val (.int ((own_val Y M D1) / (10000 : Int32))), .val (.int (((own_val Y M D1) / (100 : Int32)) % (100 : Int32))), .val (.int ((own_val Y M D1) % (100 : Int32))), .val (.int (1 : Int32)), .val (.int (1 : Int32)), .unset] []))
        refine own_go (fun t => XS.iconst X103.here hx rfl (hb hby at_168)) ?_
        show own_Fin p e below s (own_Q0 n0) room_1.cells room_1.slots (T103.setTop (mkF m 169 #[.val (.int x0), .val (.int x1), .val (.int x2), .val (.int Y), .val (.int M), .val (.int D1), .val (.ref b101), .val (.int (own_val Y M D1)), .val (.int ((own_val Y M D1) / (10000 : Int32))), .val (.int (((own_val Y M D1) / (100 : Int32)) % (100 : Int32))), .val (.int ((own_val Y M D1) % (100 : Int32))), .val (.int (1 : Int32)), .val (.int (1 : Int32)), .unset] [(.int (1 : Int32))]))
        refine own_go (fun t => XS.goto X103.here hx rfl (pc0 := 169) (pc' := 173) rfl (hb hby at_169) (by decide) (by decide)) ?_
        show own_Fin p e below s (own_Q0 n0) room_1.cells room_1.slots (T103.setTop (mkF m 173 #[.val (.int x0), .val (.int x1), .val (.int x2), .val (.int Y), .val (.int M), .val (.int D1), .val (.ref b101), .val (.int (own_val Y M D1)), .val (.int ((own_val Y M D1) / (10000 : Int32))), .val (.int (((own_val Y M D1) / (100 : Int32)) % (100 : Int32))), .val (.int ((own_val Y M D1) % (100 : Int32))), .val (.int (1 : Int32)), .val (.int (1 : Int32)), .unset] [(.int (1 : Int32))]))
        refine own_go (fun t => XS.istore X103.here hx rfl (hb hby at_173) rfl (l' := #[.val (.int x0), .val (.int x1), .val (.int x2), .val (.int Y), .val (.int M), .val (.int D1), .val (.ref b101), .val (.int (own_val Y M D1)), .val (.int ((own_val Y M D1) / (10000 : Int32))), .val (.int (((own_val Y M D1) / (100 : Int32)) % (100 : Int32))), .val (.int ((own_val Y M D1) % (100 : Int32))), .val (.int (1 : Int32)), .val (.int (1 : Int32)), .val (.int (1 : Int32))]) rfl) ?_
        show own_Fin p e below s (own_Q0 n0) room_1.cells room_1.slots (T103.setTop (mkF m 175 #[.val (.int x0), .val (.int x1), .val (.int x2), .val (.int Y), .val (.int M), .val (.int D1), .val (.ref b101), .val (.int (own_val Y M D1)), .val (.int ((own_val Y M D1) / (10000 : Int32))), .val (.int (((own_val Y M D1) / (100 : Int32)) % (100 : Int32))), .val (.int ((own_val Y M D1) % (100 : Int32))), .val (.int (1 : Int32)), .val (.int (1 : Int32)), .val (.int (1 : Int32))] []))
        refine own_go (fun t => XS.iload X103.here hx rfl (hb hby at_175) rfl) ?_
        show own_Fin p e below s (own_Q0 n0) room_1.cells room_1.slots (T103.setTop (mkF m 177 #[.val (.int x0), .val (.int x1), .val (.int x2), .val (.int Y), .val (.int M), .val (.int D1), .val (.ref b101), .val (.int (own_val Y M D1)), .val (.int ((own_val Y M D1) / (10000 : Int32))), .val (.int (((own_val Y M D1) / (100 : Int32)) % (100 : Int32))), .val (.int ((own_val Y M D1) % (100 : Int32))), .val (.int (1 : Int32)), .val (.int (1 : Int32)), .val (.int (1 : Int32))] [(.int (1 : Int32))]))
        refine own_go (fun t => XS.ifNo X103.here hx rfl (hb hby at_177) rfl ((if0 _ _).trans (feq (by decide)).1)) ?_
        show own_Fin p e below s (own_Q0 n0) room_1.cells room_1.slots (T103.setTop (mkF m 180 #[.val (.int x0), .val (.int x1), .val (.int x2), .val (.int Y), .val (.int M), .val (.int D1), .val (.ref b101), .val (.int (own_val Y M D1)), .val (.int ((own_val Y M D1) / (10000 : Int32))), .val (.int (((own_val Y M D1) / (100 : Int32)) % (100 : Int32))), .val (.int ((own_val Y M D1) % (100 : Int32))), .val (.int (1 : Int32)), .val (.int (1 : Int32)), .val (.int (1 : Int32))] []))
        refine own_go (fun t => XS.iload X103.here hx rfl (hb hby at_180) rfl) ?_
        show own_Fin p e below s (own_Q0 n0) room_1.cells room_1.slots (T103.setTop (mkF m 182 #[.val (.int x0), .val (.int x1), .val (.int x2), .val (.int Y), .val (.int M), .val (.int D1), .val (.ref b101), .val (.int (own_val Y M D1)), .val (.int ((own_val Y M D1) / (10000 : Int32))), .val (.int (((own_val Y M D1) / (100 : Int32)) % (100 : Int32))), .val (.int ((own_val Y M D1) % (100 : Int32))), .val (.int (1 : Int32)), .val (.int (1 : Int32)), .val (.int (1 : Int32))] [(.int (1 : Int32))]))
        refine own_go (fun t => XS.ifNo X103.here hx rfl (hb hby at_182) rfl ((if0 _ _).trans (feq (by decide)).1)) ?_
        show own_Fin p e below s (own_Q0 n0) room_1.cells room_1.slots (T103.setTop (mkF m 185 #[.val (.int x0), .val (.int x1), .val (.int x2), .val (.int Y), .val (.int M), .val (.int D1), .val (.ref b101), .val (.int (own_val Y M D1)), .val (.int ((own_val Y M D1) / (10000 : Int32))), .val (.int (((own_val Y M D1) / (100 : Int32)) % (100 : Int32))), .val (.int ((own_val Y M D1) % (100 : Int32))), .val (.int (1 : Int32)), .val (.int (1 : Int32)), .val (.int (1 : Int32))] []))
        refine own_go (fun t => XS.iload X103.here hx rfl (hb hby at_185) rfl) ?_
        show own_Fin p e below s (own_Q0 n0) room_1.cells room_1.slots (T103.setTop (mkF m 187 #[.val (.int x0), .val (.int x1), .val (.int x2), .val (.int Y), .val (.int M), .val (.int D1), .val (.ref b101), .val (.int (own_val Y M D1)), .val (.int ((own_val Y M D1) / (10000 : Int32))), .val (.int (((own_val Y M D1) / (100 : Int32)) % (100 : Int32))), .val (.int ((own_val Y M D1) % (100 : Int32))), .val (.int (1 : Int32)), .val (.int (1 : Int32)), .val (.int (1 : Int32))] [(.int (1 : Int32))]))
        refine own_go (fun t => XS.ifNo X103.here hx rfl (hb hby at_187) rfl ((if0 _ _).trans (feq (by decide)).1)) ?_
        show own_Fin p e below s (own_Q0 n0) room_1.cells room_1.slots (T103.setTop (mkF m 190 #[.val (.int x0), .val (.int x1), .val (.int x2), .val (.int Y), .val (.int M), .val (.int D1), .val (.ref b101), .val (.int (own_val Y M D1)), .val (.int ((own_val Y M D1) / (10000 : Int32))), .val (.int (((own_val Y M D1) / (100 : Int32)) % (100 : Int32))), .val (.int ((own_val Y M D1) % (100 : Int32))), .val (.int (1 : Int32)), .val (.int (1 : Int32)), .val (.int (1 : Int32))] []))
        refine own_go (fun t => XS.iconst X103.here hx rfl (hb hby at_190)) ?_
        show own_Fin p e below s (own_Q0 n0) room_1.cells room_1.slots (T103.setTop (mkF m 191 #[.val (.int x0), .val (.int x1), .val (.int x2), .val (.int Y), .val (.int M), .val (.int D1), .val (.ref b101), .val (.int (own_val Y M D1)), .val (.int ((own_val Y M D1) / (10000 : Int32))), .val (.int (((own_val Y M D1) / (100 : Int32)) % (100 : Int32))), .val (.int ((own_val Y M D1) % (100 : Int32))), .val (.int (1 : Int32)), .val (.int (1 : Int32)), .val (.int (1 : Int32))] [(.int (1 : Int32))]))
        refine own_go (fun t => XS.goto X103.here hx rfl (pc0 := 191) (pc' := 195) rfl (hb hby at_191) (by decide) (by decide)) ?_
        show own_Fin p e below s (own_Q0 n0) room_1.cells room_1.slots (T103.setTop (mkF m 195 #[.val (.int x0), .val (.int x1), .val (.int x2), .val (.int Y), .val (.int M), .val (.int D1), .val (.ref b101), .val (.int (own_val Y M D1)), .val (.int ((own_val Y M D1) / (10000 : Int32))), .val (.int (((own_val Y M D1) / (100 : Int32)) % (100 : Int32))), .val (.int ((own_val Y M D1) % (100 : Int32))), .val (.int (1 : Int32)), .val (.int (1 : Int32)), .val (.int (1 : Int32))] [(.int (1 : Int32))]))
        exact own_ret X103 hlk hx (t := .boolean) hret rfl (Or.inl ⟨rfl, by simp, _, rfl⟩) (hb hby at_195) ⟨rfl, N102⟩ (by decide) (by decide)
      · refine own_go (fun t => XS.ifNo X103.here hx rfl (hb hby at_141) rfl ((if0 _ _).trans (feq h141).1)) ?_
        show own_Fin p e below s (own_Q0 n0) room_1.cells room_1.slots (T103.setTop (mkF m 144 #[.val (.int x0), .val (.int x1), .val (.int x2), .val (.int Y), .val (.int M), .val (.int D1), .val (.ref b101), .val (.int (own_val Y M D1)), .val (.int ((own_val Y M D1) / (10000 : Int32))), .val (.int (((own_val Y M D1) / (100 : Int32)) % (100 : Int32))), .val (.int ((own_val Y M D1) % (100 : Int32))), .val (.int (1 : Int32)), .val (.int (1 : Int32)), .unset] []))
        refine own_go (fun t => XS.iload X103.here hx rfl (hb hby at_144) rfl) ?_
        show own_Fin p e below s (own_Q0 n0) room_1.cells room_1.slots (T103.setTop (mkF m 146 #[.val (.int x0), .val (.int x1), .val (.int x2), .val (.int Y), .val (.int M), .val (.int D1), .val (.ref b101), .val (.int (own_val Y M D1)), .val (.int ((own_val Y M D1) / (10000 : Int32))), .val (.int (((own_val Y M D1) / (100 : Int32)) % (100 : Int32))), .val (.int ((own_val Y M D1) % (100 : Int32))), .val (.int (1 : Int32)), .val (.int (1 : Int32)), .unset] [(.int ((own_val Y M D1) % (100 : Int32)))]))
        refine own_go (fun t => XS.iload X103.here hx rfl (hb hby at_146) rfl) ?_
        show own_Fin p e below s (own_Q0 n0) room_1.cells room_1.slots (T103.setTop (mkF m 148 #[.val (.int x0), .val (.int x1), .val (.int x2), .val (.int Y), .val (.int M), .val (.int D1), .val (.ref b101), .val (.int (own_val Y M D1)), .val (.int ((own_val Y M D1) / (10000 : Int32))), .val (.int (((own_val Y M D1) / (100 : Int32)) % (100 : Int32))), .val (.int ((own_val Y M D1) % (100 : Int32))), .val (.int (1 : Int32)), .val (.int (1 : Int32)), .unset] [(.int D1), (.int ((own_val Y M D1) % (100 : Int32)))]))
        refine own_go (fun t => XS.icmpNo X103.here hx rfl (hb hby at_148) rfl (teq (v3.trans (ed1.trans (if_neg h141)))).2) ?_
        show own_Fin p e below s (own_Q0 n0) room_1.cells room_1.slots (T103.setTop (mkF m 151 #[.val (.int x0), .val (.int x1), .val (.int x2), .val (.int Y), .val (.int M), .val (.int D1), .val (.ref b101), .val (.int (own_val Y M D1)), .val (.int ((own_val Y M D1) / (10000 : Int32))), .val (.int (((own_val Y M D1) / (100 : Int32)) % (100 : Int32))), .val (.int ((own_val Y M D1) % (100 : Int32))), .val (.int (1 : Int32)), .val (.int (1 : Int32)), .unset] []))
        refine own_go (fun t => XS.iconst X103.here hx rfl (hb hby at_151)) ?_
        show own_Fin p e below s (own_Q0 n0) room_1.cells room_1.slots (T103.setTop (mkF m 152 #[.val (.int x0), .val (.int x1), .val (.int x2), .val (.int Y), .val (.int M), .val (.int D1), .val (.ref b101), .val (.int (own_val Y M D1)), .val (.int ((own_val Y M D1) / (10000 : Int32))), .val (.int (((own_val Y M D1) / (100 : Int32)) % (100 : Int32))), .val (.int ((own_val Y M D1) % (100 : Int32))), .val (.int (1 : Int32)), .val (.int (1 : Int32)), .unset] [(.int (1 : Int32))]))
        refine own_go (fun t => XS.goto X103.here hx rfl (pc0 := 152) (pc' := 156) rfl (hb hby at_152) (by decide) (by decide)) ?_
        show own_Fin p e below s (own_Q0 n0) room_1.cells room_1.slots (T103.setTop (mkF m 156 #[.val (.int x0), .val (.int x1), .val (.int x2), .val (.int Y), .val (.int M), .val (.int D1), .val (.ref b101), .val (.int (own_val Y M D1)), .val (.int ((own_val Y M D1) / (10000 : Int32))), .val (.int (((own_val Y M D1) / (100 : Int32)) % (100 : Int32))), .val (.int ((own_val Y M D1) % (100 : Int32))), .val (.int (1 : Int32)), .val (.int (1 : Int32)), .unset] [(.int (1 : Int32))]))
        refine own_go (fun t => XS.istore X103.here hx rfl (hb hby at_156) rfl (l' := #[.val (.int x0), .val (.int x1), .val (.int x2), .val (.int Y), .val (.int M), .val (.int D1), .val (.ref b101), .val (.int (own_val Y M D1)), .val (.int ((own_val Y M D1) / (10000 : Int32))), .val (.int (((own_val Y M D1) / (100 : Int32)) % (100 : Int32))), .val (.int ((own_val Y M D1) % (100 : Int32))), .val (.int (1 : Int32)), .val (.int (1 : Int32)), .val (.int (1 : Int32))]) rfl) ?_
        show own_Fin p e below s (own_Q0 n0) room_1.cells room_1.slots (T103.setTop (mkF m 158 #[.val (.int x0), .val (.int x1), .val (.int x2), .val (.int Y), .val (.int M), .val (.int D1), .val (.ref b101), .val (.int (own_val Y M D1)), .val (.int ((own_val Y M D1) / (10000 : Int32))), .val (.int (((own_val Y M D1) / (100 : Int32)) % (100 : Int32))), .val (.int ((own_val Y M D1) % (100 : Int32))), .val (.int (1 : Int32)), .val (.int (1 : Int32)), .val (.int (1 : Int32))] []))
        refine own_go (fun t => XS.goto X103.here hx rfl (pc0 := 158) (pc' := 175) rfl (hb hby at_158) (by decide) (by decide)) ?_
        show own_Fin p e below s (own_Q0 n0) room_1.cells room_1.slots (T103.setTop (mkF m 175 #[.val (.int x0), .val (.int x1), .val (.int x2), .val (.int Y), .val (.int M), .val (.int D1), .val (.ref b101), .val (.int (own_val Y M D1)), .val (.int ((own_val Y M D1) / (10000 : Int32))), .val (.int (((own_val Y M D1) / (100 : Int32)) % (100 : Int32))), .val (.int ((own_val Y M D1) % (100 : Int32))), .val (.int (1 : Int32)), .val (.int (1 : Int32)), .val (.int (1 : Int32))] []))
        refine own_go (fun t => XS.iload X103.here hx rfl (hb hby at_175) rfl) ?_
        show own_Fin p e below s (own_Q0 n0) room_1.cells room_1.slots (T103.setTop (mkF m 177 #[.val (.int x0), .val (.int x1), .val (.int x2), .val (.int Y), .val (.int M), .val (.int D1), .val (.ref b101), .val (.int (own_val Y M D1)), .val (.int ((own_val Y M D1) / (10000 : Int32))), .val (.int (((own_val Y M D1) / (100 : Int32)) % (100 : Int32))), .val (.int ((own_val Y M D1) % (100 : Int32))), .val (.int (1 : Int32)), .val (.int (1 : Int32)), .val (.int (1 : Int32))] [(.int (1 : Int32))]))
        refine own_go (fun t => XS.ifNo X103.here hx rfl (hb hby at_177) rfl ((if0 _ _).trans (feq (by decide)).1)) ?_
        show own_Fin p e below s (own_Q0 n0) room_1.cells room_1.slots (T103.setTop (mkF m 180 #[.val (.int x0), .val (.int x1), .val (.int x2), .val (.int Y), .val (.int M), .val (.int D1), .val (.ref b101), .val (.int (own_val Y M D1)), .val (.int ((own_val Y M D1) / (10000 : Int32))), .val (.int (((own_val Y M D1) / (100 : Int32)) % (100 : Int32))), .val (.int ((own_val Y M D1) % (100 : Int32))), .val (.int (1 : Int32)), .val (.int (1 : Int32)), .val (.int (1 : Int32))] []))
        refine own_go (fun t => XS.iload X103.here hx rfl (hb hby at_180) rfl) ?_
        show own_Fin p e below s (own_Q0 n0) room_1.cells room_1.slots (T103.setTop (mkF m 182 #[.val (.int x0), .val (.int x1), .val (.int x2), .val (.int Y), .val (.int M), .val (.int D1), .val (.ref b101), .val (.int (own_val Y M D1)), .val (.int ((own_val Y M D1) / (10000 : Int32))), .val (.int (((own_val Y M D1) / (100 : Int32)) % (100 : Int32))), .val (.int ((own_val Y M D1) % (100 : Int32))), .val (.int (1 : Int32)), .val (.int (1 : Int32)), .val (.int (1 : Int32))] [(.int (1 : Int32))]))
        refine own_go (fun t => XS.ifNo X103.here hx rfl (hb hby at_182) rfl ((if0 _ _).trans (feq (by decide)).1)) ?_
        show own_Fin p e below s (own_Q0 n0) room_1.cells room_1.slots (T103.setTop (mkF m 185 #[.val (.int x0), .val (.int x1), .val (.int x2), .val (.int Y), .val (.int M), .val (.int D1), .val (.ref b101), .val (.int (own_val Y M D1)), .val (.int ((own_val Y M D1) / (10000 : Int32))), .val (.int (((own_val Y M D1) / (100 : Int32)) % (100 : Int32))), .val (.int ((own_val Y M D1) % (100 : Int32))), .val (.int (1 : Int32)), .val (.int (1 : Int32)), .val (.int (1 : Int32))] []))
        refine own_go (fun t => XS.iload X103.here hx rfl (hb hby at_185) rfl) ?_
        show own_Fin p e below s (own_Q0 n0) room_1.cells room_1.slots (T103.setTop (mkF m 187 #[.val (.int x0), .val (.int x1), .val (.int x2), .val (.int Y), .val (.int M), .val (.int D1), .val (.ref b101), .val (.int (own_val Y M D1)), .val (.int ((own_val Y M D1) / (10000 : Int32))), .val (.int (((own_val Y M D1) / (100 : Int32)) % (100 : Int32))), .val (.int ((own_val Y M D1) % (100 : Int32))), .val (.int (1 : Int32)), .val (.int (1 : Int32)), .val (.int (1 : Int32))] [(.int (1 : Int32))]))
        refine own_go (fun t => XS.ifNo X103.here hx rfl (hb hby at_187) rfl ((if0 _ _).trans (feq (by decide)).1)) ?_
        show own_Fin p e below s (own_Q0 n0) room_1.cells room_1.slots (T103.setTop (mkF m 190 #[.val (.int x0), .val (.int x1), .val (.int x2), .val (.int Y), .val (.int M), .val (.int D1), .val (.ref b101), .val (.int (own_val Y M D1)), .val (.int ((own_val Y M D1) / (10000 : Int32))), .val (.int (((own_val Y M D1) / (100 : Int32)) % (100 : Int32))), .val (.int ((own_val Y M D1) % (100 : Int32))), .val (.int (1 : Int32)), .val (.int (1 : Int32)), .val (.int (1 : Int32))] []))
        refine own_go (fun t => XS.iconst X103.here hx rfl (hb hby at_190)) ?_
        show own_Fin p e below s (own_Q0 n0) room_1.cells room_1.slots (T103.setTop (mkF m 191 #[.val (.int x0), .val (.int x1), .val (.int x2), .val (.int Y), .val (.int M), .val (.int D1), .val (.ref b101), .val (.int (own_val Y M D1)), .val (.int ((own_val Y M D1) / (10000 : Int32))), .val (.int (((own_val Y M D1) / (100 : Int32)) % (100 : Int32))), .val (.int ((own_val Y M D1) % (100 : Int32))), .val (.int (1 : Int32)), .val (.int (1 : Int32)), .val (.int (1 : Int32))] [(.int (1 : Int32))]))
        refine own_go (fun t => XS.goto X103.here hx rfl (pc0 := 191) (pc' := 195) rfl (hb hby at_191) (by decide) (by decide)) ?_
        show own_Fin p e below s (own_Q0 n0) room_1.cells room_1.slots (T103.setTop (mkF m 195 #[.val (.int x0), .val (.int x1), .val (.int x2), .val (.int Y), .val (.int M), .val (.int D1), .val (.ref b101), .val (.int (own_val Y M D1)), .val (.int ((own_val Y M D1) / (10000 : Int32))), .val (.int (((own_val Y M D1) / (100 : Int32)) % (100 : Int32))), .val (.int ((own_val Y M D1) % (100 : Int32))), .val (.int (1 : Int32)), .val (.int (1 : Int32)), .val (.int (1 : Int32))] [(.int (1 : Int32))]))
        exact own_ret X103 hlk hx (t := .boolean) hret rfl (Or.inl ⟨rfl, by simp, _, rfl⟩) (hb hby at_195) ⟨rfl, N102⟩ (by decide) (by decide)
    · refine own_go (fun t => XS.ifNo X103.here hx rfl (hb hby at_105) rfl ((if0 _ _).trans (feq h105).1)) ?_
      show own_Fin p e below s (own_Q0 n0) room_1.cells room_1.slots (T103.setTop (mkF m 108 #[.val (.int x0), .val (.int x1), .val (.int x2), .val (.int Y), .val (.int M), .val (.int D1), .val (.ref b101), .val (.int (own_val Y M D1)), .val (.int ((own_val Y M D1) / (10000 : Int32))), .val (.int (((own_val Y M D1) / (100 : Int32)) % (100 : Int32))), .val (.int ((own_val Y M D1) % (100 : Int32))), .val (.int (1 : Int32)), .unset, .unset] []))
      refine own_go (fun t => XS.iload X103.here hx rfl (hb hby at_108) rfl) ?_
      show own_Fin p e below s (own_Q0 n0) room_1.cells room_1.slots (T103.setTop (mkF m 110 #[.val (.int x0), .val (.int x1), .val (.int x2), .val (.int Y), .val (.int M), .val (.int D1), .val (.ref b101), .val (.int (own_val Y M D1)), .val (.int ((own_val Y M D1) / (10000 : Int32))), .val (.int (((own_val Y M D1) / (100 : Int32)) % (100 : Int32))), .val (.int ((own_val Y M D1) % (100 : Int32))), .val (.int (1 : Int32)), .unset, .unset] [(.int (((own_val Y M D1) / (100 : Int32)) % (100 : Int32)))]))
      refine own_go (fun t => XS.iload X103.here hx rfl (hb hby at_110) rfl) ?_
      show own_Fin p e below s (own_Q0 n0) room_1.cells room_1.slots (T103.setTop (mkF m 112 #[.val (.int x0), .val (.int x1), .val (.int x2), .val (.int Y), .val (.int M), .val (.int D1), .val (.ref b101), .val (.int (own_val Y M D1)), .val (.int ((own_val Y M D1) / (10000 : Int32))), .val (.int (((own_val Y M D1) / (100 : Int32)) % (100 : Int32))), .val (.int ((own_val Y M D1) % (100 : Int32))), .val (.int (1 : Int32)), .unset, .unset] [(.int M), (.int (((own_val Y M D1) / (100 : Int32)) % (100 : Int32)))]))
      refine own_go (fun t => XS.icmpNo X103.here hx rfl (hb hby at_112) rfl (teq (v2.trans (em1.trans (if_neg h105)))).2) ?_
      show own_Fin p e below s (own_Q0 n0) room_1.cells room_1.slots (T103.setTop (mkF m 115 #[.val (.int x0), .val (.int x1), .val (.int x2), .val (.int Y), .val (.int M), .val (.int D1), .val (.ref b101), .val (.int (own_val Y M D1)), .val (.int ((own_val Y M D1) / (10000 : Int32))), .val (.int (((own_val Y M D1) / (100 : Int32)) % (100 : Int32))), .val (.int ((own_val Y M D1) % (100 : Int32))), .val (.int (1 : Int32)), .unset, .unset] []))
      refine own_go (fun t => XS.iconst X103.here hx rfl (hb hby at_115)) ?_
      show own_Fin p e below s (own_Q0 n0) room_1.cells room_1.slots (T103.setTop (mkF m 116 #[.val (.int x0), .val (.int x1), .val (.int x2), .val (.int Y), .val (.int M), .val (.int D1), .val (.ref b101), .val (.int (own_val Y M D1)), .val (.int ((own_val Y M D1) / (10000 : Int32))), .val (.int (((own_val Y M D1) / (100 : Int32)) % (100 : Int32))), .val (.int ((own_val Y M D1) % (100 : Int32))), .val (.int (1 : Int32)), .unset, .unset] [(.int (1 : Int32))]))
      refine own_go (fun t => XS.goto X103.here hx rfl (pc0 := 116) (pc' := 120) rfl (hb hby at_116) (by decide) (by decide)) ?_
      show own_Fin p e below s (own_Q0 n0) room_1.cells room_1.slots (T103.setTop (mkF m 120 #[.val (.int x0), .val (.int x1), .val (.int x2), .val (.int Y), .val (.int M), .val (.int D1), .val (.ref b101), .val (.int (own_val Y M D1)), .val (.int ((own_val Y M D1) / (10000 : Int32))), .val (.int (((own_val Y M D1) / (100 : Int32)) % (100 : Int32))), .val (.int ((own_val Y M D1) % (100 : Int32))), .val (.int (1 : Int32)), .unset, .unset] [(.int (1 : Int32))]))
      refine own_go (fun t => XS.istore X103.here hx rfl (hb hby at_120) rfl (l' := #[.val (.int x0), .val (.int x1), .val (.int x2), .val (.int Y), .val (.int M), .val (.int D1), .val (.ref b101), .val (.int (own_val Y M D1)), .val (.int ((own_val Y M D1) / (10000 : Int32))), .val (.int (((own_val Y M D1) / (100 : Int32)) % (100 : Int32))), .val (.int ((own_val Y M D1) % (100 : Int32))), .val (.int (1 : Int32)), .val (.int (1 : Int32)), .unset]) rfl) ?_
      show own_Fin p e below s (own_Q0 n0) room_1.cells room_1.slots (T103.setTop (mkF m 122 #[.val (.int x0), .val (.int x1), .val (.int x2), .val (.int Y), .val (.int M), .val (.int D1), .val (.ref b101), .val (.int (own_val Y M D1)), .val (.int ((own_val Y M D1) / (10000 : Int32))), .val (.int (((own_val Y M D1) / (100 : Int32)) % (100 : Int32))), .val (.int ((own_val Y M D1) % (100 : Int32))), .val (.int (1 : Int32)), .val (.int (1 : Int32)), .unset] []))
      refine own_go (fun t => XS.goto X103.here hx rfl (pc0 := 122) (pc' := 139) rfl (hb hby at_122) (by decide) (by decide)) ?_
      show own_Fin p e below s (own_Q0 n0) room_1.cells room_1.slots (T103.setTop (mkF m 139 #[.val (.int x0), .val (.int x1), .val (.int x2), .val (.int Y), .val (.int M), .val (.int D1), .val (.ref b101), .val (.int (own_val Y M D1)), .val (.int ((own_val Y M D1) / (10000 : Int32))), .val (.int (((own_val Y M D1) / (100 : Int32)) % (100 : Int32))), .val (.int ((own_val Y M D1) % (100 : Int32))), .val (.int (1 : Int32)), .val (.int (1 : Int32)), .unset] []))
      refine own_go (fun t => XS.iload X103.here hx rfl (hb hby at_139) rfl) ?_
      show own_Fin p e below s (own_Q0 n0) room_1.cells room_1.slots (T103.setTop (mkF m 141 #[.val (.int x0), .val (.int x1), .val (.int x2), .val (.int Y), .val (.int M), .val (.int D1), .val (.ref b101), .val (.int (own_val Y M D1)), .val (.int ((own_val Y M D1) / (10000 : Int32))), .val (.int (((own_val Y M D1) / (100 : Int32)) % (100 : Int32))), .val (.int ((own_val Y M D1) % (100 : Int32))), .val (.int (1 : Int32)), .val (.int (1 : Int32)), .unset] [(.int D1)]))
      by_cases h141 : D1 = (0 : Int32)
      · refine own_go (fun t => XS.ifYes X103.here hx rfl (pc0 := 141) (pc' := 161) rfl (hb hby at_141) rfl ((if0 _ _).trans (teq h141).1) (by decide) (by decide)) ?_
        show own_Fin p e below s (own_Q0 n0) room_1.cells room_1.slots (T103.setTop (mkF m 161 #[.val (.int x0), .val (.int x1), .val (.int x2), .val (.int Y), .val (.int M), .val (.int D1), .val (.ref b101), .val (.int (own_val Y M D1)), .val (.int ((own_val Y M D1) / (10000 : Int32))), .val (.int (((own_val Y M D1) / (100 : Int32)) % (100 : Int32))), .val (.int ((own_val Y M D1) % (100 : Int32))), .val (.int (1 : Int32)), .val (.int (1 : Int32)), .unset] []))
        refine own_go (fun t => XS.iload X103.here hx rfl (hb hby at_161) rfl) ?_
        show own_Fin p e below s (own_Q0 n0) room_1.cells room_1.slots (T103.setTop (mkF m 163 #[.val (.int x0), .val (.int x1), .val (.int x2), .val (.int Y), .val (.int M), .val (.int D1), .val (.ref b101), .val (.int (own_val Y M D1)), .val (.int ((own_val Y M D1) / (10000 : Int32))), .val (.int (((own_val Y M D1) / (100 : Int32)) % (100 : Int32))), .val (.int ((own_val Y M D1) % (100 : Int32))), .val (.int (1 : Int32)), .val (.int (1 : Int32)), .unset] [(.int ((own_val Y M D1) % (100 : Int32)))]))
        refine own_go (fun t => XS.bipush X103.here hx rfl (hb hby at_163)) ?_
        show own_Fin p e below s (own_Q0 n0) room_1.cells room_1.slots (T103.setTop (mkF m 165 #[.val (.int x0), .val (.int x1), .val (.int x2), .val (.int Y), .val (.int M), .val (.int D1), .val (.ref b101), .val (.int (own_val Y M D1)), .val (.int ((own_val Y M D1) / (10000 : Int32))), .val (.int (((own_val Y M D1) / (100 : Int32)) % (100 : Int32))), .val (.int ((own_val Y M D1) % (100 : Int32))), .val (.int (1 : Int32)), .val (.int (1 : Int32)), .unset] [(.int (31 : Int32)), (.int ((own_val Y M D1) % (100 : Int32)))]))
        refine own_go (fun t => XS.icmpNo X103.here hx rfl (hb hby at_165) rfl (teq (v3.trans (ed1.trans (if_pos h141)))).2) ?_
        show own_Fin p e below s (own_Q0 n0) room_1.cells room_1.slots (T103.setTop (mkF m 168 #[.val (.int x0), .val (.int x1), .val (.int x2), .val (.int Y), .val (.int M), .val (.int D1), .val (.ref b101), .val (.int (own_val Y M D1)), .val (.int ((own_val Y M D1) / (10000 : Int32))), .val (.int (((own_val Y M D1) / (100 : Int32)) % (100 : Int32))), .val (.int ((own_val Y M D1) % (100 : Int32))), .val (.int (1 : Int32)), .val (.int (1 : Int32)), .unset] []))
        refine own_go (fun t => XS.iconst X103.here hx rfl (hb hby at_168)) ?_
        show own_Fin p e below s (own_Q0 n0) room_1.cells room_1.slots (T103.setTop (mkF m 169 #[.val (.int x0), .val (.int x1), .val (.int x2), .val (.int Y), .val (.int M), .val (.int D1), .val (.ref b101), .val (.int (own_val Y M D1)), .val (.int ((own_val Y M D1) / (10000 : Int32))), .val (.int (((own_val Y M D1) / (100 : Int32)) % (100 : Int32))), .val (.int ((own_val Y M D1) % (100 : Int32))), .val (.int (1 : Int32)), .val (.int (1 : Int32)), .unset] [(.int (1 : Int32))]))
        refine own_go (fun t => XS.goto X103.here hx rfl (pc0 := 169) (pc' := 173) rfl (hb hby at_169) (by decide) (by decide)) ?_
        show own_Fin p e below s (own_Q0 n0) room_1.cells room_1.slots (T103.setTop (mkF m 173 #[.val (.int x0), .val (.int x1), .val (.int x2), .val (.int Y), .val (.int M), .val (.int D1), .val (.ref b101), .val (.int (own_val Y M D1)), .val (.int ((own_val Y M D1) / (10000 : Int32))), .val (.int (((own_val Y M D1) / (100 : Int32)) % (100 : Int32))), .val (.int ((own_val Y M D1) % (100 : Int32))), .val (.int (1 : Int32)), .val (.int (1 : Int32)), .unset] [(.int (1 : Int32))]))
        refine own_go (fun t => XS.istore X103.here hx rfl (hb hby at_173) rfl (l' := #[.val (.int x0), .val (.int x1), .val (.int x2), .val (.int Y), .val (.int M), .val (.int D1), .val (.ref b101), .val (.int (own_val Y M D1)), .val (.int ((own_val Y M D1) / (10000 : Int32))), .val (.int (((own_val Y M D1) / (100 : Int32)) % (100 : Int32))), .val (.int ((own_val Y M D1) % (100 : Int32))), .val (.int (1 : Int32)), .val (.int (1 : Int32)), .val (.int (1 : Int32))]) rfl) ?_
        show own_Fin p e below s (own_Q0 n0) room_1.cells room_1.slots (T103.setTop (mkF m 175 #[.val (.int x0), .val (.int x1), .val (.int x2), .val (.int Y), .val (.int M), .val (.int D1), .val (.ref b101), .val (.int (own_val Y M D1)), .val (.int ((own_val Y M D1) / (10000 : Int32))), .val (.int (((own_val Y M D1) / (100 : Int32)) % (100 : Int32))), .val (.int ((own_val Y M D1) % (100 : Int32))), .val (.int (1 : Int32)), .val (.int (1 : Int32)), .val (.int (1 : Int32))] []))
        refine own_go (fun t => XS.iload X103.here hx rfl (hb hby at_175) rfl) ?_
        show own_Fin p e below s (own_Q0 n0) room_1.cells room_1.slots (T103.setTop (mkF m 177 #[.val (.int x0), .val (.int x1), .val (.int x2), .val (.int Y), .val (.int M), .val (.int D1), .val (.ref b101), .val (.int (own_val Y M D1)), .val (.int ((own_val Y M D1) / (10000 : Int32))), .val (.int (((own_val Y M D1) / (100 : Int32)) % (100 : Int32))), .val (.int ((own_val Y M D1) % (100 : Int32))), .val (.int (1 : Int32)), .val (.int (1 : Int32)), .val (.int (1 : Int32))] [(.int (1 : Int32))]))
        refine own_go (fun t => XS.ifNo X103.here hx rfl (hb hby at_177) rfl ((if0 _ _).trans (feq (by decide)).1)) ?_
        show own_Fin p e below s (own_Q0 n0) room_1.cells room_1.slots (T103.setTop (mkF m 180 #[.val (.int x0), .val (.int x1), .val (.int x2), .val (.int Y), .val (.int M), .val (.int D1), .val (.ref b101), .val (.int (own_val Y M D1)), .val (.int ((own_val Y M D1) / (10000 : Int32))), .val (.int (((own_val Y M D1) / (100 : Int32)) % (100 : Int32))), .val (.int ((own_val Y M D1) % (100 : Int32))), .val (.int (1 : Int32)), .val (.int (1 : Int32)), .val (.int (1 : Int32))] []))
        refine own_go (fun t => XS.iload X103.here hx rfl (hb hby at_180) rfl) ?_
        show own_Fin p e below s (own_Q0 n0) room_1.cells room_1.slots (T103.setTop (mkF m 182 #[.val (.int x0), .val (.int x1), .val (.int x2), .val (.int Y), .val (.int M), .val (.int D1), .val (.ref b101), .val (.int (own_val Y M D1)), .val (.int ((own_val Y M D1) / (10000 : Int32))), .val (.int (((own_val Y M D1) / (100 : Int32)) % (100 : Int32))), .val (.int ((own_val Y M D1) % (100 : Int32))), .val (.int (1 : Int32)), .val (.int (1 : Int32)), .val (.int (1 : Int32))] [(.int (1 : Int32))]))
        refine own_go (fun t => XS.ifNo X103.here hx rfl (hb hby at_182) rfl ((if0 _ _).trans (feq (by decide)).1)) ?_
        show own_Fin p e below s (own_Q0 n0) room_1.cells room_1.slots (T103.setTop (mkF m 185 #[.val (.int x0), .val (.int x1), .val (.int x2), .val (.int Y), .val (.int M), .val (.int D1), .val (.ref b101), .val (.int (own_val Y M D1)), .val (.int ((own_val Y M D1) / (10000 : Int32))), .val (.int (((own_val Y M D1) / (100 : Int32)) % (100 : Int32))), .val (.int ((own_val Y M D1) % (100 : Int32))), .val (.int (1 : Int32)), .val (.int (1 : Int32)), .val (.int (1 : Int32))] []))
        refine own_go (fun t => XS.iload X103.here hx rfl (hb hby at_185) rfl) ?_
        show own_Fin p e below s (own_Q0 n0) room_1.cells room_1.slots (T103.setTop (mkF m 187 #[.val (.int x0), .val (.int x1), .val (.int x2), .val (.int Y), .val (.int M), .val (.int D1), .val (.ref b101), .val (.int (own_val Y M D1)), .val (.int ((own_val Y M D1) / (10000 : Int32))), .val (.int (((own_val Y M D1) / (100 : Int32)) % (100 : Int32))), .val (.int ((own_val Y M D1) % (100 : Int32))), .val (.int (1 : Int32)), .val (.int (1 : Int32)), .val (.int (1 : Int32))] [(.int (1 : Int32))]))
        refine own_go (fun t => XS.ifNo X103.here hx rfl (hb hby at_187) rfl ((if0 _ _).trans (feq (by decide)).1)) ?_
        show own_Fin p e below s (own_Q0 n0) room_1.cells room_1.slots (T103.setTop (mkF m 190 #[.val (.int x0), .val (.int x1), .val (.int x2), .val (.int Y), .val (.int M), .val (.int D1), .val (.ref b101), .val (.int (own_val Y M D1)), .val (.int ((own_val Y M D1) / (10000 : Int32))), .val (.int (((own_val Y M D1) / (100 : Int32)) % (100 : Int32))), .val (.int ((own_val Y M D1) % (100 : Int32))), .val (.int (1 : Int32)), .val (.int (1 : Int32)), .val (.int (1 : Int32))] []))
        refine own_go (fun t => XS.iconst X103.here hx rfl (hb hby at_190)) ?_
        show own_Fin p e below s (own_Q0 n0) room_1.cells room_1.slots (T103.setTop (mkF m 191 #[.val (.int x0), .val (.int x1), .val (.int x2), .val (.int Y), .val (.int M), .val (.int D1), .val (.ref b101), .val (.int (own_val Y M D1)), .val (.int ((own_val Y M D1) / (10000 : Int32))), .val (.int (((own_val Y M D1) / (100 : Int32)) % (100 : Int32))), .val (.int ((own_val Y M D1) % (100 : Int32))), .val (.int (1 : Int32)), .val (.int (1 : Int32)), .val (.int (1 : Int32))] [(.int (1 : Int32))]))
        refine own_go (fun t => XS.goto X103.here hx rfl (pc0 := 191) (pc' := 195) rfl (hb hby at_191) (by decide) (by decide)) ?_
        show own_Fin p e below s (own_Q0 n0) room_1.cells room_1.slots (T103.setTop (mkF m 195 #[.val (.int x0), .val (.int x1), .val (.int x2), .val (.int Y), .val (.int M), .val (.int D1), .val (.ref b101), .val (.int (own_val Y M D1)), .val (.int ((own_val Y M D1) / (10000 : Int32))), .val (.int (((own_val Y M D1) / (100 : Int32)) % (100 : Int32))), .val (.int ((own_val Y M D1) % (100 : Int32))), .val (.int (1 : Int32)), .val (.int (1 : Int32)), .val (.int (1 : Int32))] [(.int (1 : Int32))]))
        exact own_ret X103 hlk hx (t := .boolean) hret rfl (Or.inl ⟨rfl, by simp, _, rfl⟩) (hb hby at_195) ⟨rfl, N102⟩ (by decide) (by decide)
      · refine own_go (fun t => XS.ifNo X103.here hx rfl (hb hby at_141) rfl ((if0 _ _).trans (feq h141).1)) ?_
        show own_Fin p e below s (own_Q0 n0) room_1.cells room_1.slots (T103.setTop (mkF m 144 #[.val (.int x0), .val (.int x1), .val (.int x2), .val (.int Y), .val (.int M), .val (.int D1), .val (.ref b101), .val (.int (own_val Y M D1)), .val (.int ((own_val Y M D1) / (10000 : Int32))), .val (.int (((own_val Y M D1) / (100 : Int32)) % (100 : Int32))), .val (.int ((own_val Y M D1) % (100 : Int32))), .val (.int (1 : Int32)), .val (.int (1 : Int32)), .unset] []))
        refine own_go (fun t => XS.iload X103.here hx rfl (hb hby at_144) rfl) ?_
        show own_Fin p e below s (own_Q0 n0) room_1.cells room_1.slots (T103.setTop (mkF m 146 #[.val (.int x0), .val (.int x1), .val (.int x2), .val (.int Y), .val (.int M), .val (.int D1), .val (.ref b101), .val (.int (own_val Y M D1)), .val (.int ((own_val Y M D1) / (10000 : Int32))), .val (.int (((own_val Y M D1) / (100 : Int32)) % (100 : Int32))), .val (.int ((own_val Y M D1) % (100 : Int32))), .val (.int (1 : Int32)), .val (.int (1 : Int32)), .unset] [(.int ((own_val Y M D1) % (100 : Int32)))]))
        refine own_go (fun t => XS.iload X103.here hx rfl (hb hby at_146) rfl) ?_
        show own_Fin p e below s (own_Q0 n0) room_1.cells room_1.slots (T103.setTop (mkF m 148 #[.val (.int x0), .val (.int x1), .val (.int x2), .val (.int Y), .val (.int M), .val (.int D1), .val (.ref b101), .val (.int (own_val Y M D1)), .val (.int ((own_val Y M D1) / (10000 : Int32))), .val (.int (((own_val Y M D1) / (100 : Int32)) % (100 : Int32))), .val (.int ((own_val Y M D1) % (100 : Int32))), .val (.int (1 : Int32)), .val (.int (1 : Int32)), .unset] [(.int D1), (.int ((own_val Y M D1) % (100 : Int32)))]))
        refine own_go (fun t => XS.icmpNo X103.here hx rfl (hb hby at_148) rfl (teq (v3.trans (ed1.trans (if_neg h141)))).2) ?_
        show own_Fin p e below s (own_Q0 n0) room_1.cells room_1.slots (T103.setTop (mkF m 151 #[.val (.int x0), .val (.int x1), .val (.int x2), .val (.int Y), .val (.int M), .val (.int D1), .val (.ref b101), .val (.int (own_val Y M D1)), .val (.int ((own_val Y M D1) / (10000 : Int32))), .val (.int (((own_val Y M D1) / (100 : Int32)) % (100 : Int32))), .val (.int ((own_val Y M D1) % (100 : Int32))), .val (.int (1 : Int32)), .val (.int (1 : Int32)), .unset] []))
        refine own_go (fun t => XS.iconst X103.here hx rfl (hb hby at_151)) ?_
        show own_Fin p e below s (own_Q0 n0) room_1.cells room_1.slots (T103.setTop (mkF m 152 #[.val (.int x0), .val (.int x1), .val (.int x2), .val (.int Y), .val (.int M), .val (.int D1), .val (.ref b101), .val (.int (own_val Y M D1)), .val (.int ((own_val Y M D1) / (10000 : Int32))), .val (.int (((own_val Y M D1) / (100 : Int32)) % (100 : Int32))), .val (.int ((own_val Y M D1) % (100 : Int32))), .val (.int (1 : Int32)), .val (.int (1 : Int32)), .unset] [(.int (1 : Int32))]))
        refine own_go (fun t => XS.goto X103.here hx rfl (pc0 := 152) (pc' := 156) rfl (hb hby at_152) (by decide) (by decide)) ?_
        show own_Fin p e below s (own_Q0 n0) room_1.cells room_1.slots (T103.setTop (mkF m 156 #[.val (.int x0), .val (.int x1), .val (.int x2), .val (.int Y), .val (.int M), .val (.int D1), .val (.ref b101), .val (.int (own_val Y M D1)), .val (.int ((own_val Y M D1) / (10000 : Int32))), .val (.int (((own_val Y M D1) / (100 : Int32)) % (100 : Int32))), .val (.int ((own_val Y M D1) % (100 : Int32))), .val (.int (1 : Int32)), .val (.int (1 : Int32)), .unset] [(.int (1 : Int32))]))
        refine own_go (fun t => XS.istore X103.here hx rfl (hb hby at_156) rfl (l' := #[.val (.int x0), .val (.int x1), .val (.int x2), .val (.int Y), .val (.int M), .val (.int D1), .val (.ref b101), .val (.int (own_val Y M D1)), .val (.int ((own_val Y M D1) / (10000 : Int32))), .val (.int (((own_val Y M D1) / (100 : Int32)) % (100 : Int32))), .val (.int ((own_val Y M D1) % (100 : Int32))), .val (.int (1 : Int32)), .val (.int (1 : Int32)), .val (.int (1 : Int32))]) rfl) ?_
        show own_Fin p e below s (own_Q0 n0) room_1.cells room_1.slots (T103.setTop (mkF m 158 #[.val (.int x0), .val (.int x1), .val (.int x2), .val (.int Y), .val (.int M), .val (.int D1), .val (.ref b101), .val (.int (own_val Y M D1)), .val (.int ((own_val Y M D1) / (10000 : Int32))), .val (.int (((own_val Y M D1) / (100 : Int32)) % (100 : Int32))), .val (.int ((own_val Y M D1) % (100 : Int32))), .val (.int (1 : Int32)), .val (.int (1 : Int32)), .val (.int (1 : Int32))] []))
        refine own_go (fun t => XS.goto X103.here hx rfl (pc0 := 158) (pc' := 175) rfl (hb hby at_158) (by decide) (by decide)) ?_
        show own_Fin p e below s (own_Q0 n0) room_1.cells room_1.slots (T103.setTop (mkF m 175 #[.val (.int x0), .val (.int x1), .val (.int x2), .val (.int Y), .val (.int M), .val (.int D1), .val (.ref b101), .val (.int (own_val Y M D1)), .val (.int ((own_val Y M D1) / (10000 : Int32))), .val (.int (((own_val Y M D1) / (100 : Int32)) % (100 : Int32))), .val (.int ((own_val Y M D1) % (100 : Int32))), .val (.int (1 : Int32)), .val (.int (1 : Int32)), .val (.int (1 : Int32))] []))
        refine own_go (fun t => XS.iload X103.here hx rfl (hb hby at_175) rfl) ?_
        show own_Fin p e below s (own_Q0 n0) room_1.cells room_1.slots (T103.setTop (mkF m 177 #[.val (.int x0), .val (.int x1), .val (.int x2), .val (.int Y), .val (.int M), .val (.int D1), .val (.ref b101), .val (.int (own_val Y M D1)), .val (.int ((own_val Y M D1) / (10000 : Int32))), .val (.int (((own_val Y M D1) / (100 : Int32)) % (100 : Int32))), .val (.int ((own_val Y M D1) % (100 : Int32))), .val (.int (1 : Int32)), .val (.int (1 : Int32)), .val (.int (1 : Int32))] [(.int (1 : Int32))]))
        refine own_go (fun t => XS.ifNo X103.here hx rfl (hb hby at_177) rfl ((if0 _ _).trans (feq (by decide)).1)) ?_
        show own_Fin p e below s (own_Q0 n0) room_1.cells room_1.slots (T103.setTop (mkF m 180 #[.val (.int x0), .val (.int x1), .val (.int x2), .val (.int Y), .val (.int M), .val (.int D1), .val (.ref b101), .val (.int (own_val Y M D1)), .val (.int ((own_val Y M D1) / (10000 : Int32))), .val (.int (((own_val Y M D1) / (100 : Int32)) % (100 : Int32))), .val (.int ((own_val Y M D1) % (100 : Int32))), .val (.int (1 : Int32)), .val (.int (1 : Int32)), .val (.int (1 : Int32))] []))
        refine own_go (fun t => XS.iload X103.here hx rfl (hb hby at_180) rfl) ?_
        show own_Fin p e below s (own_Q0 n0) room_1.cells room_1.slots (T103.setTop (mkF m 182 #[.val (.int x0), .val (.int x1), .val (.int x2), .val (.int Y), .val (.int M), .val (.int D1), .val (.ref b101), .val (.int (own_val Y M D1)), .val (.int ((own_val Y M D1) / (10000 : Int32))), .val (.int (((own_val Y M D1) / (100 : Int32)) % (100 : Int32))), .val (.int ((own_val Y M D1) % (100 : Int32))), .val (.int (1 : Int32)), .val (.int (1 : Int32)), .val (.int (1 : Int32))] [(.int (1 : Int32))]))
        refine own_go (fun t => XS.ifNo X103.here hx rfl (hb hby at_182) rfl ((if0 _ _).trans (feq (by decide)).1)) ?_
        show own_Fin p e below s (own_Q0 n0) room_1.cells room_1.slots (T103.setTop (mkF m 185 #[.val (.int x0), .val (.int x1), .val (.int x2), .val (.int Y), .val (.int M), .val (.int D1), .val (.ref b101), .val (.int (own_val Y M D1)), .val (.int ((own_val Y M D1) / (10000 : Int32))), .val (.int (((own_val Y M D1) / (100 : Int32)) % (100 : Int32))), .val (.int ((own_val Y M D1) % (100 : Int32))), .val (.int (1 : Int32)), .val (.int (1 : Int32)), .val (.int (1 : Int32))] []))
        refine own_go (fun t => XS.iload X103.here hx rfl (hb hby at_185) rfl) ?_
        show own_Fin p e below s (own_Q0 n0) room_1.cells room_1.slots (T103.setTop (mkF m 187 #[.val (.int x0), .val (.int x1), .val (.int x2), .val (.int Y), .val (.int M), .val (.int D1), .val (.ref b101), .val (.int (own_val Y M D1)), .val (.int ((own_val Y M D1) / (10000 : Int32))), .val (.int (((own_val Y M D1) / (100 : Int32)) % (100 : Int32))), .val (.int ((own_val Y M D1) % (100 : Int32))), .val (.int (1 : Int32)), .val (.int (1 : Int32)), .val (.int (1 : Int32))] [(.int (1 : Int32))]))
        refine own_go (fun t => XS.ifNo X103.here hx rfl (hb hby at_187) rfl ((if0 _ _).trans (feq (by decide)).1)) ?_
        show own_Fin p e below s (own_Q0 n0) room_1.cells room_1.slots (T103.setTop (mkF m 190 #[.val (.int x0), .val (.int x1), .val (.int x2), .val (.int Y), .val (.int M), .val (.int D1), .val (.ref b101), .val (.int (own_val Y M D1)), .val (.int ((own_val Y M D1) / (10000 : Int32))), .val (.int (((own_val Y M D1) / (100 : Int32)) % (100 : Int32))), .val (.int ((own_val Y M D1) % (100 : Int32))), .val (.int (1 : Int32)), .val (.int (1 : Int32)), .val (.int (1 : Int32))] []))
        refine own_go (fun t => XS.iconst X103.here hx rfl (hb hby at_190)) ?_
        show own_Fin p e below s (own_Q0 n0) room_1.cells room_1.slots (T103.setTop (mkF m 191 #[.val (.int x0), .val (.int x1), .val (.int x2), .val (.int Y), .val (.int M), .val (.int D1), .val (.ref b101), .val (.int (own_val Y M D1)), .val (.int ((own_val Y M D1) / (10000 : Int32))), .val (.int (((own_val Y M D1) / (100 : Int32)) % (100 : Int32))), .val (.int ((own_val Y M D1) % (100 : Int32))), .val (.int (1 : Int32)), .val (.int (1 : Int32)), .val (.int (1 : Int32))] [(.int (1 : Int32))]))
        refine own_go (fun t => XS.goto X103.here hx rfl (pc0 := 191) (pc' := 195) rfl (hb hby at_191) (by decide) (by decide)) ?_
        show own_Fin p e below s (own_Q0 n0) room_1.cells room_1.slots (T103.setTop (mkF m 195 #[.val (.int x0), .val (.int x1), .val (.int x2), .val (.int Y), .val (.int M), .val (.int D1), .val (.ref b101), .val (.int (own_val Y M D1)), .val (.int ((own_val Y M D1) / (10000 : Int32))), .val (.int (((own_val Y M D1) / (100 : Int32)) % (100 : Int32))), .val (.int ((own_val Y M D1) % (100 : Int32))), .val (.int (1 : Int32)), .val (.int (1 : Int32)), .val (.int (1 : Int32))] [(.int (1 : Int32))]))
        exact own_ret X103 hlk hx (t := .boolean) hret rfl (Or.inl ⟨rfl, by simp, _, rfl⟩) (hb hby at_195) ⟨rfl, N102⟩ (by decide) (by decide)
  by_cases h31 : M = (0 : Int32)
  · refine own_go (fun t => XS.ifNo X.here hx rfl (hb hby at_31) rfl ((if0 _ _).trans (teq h31).2)) ?_
    show own_Fin p e below s (own_Q0 n0) room_1.cells room_1.slots (T.setTop (mkF m 34 #[.val (.int x0), .val (.int x1), .val (.int x2), .val (.int Y), .val (.int M), .val (.int D), .unset, .unset, .unset, .unset, .unset, .unset, .unset, .unset] []))
    refine own_go (fun t => XS.iconst X.here hx rfl (hb hby at_34)) ?_
    show own_Fin p e below s (own_Q0 n0) room_1.cells room_1.slots (T.setTop (mkF m 35 #[.val (.int x0), .val (.int x1), .val (.int x2), .val (.int Y), .val (.int M), .val (.int D), .unset, .unset, .unset, .unset, .unset, .unset, .unset, .unset] [(.int (0 : Int32))]))
    refine own_go (fun t => XS.istore X.here hx rfl (hb hby at_35) rfl (l' := #[.val (.int x0), .val (.int x1), .val (.int x2), .val (.int Y), .val (.int M), .val (.int (0 : Int32)), .unset, .unset, .unset, .unset, .unset, .unset, .unset, .unset]) rfl) ?_
    show own_Fin p e below s (own_Q0 n0) room_1.cells room_1.slots (T.setTop (mkF m 37 #[.val (.int x0), .val (.int x1), .val (.int x2), .val (.int Y), .val (.int M), .val (.int (0 : Int32)), .unset, .unset, .unset, .unset, .unset, .unset, .unset, .unset] []))
    exact J 0 (by decide) (fun q => absurd rfl q)
  · refine own_go (fun t => XS.ifYes X.here hx rfl (pc0 := 31) (pc' := 37) rfl (hb hby at_31) rfl ((if0 _ _).trans (feq h31).2) (by decide) (by decide)) ?_
    show own_Fin p e below s (own_Q0 n0) room_1.cells room_1.slots (T.setTop (mkF m 37 #[.val (.int x0), .val (.int x1), .val (.int x2), .val (.int Y), .val (.int M), .val (.int D), .unset, .unset, .unset, .unset, .unset, .unset, .unset, .unset] []))
    exact J D hD (fun _ => h31)
theorem own_pn2 : plainName "com/example/fondmark/fondmark/core/PartialDateLatestPinLaw" = true := by first | (simp [plainName, overriddenIn]; done) | decide +kernel
theorem own_rm0 (l : Launch) (Z : State) (a0 : Array Value) (hw : ∀ d ∈ tables_1, d.before a0 Z = true) (ws : List Jvm.Cond) (x0 : Int32) (x1 : Int32) (x2 : Int32) (h0 : Heap) (n0 : Nat) (Z0 : n0 ≤ h0.size) : own_Met l Z x code maxLocals ret ws room_1 #[(.int x0), (.int x1), (.int x2)] h0 (own_Q0 n0) :=
  own_enter (plainFor_of_name own_pn2) (own_ef0 x0 x1 x2) hw (fun p e s m below meth c T X C hh => own_law X C hh x0 x1 x2 n0 Z0)
set_option maxRecDepth 65536 in
set_option maxHeartbeats 40000000 in
theorem own_comes {Post : Tables → Env → Array Value → State → Outcome → State → Prop} (hpost : ∀ tb e args s v u, (limb_1_1.after args s (.returned v) u = true ∧ limb_1_2.after args s (.returned v) u = true ∧ True) → FrameEnd s (.returned v) u (Jvm.fieldLocs frame_1_writes args s ++ Jvm.arrayLocs frame_1_arrays args s ++ Jvm.staticLocs frame_1_statics s) 16 128 → Post tb e args s (.returned v) u) :
    ArmFor flags0 classFile x code maxLocals ret World_1 tables_1 room_1 Calls_1 rest_1 Pre_1 Post := by
  intro l hfl _ _ p e ha hc hk s m args below hf hA hF happ hP
  obtain ⟨hcalls, hrest, hpre⟩ := hP
  obtain ⟨-, -, -, hnamed, -, -, -, hat⟩ := (Spec.applies_iff hf).mp happ
  obtain ⟨hg, hn⟩ := and_e (Cond.before_iff.mp (show (Jvm.Cond.and given_1 narrow_1).before args s = true from hpre))
  obtain ⟨g0, r0⟩ := and_e hg
  obtain ⟨g1, r1⟩ := and_e r0
  obtain ⟨g2, r2⟩ := and_e r1
  obtain ⟨w0, w1, w2, rfl⟩ : ∃ w0 w1 w2 : Value, args = #[w0, w1, w2] := by
    have hs : args.size = 3 := by simpa [Cond.value, given_1] using g0
    obtain ⟨L⟩ := args
    match L, hs with
    | [w0, w1, w2], _ => exact ⟨w0, w1, w2, rfl⟩
  have hw := fun d (hd : d ∈ tables_1) => atoms_spec (ws := Jvm.Cond.code x code maxLocals ret :: tables_1) hat d (List.mem_cons_of_mem _ hd)
  obtain ⟨i0, ei0⟩ := is_v g1
  obtain rfl : w0 = (.int i0) := Option.some.inj ei0
  obtain ⟨i1, ei1⟩ := is_v g2
  obtain rfl : w1 = (.int i1) := Option.some.inj ei1
  obtain ⟨i2, ei2⟩ := is_v r2
  obtain rfl : w2 = (.int i2) := Option.some.inj ei2
  obtain ⟨n, o, h1, h2, h3, _, L, rfl, ⟨rfl, N⟩, hq⟩ := own_rm0 l s _ hw tables_1 i0 i1 i2 s.heap s.heap.size (Nat.le_refl _) p e ha hc hk s m _ below hf ((Spec.applies_iff_loose hf).mp happ).1 ⟨rfl, State.Warmed39.refl s, rfl⟩ trivial
  refine ⟨n, _, h1, h2, h3, hpost _ _ _ _ _ _ ⟨Cond.after_iff.mpr rfl, Cond.after_iff.mpr (eq_i res_at (Term.int_eval (1)) rfl), trivial⟩ ⟨hq.1, hq.2.1, (hq.2.2.sift fun y hy => Or.inr (N y hy)).mono (by decide) (by decide)⟩⟩
theorem main_1_1 : Claimed_1_1 := own_comes fun _ _ _ _ _ _ h hF => ⟨h.1, hF⟩
theorem main_1_2 : Claimed_1_2 := own_comes fun _ _ _ _ _ _ h hF => ⟨h.2.1, hF⟩
end Jvm.Pilot.@@N@@
namespace Jvm.Pilot.@@N@@
open Jvm Jvm.ClassFile Sem Op Lib Jvm.Free Jvm.Stand Jvm.Pilot.@@N@@.Jvm.D
/-! MADE BY PROGRAM (witnessworld.py) out of the Statement's table words and the real class files: 10 classes; the members and pool entries that the words name. The judged class is class 1, her method 1. -/
namespace start1
open Jvm.ClassFile
def u (s : String) : CpInfo := .utf8 (stringToUtf16 s)
/-- a pool by its gaps: so many unusable entries, then the entry; so many at the end -/
def gap : Nat → List CpInfo → List CpInfo
  | 0, r => r
  | n + 1, r => .unusable :: gap n r
def poolList (es : List (Nat × CpInfo)) (last : Nat) : List CpInfo := es.foldr (fun e r => gap e.1 (e.2 :: r)) (gap last [])
def pool (es : List (Nat × CpInfo)) (last : Nat) : Array CpInfo := ⟨poolList es last⟩
def fileOf (pool : Array CpInfo) (this : Nat) (attrs : Array Attribute := #[]) (ms : Array MethodInfo := #[]) (fl : Nat := 33) (sup : Nat := 0) (ifs : Array Nat := #[]) (fds : Array FieldInfo := #[]) : ClassFile where
  minorVersion := 0
  majorVersion := 65
  constantPool := pool
  accessFlags := fl
  thisClass := this
  superClass := sup
  interfaces := ifs
  fields := fds
  methods := ms
  attributes := attrs
def plain (name : String) (sup : Option ClassId) : Class where
  name := name
  kind := .ordinary
  loader := none
  accessFlags := 33
  super := sup
  interfaces := #[]
  cf := none
  fields := #[]
  methods := #[]
  instanceTypes := #[]
  staticTypes := #[]
  resolved := #[]
  callSites := []
  init := .initialized
  statics := none
  mirror := none

def pool0 : Array CpInfo := pool [(5, u "<init>"), (0, u "()V"), (1, .class_ 10), (1, u "java/lang/Object")] 113

def k0c0 : Code := { maxStack := 0, maxLocals := 1, code := object_method_1_code, exceptionTable := #[], attributes := #[] }
def k0m0 : Method := { name := "<init>", desc := "()V", sig := { parameters := [], returnType := none }, accessFlags := 1, code := some k0c0 }
/-- java/lang/Object -/
def k0 : Class := { plain "java/lang/Object" none with
  accessFlags := 33
  interfaces := #[]
  cf := some (fileOf pool0 8 #[] #[{ accessFlags := 1, nameIndex := 5, descriptorIndex := 6, attributes := #[] }] 33 0 #[] #[])
  fields := #[]
  methods := #[k0m0]
  instanceTypes := #[]
  staticTypes := #[]
  resolved := Array.replicate 124 none
  statics := none }

def pool1 : Array CpInfo := pool [(2, .class_ 4), (1, u "java/lang/Object"), (0, u "<init>"), (0, u "()V"), (0, .integer 2147483647), (0, .class_ 9), (0, u "com/example/fondmark/fondmark/core/PartialDate"), (0, .methodref 8 11), (0, .nameAndType 5 12), (0, u "(III)V"), (0, .methodref 8 14), (0, .nameAndType 15 16), (0, u "latest"), (0, u "()I"), (0, .class_ 18), (0, u "com/example/fondmark/fondmark/core/PartialDateLatestPinLaw"), (2, u "law"), (0, u "(III)Z")] 3

def k1m0 : Method := { name := "<init>", desc := "()V", sig := { parameters := [], returnType := none }, accessFlags := 1, code := none }
def k1c1 : Code := { maxStack := 5, maxLocals := 14, code := code, exceptionTable := #[], attributes := #[] }
def k1m1 : Method := { name := "law", desc := "(III)Z", sig := { parameters := [.int, .int, .int], returnType := some .boolean }, accessFlags := 9, code := some k1c1 }
/-- com/example/fondmark/fondmark/core/PartialDateLatestPinLaw -/
def k1 : Class := { plain "com/example/fondmark/fondmark/core/PartialDateLatestPinLaw" (some 0) with
  accessFlags := 49
  interfaces := #[]
  cf := some (fileOf pool1 17 #[] #[{ accessFlags := 1, nameIndex := 5, descriptorIndex := 6, attributes := #[] }, { accessFlags := 9, nameIndex := 21, descriptorIndex := 22, attributes := #[] }] 49 2 #[] #[])
  fields := #[]
  methods := #[k1m0, k1m1]
  instanceTypes := #[]
  staticTypes := #[]
  resolved := Array.replicate 26 none
  statics := none }

def pool2 : Array CpInfo := pool [(1, .methodref 2 3), (0, .class_ 4), (0, .nameAndType 5 6), (0, u "java/lang/Object"), (0, u "<init>"), (0, u "()V"), (0, .class_ 8), (0, u "java/lang/Record")] 13

def k2c0 : Code := { maxStack := 1, maxLocals := 1, code := jdk_30_method_1_code, exceptionTable := #[], attributes := #[] }
def k2m0 : Method := { name := "<init>", desc := "()V", sig := { parameters := [], returnType := none }, accessFlags := 4, code := some k2c0 }
/-- java/lang/Record -/
def k2 : Class := { plain "java/lang/Record" (some 0) with
  accessFlags := 1057
  interfaces := #[]
  cf := some (fileOf pool2 7 #[] #[{ accessFlags := 4, nameIndex := 5, descriptorIndex := 6, attributes := #[] }] 1057 2 #[] #[])
  fields := #[]
  methods := #[k2m0]
  instanceTypes := #[]
  staticTypes := #[]
  resolved := Array.replicate 22 none
  statics := none }

def pool3 : Array CpInfo := pool [(1, .methodref 2 3), (0, .class_ 4), (0, .nameAndType 5 6), (0, u "java/lang/Record"), (0, u "<init>"), (0, u "()V"), (11, .fieldref 19 20), (0, .class_ 21), (0, .nameAndType 22 23), (0, u "com/example/fondmark/fondmark/core/PartialDate"), (0, u "year"), (0, u "I"), (0, .fieldref 19 25), (0, .nameAndType 26 23), (0, u "month"), (0, .fieldref 19 28), (0, .nameAndType 29 23), (0, u "day"), (18, u "(III)V"), (5, u "()I"), (0, u "latest")] 32

def k3c0 : Code := { maxStack := 5, maxLocals := 4, code := prog_27_method_1_code, exceptionTable := #[], attributes := #[] }
def k3m0 : Method := { name := "<init>", desc := "(III)V", sig := { parameters := [.int, .int, .int], returnType := none }, accessFlags := 1, code := some k3c0 }
def k3c1 : Code := { maxStack := 3, maxLocals := 1, code := prog_27_method_3_code, exceptionTable := #[], attributes := #[] }
def k3m1 : Method := { name := "latest", desc := "()I", sig := { parameters := [], returnType := some .int }, accessFlags := 0, code := some k3c1 }
/-- com/example/fondmark/fondmark/core/PartialDate -/
def k3 : Class := { plain "com/example/fondmark/fondmark/core/PartialDate" (some 2) with
  accessFlags := 49
  interfaces := #[]
  cf := some (fileOf pool3 19 #[] #[{ accessFlags := 1, nameIndex := 5, descriptorIndex := 48, attributes := #[] }, { accessFlags := 0, nameIndex := 55, descriptorIndex := 54, attributes := #[] }] 49 2 #[] #[{ accessFlags := 18, nameIndex := 22, descriptorIndex := 23, attributes := #[] }, { accessFlags := 18, nameIndex := 26, descriptorIndex := 23, attributes := #[] }, { accessFlags := 18, nameIndex := 29, descriptorIndex := 23, attributes := #[] }])
  fields := #[{ name := "year", type := .int, accessFlags := 18, slot := 0, constantValue := 0 }, { name := "month", type := .int, accessFlags := 18, slot := 1, constantValue := 0 }, { name := "day", type := .int, accessFlags := 18, slot := 2, constantValue := 0 }]
  methods := #[k3m0, k3m1]
  instanceTypes := #[.int, .int, .int]
  staticTypes := #[]
  resolved := Array.replicate 88 none
  statics := none }

def pool4 : Array CpInfo := pool [(1, u "java/lang/Cloneable"), (0, .class_ 1), (0, u "java/lang/Object"), (0, .class_ 3)] 3

/-- java/lang/Cloneable -/
def k4 : Class := { plain "java/lang/Cloneable" (some 0) with
  accessFlags := 1537
  interfaces := #[]
  cf := some (fileOf pool4 2 #[] #[] 1537 4 #[] #[])
  fields := #[]
  methods := #[]
  instanceTypes := #[]
  staticTypes := #[]
  resolved := Array.replicate 8 none
  statics := none }

def pool5 : Array CpInfo := pool [(1, u "java/io/Serializable"), (0, .class_ 1), (0, u "java/lang/Object"), (0, .class_ 3)] 3

/-- java/io/Serializable -/
def k5 : Class := { plain "java/io/Serializable" (some 0) with
  accessFlags := 1537
  interfaces := #[]
  cf := some (fileOf pool5 2 #[] #[] 1537 4 #[] #[])
  fields := #[]
  methods := #[]
  instanceTypes := #[]
  staticTypes := #[]
  resolved := Array.replicate 8 none
  statics := none }

/-- the primitive byte -/
def k6 : Class := { plain "byte" none with kind := .primitive 'B', accessFlags := 0x411 }
/-- [B -/
def k7 : Class := { plain "[B" (some 0) with kind := .array 6 .byte, interfaces := #[4, 5], accessFlags := 1041 }

/-- the primitive int -/
def k8 : Class := { plain "int" none with kind := .primitive 'I', accessFlags := 0x411 }
/-- [I -/
def k9 : Class := { plain "[I" (some 0) with kind := .array 8 .int, interfaces := #[4, 5], accessFlags := 1041 }

def heap : Heap := #[]
def classes : Array Class := #[k0, k1, k2, k3, k4, k5, k6, k7, k8, k9]
def interned : List (Array UInt16 × Addr) := []
def slotsUsed : Nat := 0
def theMethod : MethodId := ⟨1, 1⟩
def args0 : Array Value := #[.int 5, .int 3, .int 1]
def aboutOver (below : List Frame) : State where
  vm := { classes := classes, interned := interned.toArray }
  heap := heap
  slotsUsed := slotsUsed
  threads := #[{ frames := .invoking theMethod args0 :: below }]
def below0 : List Frame := [.native { method := ⟨0, 0⟩, args := #[] }]
def about1 : State := aboutOver below0
def p0 : Program := .bare "" "" ""
def e0 : Env := launch0.env 0 0 0
theorem w_frames : about1.frames = Frame.invoking theMethod args0 :: below0 := rfl
set_option maxRecDepth 65536 in
theorem w_args : argsFit about1.vm theMethod args0 = true := by decide +kernel
set_option maxRecDepth 65536 in
theorem w_heap : heapFits about1 = true := by decide +kernel
set_option maxRecDepth 65536 in
theorem w_runnable : about1.curStatus? = some .runnable := by decide +kernel
set_option maxRecDepth 65536 in
theorem w_alone : about1.alone = true := by decide +kernel
set_option maxRecDepth 65536 in
theorem w_named : about1.methodNamed? x = some theMethod := by decide +kernel
set_option maxRecDepth 65536 in
theorem w_hears : about1.hears theMethod below0 = true := by decide +kernel
set_option maxRecDepth 65536 in
theorem w_ripe : about1.ripe theMethod args0 below0 = true := by decide +kernel
theorem w_running : about1.status = .running := rfl
set_option maxRecDepth 65536 in
theorem w_room : about1.hasRoom e0.platform room_1 = true :=
  launch0.hasRoom_least _ room_1 (by decide +kernel) (by decide +kernel) (by decide +kernel) (by decide +kernel) (by decide +kernel) (by decide +kernel)
theorem allAtoms_all (ts : List Jvm.Cond) (a : Array Jvm.Value) (st : Jvm.State) : (allAtoms ts).before a st = ts.all (fun c => c.before a st) := by
  induction ts with
  | nil => rfl
  | cons c t ih =>
    show (Jvm.Cond.and c (allAtoms t)).before a st = _
    rw [Jvm.Cond.before_and, ih, List.all_cons]
def words1 : List Jvm.Cond := Jvm.Cond.code x code maxLocals ret :: tables_1
/-- a 'code' word, met by the world's own term for the bytes: nothing is compared byte by byte -/
theorem code_word {y : MethodName} {bytes : ByteArray} {mx : Nat} {rt : Option FieldType} {a : Array Value} {s : State} {m : MethodId} {meth : Method} {c : Code} (h1 : s.methodNamed? y = some m) (h2 : s.vm.method? m = some meth) (h3 : meth.code = some c) (h4 : c.code = bytes)
    (h5 : (c.maxLocals == mx && c.exceptionTable.isEmpty && decide (c.maxStack ≤ mostOperands) && decide (meth.sig.returnType = rt) && !meth.locks && decide (parseMethodDescriptor y.desc = some meth.sig)) = true) : (Jvm.Cond.code y bytes mx rt).before a s = true := by
  simp only [Bool.and_eq_true, beq_iff_eq, Bool.not_eq_true', decide_eq_true_eq] at h5
  obtain ⟨⟨⟨⟨⟨g1, g2⟩, g3⟩, g4⟩, g5⟩, g6⟩ := h5
  simp [Cond.before, Cond.holds, Cond.value, h1, h2, h3, h4, g1, g2, g3, g4, g5, g6]
def isCode : Jvm.Cond → Bool
  | .code _ _ _ _ => true
  | _ => false
theorem all_split {L : List Jvm.Cond} {P : Jvm.Cond → Bool} (h1 : L.all (fun c => isCode c || P c) = true) (h2 : ∀ c ∈ L.filter isCode, P c = true) : L.all P = true := by
  refine List.all_eq_true.mpr fun c hc => ?_
  have h := List.all_eq_true.mp h1 c hc
  rcases Bool.eq_false_or_eq_true (isCode c) with hi | hi
  · exact h2 c (List.mem_filter.mpr ⟨hc, hi⟩)
  · simpa [hi] using h
set_option maxRecDepth 65536 in
theorem w_c0 : (Jvm.Cond.code x code maxLocals ret).before args0 about1 = true := code_word (m := ⟨1, 1⟩) (meth := k1m1) (c := k1c1) (by decide +kernel) rfl rfl rfl (by decide +kernel)
set_option maxRecDepth 65536 in
theorem w_c1 : (Jvm.Cond.code ({ cls := "com/example/fondmark/fondmark/core/PartialDate", name := "<init>", desc := "(III)V" } : Jvm.MethodName) prog_27_method_1_code (4 : Nat) (Option.none : Option Jvm.ClassFile.FieldType)).before args0 about1 = true := code_word (m := ⟨3, 0⟩) (meth := k3m0) (c := k3c0) (by decide +kernel) rfl rfl rfl (by decide +kernel)
set_option maxRecDepth 65536 in
theorem w_c2 : (Jvm.Cond.code ({ cls := "java/lang/Record", name := "<init>", desc := "()V" } : Jvm.MethodName) jdk_30_method_1_code (1 : Nat) (Option.none : Option Jvm.ClassFile.FieldType)).before args0 about1 = true := code_word (m := ⟨2, 0⟩) (meth := k2m0) (c := k2c0) (by decide +kernel) rfl rfl rfl (by decide +kernel)
set_option maxRecDepth 65536 in
theorem w_c3 : (Jvm.Cond.code ({ cls := "java/lang/Object", name := "<init>", desc := "()V" } : Jvm.MethodName) object_method_1_code (1 : Nat) (Option.none : Option Jvm.ClassFile.FieldType)).before args0 about1 = true := code_word (m := ⟨0, 0⟩) (meth := k0m0) (c := k0c0) (by decide +kernel) rfl rfl rfl (by decide +kernel)
set_option maxRecDepth 65536 in
theorem w_c4 : (Jvm.Cond.code ({ cls := "com/example/fondmark/fondmark/core/PartialDate", name := "latest", desc := "()I" } : Jvm.MethodName) prog_27_method_3_code (1 : Nat) (Option.some Jvm.ClassFile.FieldType.int)).before args0 about1 = true := code_word (m := ⟨3, 1⟩) (meth := k3m1) (c := k3c1) (by decide +kernel) rfl rfl rfl (by decide +kernel)
def codes1 : List Jvm.Cond := [Jvm.Cond.code x code maxLocals ret, Jvm.Cond.code ({ cls := "com/example/fondmark/fondmark/core/PartialDate", name := "<init>", desc := "(III)V" } : Jvm.MethodName) prog_27_method_1_code (4 : Nat) (Option.none : Option Jvm.ClassFile.FieldType), Jvm.Cond.code ({ cls := "java/lang/Record", name := "<init>", desc := "()V" } : Jvm.MethodName) jdk_30_method_1_code (1 : Nat) (Option.none : Option Jvm.ClassFile.FieldType), Jvm.Cond.code ({ cls := "java/lang/Object", name := "<init>", desc := "()V" } : Jvm.MethodName) object_method_1_code (1 : Nat) (Option.none : Option Jvm.ClassFile.FieldType), Jvm.Cond.code ({ cls := "com/example/fondmark/fondmark/core/PartialDate", name := "latest", desc := "()I" } : Jvm.MethodName) prog_27_method_3_code (1 : Nat) (Option.some Jvm.ClassFile.FieldType.int)]
set_option maxRecDepth 65536 in
theorem codes_eq : words1.filter isCode = codes1 := rfl
theorem w_codes : ∀ c ∈ words1.filter isCode, c.before args0 about1 = true := by
  rw [codes_eq]
  intro c hc
  simp only [codes1, List.mem_cons, List.not_mem_nil, or_false] at hc
  rcases hc with rfl | rfl | rfl | rfl | rfl
  · exact w_c0
  · exact w_c1
  · exact w_c2
  · exact w_c3
  · exact w_c4
set_option maxRecDepth 65536 in
theorem w_t1 : (words1.take 24).all (fun c => isCode c || c.before args0 about1) = true := by decide +kernel
set_option maxRecDepth 65536 in
theorem w_t2 : (words1.drop 24).all (fun c => isCode c || c.before args0 about1) = true := by decide +kernel
theorem w_tables : (allAtoms (Jvm.Cond.code x code maxLocals ret :: tables_1)).before args0 about1 = true := by
  rw [allAtoms_all]
  show words1.all (fun c => c.before args0 about1) = true
  refine all_split ?_ w_codes
  rw [← List.take_append_drop 24 words1, List.all_append, w_t1, w_t2]
  rfl
set_option maxRecDepth 65536 in
theorem w_case : (Jvm.Cond.and given_1 narrow_1).before args0 about1 = true := by decide +kernel
theorem w_applies : (headSpec (Jvm.Cond.code x code maxLocals ret :: tables_1) room_1).applies x e0.platform about1 = true :=
  (Spec.applies_iff w_frames).mpr ⟨w_running, w_runnable, w_alone, w_named, w_hears, w_ripe, w_room, w_tables⟩
theorem atStart : AtStart classFile x code maxLocals ret World_1 tables_1 room_1 Calls_1 rest_1 Pre_1 launch0 p0 e0 about1 theMethod args0 below0 :=
  ⟨lists_1, trivial, launch0.admits_env _ _ _, launch0.least_env, fairChoices_fair.cas, fairChoices_fair.clock, w_frames, w_args, w_heap, w_applies, trivial, trivial, w_case⟩
end start1
theorem witness_1 : WitnessClaimed_1 := ⟨start1.p0, start1.e0, start1.about1, start1.theMethod, start1.args0, start1.below0, start1.atStart⟩
end Jvm.Pilot.@@N@@
