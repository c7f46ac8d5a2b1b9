import JvmDerived
import JvmDerived.Pilot.@@N@@Statement
import JvmDerived.Pilot.@@N@@Code
set_option linter.unusedVariables false
set_option linter.unusedSimpArgs false
namespace Jvm.RoadKit
open Sem ClassFile Op Lib Jvm.Stand Jvm.Free Jvm.LawKit
section OwnKit
variable {p : Program} {l : Launch} {e : Env} {R : Room} {s : State} {m : MethodId} {args : Array Value} {below : List Frame} {meth : Method} {c : Code} {T : State} {locs : List Loc} {cells slots : Nat} {Z : State} {a0 : Array Value} {Q : Option Value → Heap → List Loc → Prop} {kc ks : Nat}
/-- the run from A ends, returns, and leaves what Q says -/
def own_Fin (p : Program) (e : Env) (below : List Frame) (s : State) (Q : Option Value → Heap → List Loc → Prop) (kc ks : Nat) (A : State) : Prop :=
  ∃ s₂ o, Steps p.tables e below A s₂ ∧ s₂.status = .running ∧ Ended s₂ below o ∧ ∃ v L, o = .returned v ∧ Q v s₂.heap L ∧ FrameEnd s o s₂ L kc ks
theorem own_go {A A' : State} (h : ∀ t, Steps p.tables e below A' t → Steps p.tables e below A t) (k : own_Fin p e below s Q kc ks A') : own_Fin p e below s Q kc ks A := by
  obtain ⟨s₂, o, h1, r⟩ := k
  exact ⟨s₂, o, h _ h1, r⟩
theorem own_to {A A' : State} (h : Steps p.tables e below A A') (k : own_Fin p e below s Q kc ks A') : own_Fin p e below s Q kc ks A := own_go (fun _ q => h.trans q) k
theorem own_mono {A : State} {Q' : Option Value → Heap → List Loc → Prop} (k : own_Fin p e below s Q kc ks A) (q : ∀ v h L, Q v h L → Q' v h L) : own_Fin p e below s Q' kc ks A := by
  obtain ⟨s₂, o, h1, h2, h3, v, L, h4, h5, h6⟩ := k
  exact ⟨s₂, o, h1, h2, h3, v, L, h4, q _ _ _ h5, h6⟩
/-- what a body knows of itself -/
def own_Ctx (p : Program) (s : State) (m : MethodId) (meth : Method) (c : Code) (Z : State) (a0 : Array Value) (tb : List Cond) (y : MethodName) (bytes : ByteArray) (maxL : Nat) (ret : Option FieldType) : Prop :=
  p.tables.exec = Jvm.exec ∧ c.code = bytes ∧ c.maxLocals = maxL ∧ Z.Warmed39 s.vm ∧ s.vm.findClass y.cls = some m.cls ∧ meth.name = y.name ∧ meth.sig.returnType = ret ∧ meth.locks = false ∧ (∀ d ∈ tb, d.before a0 Z = true)
/-- a contract -/
def own_Met (l : Launch) (Z : State) (y : MethodName) (bytes : ByteArray) (maxL : Nat) (ret : Option FieldType) (ws : List Cond) (rm : Room) (as' : Array Value) (h0 : Heap) (Q : Option Value → Heap → List Loc → Prop) : Prop :=
  MetFree l y (head1 (Cond.code y bytes maxL ret :: ws) rm) (fun a U => a = as' ∧ Z.Warmed39 U.vm ∧ U.heap = h0) (fun _ _ _ _ _ => True) (fun _ U o U' => ∃ v L, o = .returned v ∧ Q v U'.heap L ∧ FrameEnd U o U' L rm.cells rm.slots)
theorem own_enter {y : MethodName} {bytes : ByteArray} {maxL : Nat} {ret : Option FieldType} {rm : Room} {as' : Array Value} {h0 : Heap} {ws tb : List Cond} {Ls : Array Slot} (hp : plainFor y = true) (hef : ∀ m, entryFrame m as' maxL = mkF m 0 Ls []) (hw : ∀ d ∈ tb, d.before a0 Z = true)
    (body : ∀ (p : Program) (e : Env) (s : State) (m : MethodId) (below : List Frame) (meth : Method) (c : Code) (T : State), Stand p l e rm s m as' below meth c T [] 0 0 → own_Ctx p s m meth c Z a0 tb y bytes maxL ret → T.heap = h0 → own_Fin p e below s Q rm.cells rm.slots (T.setTop (mkF m 0 Ls []))) :
    own_Met l Z y bytes maxL ret ws rm as' h0 Q := by
  refine MetFree.of_bodySF hp hisR ?_
  intro p e s m args below meth c s₁ Bd hml0 hP hK
  obtain ⟨rfl, hZ, hh⟩ := hP
  have e0 : s₁.heap = h0 := by rw [← hh, Bd.state]; rfl
  obtain ⟨s₂, o, h1, r⟩ := body p e s m below meth c s₁ (Stand.of_body Bd) ⟨Bd.exec, Bd.bytes, hml0, hZ, findClass_of_methodNamed Bd.named, (name_of_methodNamed Bd.named Bd.method).1, Bd.returns, Bd.notSynchronized, hw⟩ e0
  exact ⟨s₂, o, castTop (hef m) h1, r⟩
/-- a return of a value -/
theorem own_ret (X : Stand p l e R s m args below meth c T locs cells slots) (hlk : meth.locks = false) (hx : p.tables.exec = Jvm.exec) {pc : Nat} {Ls : Array Slot} {w : Value} {t : FieldType} {i : Instr} {rest : List Value} (hret : meth.sig.returnType = some t) (hn : narrow t w = w)
    (hi : (i = .ireturn ∧ (t = .int ∨ t = .boolean ∨ t = .byte ∨ t = .char ∨ t = .short) ∧ ∃ z, w = .int z) ∨ (i = .lreturn ∧ t = .long ∧ ∃ z, w = .long z) ∨ (i = .dreturn ∧ t = .double ∧ ∃ z, w = .double z) ∨ (i = .freturn ∧ t = .float ∧ ∃ z, w = .float z) ∨ (i = .areturn ∧ t.isReference = true ∧ w.isRef = true))
    (hd : decode c.code pc = .ok (i, 1)) (hq : Q (some w) T.heap locs) (hc : cells ≤ kc) (hs : slots ≤ ks) : own_Fin p e below s Q kc ks (T.setTop (mkF m pc Ls (w :: rest))) := by
  obtain ⟨fs, hr, hrun, hended, hW, hsame⟩ := X.leave (v := some w) (fun h => by rw [hret] at h; cases h) hlk
  exact ⟨_, _, retOut X hx hret hn hi hd hr, hrun, hended, _, _, rfl, hq, ⟨_, rfl⟩, hW, hsame.mono hc hs⟩
/-- a return of a boolean, byte, char, short that may be narrowed -/
theorem own_retN (X : Stand p l e R s m args below meth c T locs cells slots) (hlk : meth.locks = false) (hx : p.tables.exec = Jvm.exec) {pc : Nat} {Ls : Array Slot} {z : Int32} {t : FieldType} {rest : List Value} (hret : meth.sig.returnType = some t) (ht : t = .boolean ∨ t = .byte ∨ t = .char ∨ t = .short)
    (hd : decode c.code pc = .ok (.ireturn, 1)) (hq : Q (some (.int (nar t z))) T.heap locs) (hc : cells ≤ kc) (hs : slots ≤ ks) : own_Fin p e below s Q kc ks (T.setTop (mkF m pc Ls (.int z :: rest))) := by
  obtain ⟨fs, hr, hrun, hended, hW, hsame⟩ := X.leave (v := some (.int (nar t z))) (fun h => by rw [hret] at h; cases h) hlk
  exact ⟨_, _, retN X hx hret ht hd hr, hrun, hended, _, _, rfl, hq, ⟨_, rfl⟩, hW, hsame.mono hc hs⟩
/-- a return of nothing -/
theorem own_ret0 (X : Stand p l e R s m args below meth c T locs cells slots) (hlk : meth.locks = false) (hx : p.tables.exec = Jvm.exec) {pc : Nat} {Ls : Array Slot} (hret : meth.sig.returnType = none)
    (hd : decode c.code pc = .ok (.return_, 1)) (hq : Q none T.heap locs) (hc : cells ≤ kc) (hs : slots ≤ ks) : own_Fin p e below s Q kc ks (T.setTop (mkF m pc Ls [])) := by
  obtain ⟨fs, hr, hrun, hended, hW, hsame⟩ := X.leave (v := none) (fun _ => rfl) hlk
  exact ⟨_, _, X.returnOut hx hret hd hr, hrun, hended, _, _, rfl, hq, ⟨_, rfl⟩, hW, hsame.mono hc hs⟩
/-- calls by contract -/
theorem own_callS (X : Stand p l e R s m args below meth c T locs cells slots) (hx : p.tables.exec = Jvm.exec) (hZ : Z.Warmed39 s.vm) {h : Heap} (eT : T.heap = h) {own : String} {index : Nat} {y : MethodName} {bytes : ByteArray} {maxL : Nat} {ret : Option FieldType} (hown : s.vm.findClass own = some m.cls)
    (w1 : (Cond.methodLink own index y).before a0 Z = true) (w2 : (Cond.static y).before a0 Z = true) (w3 : (Cond.initialized y.cls).before a0 Z = true) (w4 : (Cond.code y bytes maxL ret).before a0 Z = true) (hy : y.cls ≠ "java/lang/invoke/MethodHandle" ∧ y.cls ≠ "java/lang/invoke/VarHandle")
    {rm : Room} {argsL rest : List Value} (hM : own_Met l Z y bytes maxL ret [] rm argsL.toArray h Q) (hf : rm.frames + 1 ≤ R.frames) (W : Nat) (hl : W + (maxL + 11) + rm.locals ≤ R.locals) (hcR : cells + rm.cells ≤ R.cells) (hsR : slots + rm.slots ≤ R.slots)
    {g : JFrame} (hg : g.method = m) (hsize : g.locals.size = c.maxLocals) (hlen : ∀ sig, parseMethodDescriptor y.desc = some sig → argsL.length = sig.parameters.length) (hstack : g.stack = argsL.reverse ++ rest) (hW : 2 * g.monitorRoom + (rest.map fun v => v.category).sum ≤ W) (hdg : decode c.code g.pc = .ok (.invokestatic index, 3)) :
    ∃ v T' L, Stand p l e R s m args below meth c T' (locs ++ L) (cells + rm.cells) (slots + rm.slots) ∧ Q v T'.heap L ∧ ∀ target, Steps p.tables e below (T'.setTop { g with pc := g.pc + 3, stack := v.toList ++ rest }) target → Steps p.tables e below (T.setTop g) target := by
  obtain ⟨v, _, ⟨T', L', k', n'⟩, -, X', ⟨L, hQ, l1, y1, z1⟩, st⟩ := Jvm.LawKit.callS X hx hown (mvT hZ w1) (mvT hZ w2) (mvT hZ w3) (mvT hZ w4) hy (backOf (W := W) hM hZ w4 w3 hf hl) hg hsize hlen hstack hW hdg (fun _ _ => ⟨rfl, eT, hcR, hsR⟩)
  dsimp only [Pt.U, Pt.locs, Pt.cells, Pt.slots] at X' l1 y1 z1 st hQ
  subst l1 y1 z1
  exact ⟨v, T', L, X', hQ, st⟩
/-- a result, and nothing else -/
def own_QP (r : Option Value) (h0 : Heap) (v : Option Value) (h : Heap) (L : List Loc) : Prop := v = r ∧ L = [] ∧ h = h0
theorem own_callP (X : Stand p l e R s m args below meth c T locs cells slots) (hx : p.tables.exec = Jvm.exec) (hZ : Z.Warmed39 s.vm) {h : Heap} (eT : T.heap = h) {own : String} {index : Nat} {y : MethodName} {bytes : ByteArray} {maxL : Nat} {ret : Option FieldType} (hown : s.vm.findClass own = some m.cls)
    (w1 : (Cond.methodLink own index y).before a0 Z = true) (w2 : (Cond.static y).before a0 Z = true) (w3 : (Cond.initialized y.cls).before a0 Z = true) (w4 : (Cond.code y bytes maxL ret).before a0 Z = true) (hy : y.cls ≠ "java/lang/invoke/MethodHandle" ∧ y.cls ≠ "java/lang/invoke/VarHandle")
    {fr lo : Nat} {r : Option Value} {argsL rest : List Value} (hM : own_Met l Z y bytes maxL ret [] { frames := fr, cells := 0, slots := 0, locals := lo } argsL.toArray h (own_QP r h)) (hf : fr + 1 ≤ R.frames) (W : Nat) (hl : W + (maxL + 11) + lo ≤ R.locals) (hcR : cells ≤ R.cells) (hsR : slots ≤ R.slots)
    {g : JFrame} (hg : g.method = m) (hsize : g.locals.size = c.maxLocals) (hlen : ∀ sig, parseMethodDescriptor y.desc = some sig → argsL.length = sig.parameters.length) (hstack : g.stack = argsL.reverse ++ rest) (hW : 2 * g.monitorRoom + (rest.map fun v => v.category).sum ≤ W) (hdg : decode c.code g.pc = .ok (.invokestatic index, 3)) :
    ∃ T', Stand p l e R s m args below meth c T' locs cells slots ∧ T'.heap = h ∧ ∀ target, Steps p.tables e below (T'.setTop { g with pc := g.pc + 3, stack := r.toList ++ rest }) target → Steps p.tables e below (T.setTop g) target := by
  obtain ⟨v, T', L, X', ⟨rfl, rfl, e1⟩, st⟩ := own_callS X hx hZ eT hown w1 w2 w3 w4 hy hM hf W hl hcR hsR hg hsize hlen hstack hW hdg
  rw [List.append_nil] at X'
  exact ⟨T', X', e1, st⟩
theorem own_callI (X : Stand p l e R s m args below meth c T locs cells slots) (hx : p.tables.exec = Jvm.exec) (hZ : Z.Warmed39 s.vm) {h : Heap} (eT : T.heap = h) {own : String} {index : Nat} {y : MethodName} {bytes : ByteArray} {maxL : Nat} (hy1 : y.name = "<init>") (hown : s.vm.findClass own = some m.cls)
    (w1 : (Cond.methodLink own index y).before a0 Z = true) (w2 : (Cond.instanceMethod y).before a0 Z = true) (w3 : (Cond.initialized y.cls).before a0 Z = true) (w4 : (Cond.code y bytes maxL none).before a0 Z = true) (hy : y.cls ≠ "java/lang/invoke/MethodHandle" ∧ y.cls ≠ "java/lang/invoke/VarHandle")
    {rm : Room} {a : Addr} {argsL rest : List Value} (hM : own_Met l Z y bytes maxL none [] rm (.ref a :: argsL).toArray h Q) (hf : rm.frames + 1 ≤ R.frames) (W : Nat) (hl : W + (maxL + 11) + rm.locals ≤ R.locals) (hcR : cells + rm.cells ≤ R.cells) (hsR : slots + rm.slots ≤ R.slots)
    {g : JFrame} (hg : g.method = m) (hsize : g.locals.size = c.maxLocals) (hlen : ∀ sig, parseMethodDescriptor y.desc = some sig → argsL.length = sig.parameters.length) (hstack : g.stack = argsL.reverse ++ .ref a :: rest) (hW : 2 * g.monitorRoom + (rest.map fun v => v.category).sum ≤ W) (hdg : decode c.code g.pc = .ok (.invokespecial index, 3)) :
    ∃ v T' L, Stand p l e R s m args below meth c T' (locs ++ L) (cells + rm.cells) (slots + rm.slots) ∧ Q v T'.heap L ∧ ∀ target, Steps p.tables e below (T'.setTop { g with pc := g.pc + 3, stack := v.toList ++ rest }) target → Steps p.tables e below (T.setTop g) target := by
  obtain ⟨v, _, ⟨T', L', k', n'⟩, -, X', ⟨L, hQ, l1, y1, z1⟩, st⟩ := X.specialBack hx hy1 hown (mvT hZ w1) (mvT hZ w2) (mvT hZ w4) hy (backOf (W := W) hM hZ w4 w3 hf hl) hg hsize (Steps.refl _) hlen hstack hW hdg (fun _ _ => ⟨rfl, eT, hcR, hsR⟩)
  dsimp only [Pt.U, Pt.locs, Pt.cells, Pt.slots] at X' l1 y1 z1 st hQ
  subst l1 y1 z1
  exact ⟨v, T', L, X', hQ, fun _ q => st.trans q⟩
theorem own_callIP (X : Stand p l e R s m args below meth c T locs cells slots) (hx : p.tables.exec = Jvm.exec) (hZ : Z.Warmed39 s.vm) {h : Heap} (eT : T.heap = h) {own : String} {index : Nat} {y : MethodName} {bytes : ByteArray} {maxL : Nat} (hy1 : y.name = "<init>") (hown : s.vm.findClass own = some m.cls)
    (w1 : (Cond.methodLink own index y).before a0 Z = true) (w2 : (Cond.instanceMethod y).before a0 Z = true) (w3 : (Cond.initialized y.cls).before a0 Z = true) (w4 : (Cond.code y bytes maxL none).before a0 Z = true) (hy : y.cls ≠ "java/lang/invoke/MethodHandle" ∧ y.cls ≠ "java/lang/invoke/VarHandle")
    {fr lo : Nat} {a : Addr} {argsL rest : List Value} (hM : own_Met l Z y bytes maxL none [] { frames := fr, cells := 0, slots := 0, locals := lo } (.ref a :: argsL).toArray h (own_QP none h)) (hf : fr + 1 ≤ R.frames) (W : Nat) (hl : W + (maxL + 11) + lo ≤ R.locals) (hcR : cells ≤ R.cells) (hsR : slots ≤ R.slots)
    {g : JFrame} (hg : g.method = m) (hsize : g.locals.size = c.maxLocals) (hlen : ∀ sig, parseMethodDescriptor y.desc = some sig → argsL.length = sig.parameters.length) (hstack : g.stack = argsL.reverse ++ .ref a :: rest) (hW : 2 * g.monitorRoom + (rest.map fun v => v.category).sum ≤ W) (hdg : decode c.code g.pc = .ok (.invokespecial index, 3)) :
    ∃ T', Stand p l e R s m args below meth c T' locs cells slots ∧ T'.heap = h ∧ ∀ target, Steps p.tables e below (T'.setTop { g with pc := g.pc + 3, stack := rest }) target → Steps p.tables e below (T.setTop g) target := by
  obtain ⟨v, T', L, X', ⟨rfl, rfl, e1⟩, st⟩ := own_callI X hx hZ eT hy1 hown w1 w2 w3 w4 hy hM hf W hl hcR hsR hg hsize hlen hstack hW hdg
  rw [List.append_nil] at X'
  exact ⟨T', X', e1, st⟩
theorem own_callV (X : Stand p l e R s m args below meth c T locs cells slots) (hx : p.tables.exec = Jvm.exec) (hZ : Z.Warmed39 s.vm) {h : Heap} (eT : T.heap = h) {own C : String} {index : Nat} {y : MethodName} {bytes : ByteArray} {maxL : Nat} {ret : Option FieldType} (hown : s.vm.findClass own = some m.cls)
    (w1 : (Cond.methodLink own index y).before a0 Z = true) (wd : (Cond.declares y).before a0 Z = true) (ws : (Cond.selects C y y).before a0 Z = true) (w2 : (Cond.instanceMethod y).before a0 Z = true) (w3 : (Cond.initialized y.cls).before a0 Z = true) (w4 : (Cond.code y bytes maxL ret).before a0 Z = true) (hy : y.cls ≠ "java/lang/invoke/MethodHandle" ∧ y.cls ≠ "java/lang/invoke/VarHandle")
    {rm : Room} {a : Addr} (hE : Exa Z h a C) {argsL rest : List Value} (hM : own_Met l Z y bytes maxL ret [] rm (.ref a :: argsL).toArray h Q) (hf : rm.frames + 1 ≤ R.frames) (W : Nat) (hl : W + (maxL + 11) + rm.locals ≤ R.locals) (hcR : cells + rm.cells ≤ R.cells) (hsR : slots + rm.slots ≤ R.slots)
    {g : JFrame} (hg : g.method = m) (hsize : g.locals.size = c.maxLocals) (hlen : ∀ sig, parseMethodDescriptor y.desc = some sig → argsL.length = sig.parameters.length) (hstack : g.stack = argsL.reverse ++ .ref a :: rest) (hW : 2 * g.monitorRoom + (rest.map fun v => v.category).sum ≤ W) (hdg : decode c.code g.pc = .ok (.invokevirtual index, 3)) :
    ∃ v T' L, Stand p l e R s m args below meth c T' (locs ++ L) (cells + rm.cells) (slots + rm.slots) ∧ Q v T'.heap L ∧ ∀ target, Steps p.tables e below (T'.setTop { g with pc := g.pc + 3, stack := v.toList ++ rest }) target → Steps p.tables e below (T.setTop g) target := by
  obtain ⟨cq, kq, qa, qb, qc⟩ := isOf hZ eT hE
  obtain ⟨v, _, ⟨T', L', k', n'⟩, -, X', ⟨L, hQ, l1, y1, z1⟩, st⟩ := X.virtualBack hx hown (mvT hZ w1) (mvT hZ wd) (notFace_of_selects (args := #[]) (mvT hZ ws)) (mvT hZ ws) (mvT hZ w2) hy (backOf (W := W) hM hZ w4 w3 hf hl) qa qc hg hsize (Steps.refl _) hlen hstack hW hdg (fun _ _ => ⟨rfl, eT, hcR, hsR⟩)
  dsimp only [Pt.U, Pt.locs, Pt.cells, Pt.slots] at X' l1 y1 z1 st hQ
  subst l1 y1 z1
  exact ⟨v, T', L, X', hQ, fun _ q => st.trans q⟩
/-- a virtual call that only reads -/
theorem own_callVP (X : Stand p l e R s m args below meth c T locs cells slots) (hx : p.tables.exec = Jvm.exec) (hZ : Z.Warmed39 s.vm) {h : Heap} (eT : T.heap = h) {own C : String} {index : Nat} {y : MethodName} {bytes : ByteArray} {maxL : Nat} {ret : Option FieldType} (hown : s.vm.findClass own = some m.cls)
    (w1 : (Cond.methodLink own index y).before a0 Z = true) (wd : (Cond.declares y).before a0 Z = true) (ws : (Cond.selects C y y).before a0 Z = true) (w2 : (Cond.instanceMethod y).before a0 Z = true) (w3 : (Cond.initialized y.cls).before a0 Z = true) (w4 : (Cond.code y bytes maxL ret).before a0 Z = true) (hy : y.cls ≠ "java/lang/invoke/MethodHandle" ∧ y.cls ≠ "java/lang/invoke/VarHandle")
    {fr lo : Nat} {r : Option Value} {a : Addr} (hE : Exa Z h a C) {argsL rest : List Value} (hM : own_Met l Z y bytes maxL ret [] { frames := fr, cells := 0, slots := 0, locals := lo } (.ref a :: argsL).toArray h (own_QP r h)) (hf : fr + 1 ≤ R.frames) (W : Nat) (hl : W + (maxL + 11) + lo ≤ R.locals) (hcR : cells ≤ R.cells) (hsR : slots ≤ R.slots)
    {g : JFrame} (hg : g.method = m) (hsize : g.locals.size = c.maxLocals) (hlen : ∀ sig, parseMethodDescriptor y.desc = some sig → argsL.length = sig.parameters.length) (hstack : g.stack = argsL.reverse ++ .ref a :: rest) (hW : 2 * g.monitorRoom + (rest.map fun v => v.category).sum ≤ W) (hdg : decode c.code g.pc = .ok (.invokevirtual index, 3)) :
    ∃ T', Stand p l e R s m args below meth c T' locs cells slots ∧ T'.heap = h ∧ ∀ target, Steps p.tables e below (T'.setTop { g with pc := g.pc + 3, stack := r.toList ++ rest }) target → Steps p.tables e below (T.setTop g) target := by
  obtain ⟨v, T', L, X', ⟨rfl, rfl, e1⟩, st⟩ := own_callV X hx hZ eT hown w1 wd ws w2 w3 w4 hy hE hM hf W hl hcR hsR hg hsize hlen hstack hW hdg
  rw [List.append_nil] at X'
  exact ⟨T', X', e1, st⟩
/-- an array of ints or bytes, its elements by a function -/
def own_A (Z : State) (h : Heap) (a : Addr) (ty : FieldType) (z : Int32) (f : Int32 → Int32) : Prop :=
  ∃ cl : Cell, Arr Z h a cl ty ∧ cl.slots.size = z.toNatClampNeg ∧ ¬ z < 0 ∧ ∀ j : Int32, ¬ j < 0 → j < z → cl.slots[j.toNatClampNeg]? = some (.int (f j))
section A
variable {h h' : Heap} {a b : Addr} {ty : FieldType} {z : Int32} {f : Int32 → Int32} {ws : List Addr} {sl : Nat} {v : Value}
theorem own_A.lt (F : own_A Z h a ty z f) : a < h.size := by obtain ⟨cl, A, -⟩ := F; exact A.lt
theorem own_A.ext (F : own_A Z h a ty z f) (E : Ext h h') : own_A Z h' a ty z f := by obtain ⟨cl, A, r⟩ := F; exact ⟨cl, A.ext E, r⟩
theorem own_A.other (F : own_A Z h a ty z f) (W : Wr h h' b sl v) (q : a ≠ b) : own_A Z h' a ty z f := by obtain ⟨cl, A, r⟩ := F; exact ⟨cl, A.other W q, r⟩
theorem own_A.keep (F : own_A Z h a ty z f) (K : Keep h h' ws) (q : a ∉ ws) : own_A Z h' a ty z f := by obtain ⟨cl, A, r⟩ := F; exact ⟨cl, ⟨K.2.1 a cl A.1 q, A.2⟩, r⟩
theorem own_A.cong (F : own_A Z h a ty z f) {f' : Int32 → Int32} (q : ∀ j : Int32, ¬ j < 0 → j < z → f j = f' j) : own_A Z h a ty z f' := by
  obtain ⟨cl, A, S, n, H⟩ := F
  exact ⟨cl, A, S, n, fun j h1 h2 => by rw [← q j h1 h2]; exact H j h1 h2⟩
theorem own_A.set (F : own_A Z h a ty z f) {j w : Int32} (h0 : ¬ j < 0) (hj : j < z) (W : Wr h h' a j.toNatClampNeg (.int w)) : own_A Z h' a ty z (fun i => if i = j then w else f i) := by
  obtain ⟨cl, A, S, n, H⟩ := F
  refine ⟨_, A.same W, by rw [sz_set]; exact S, n, fun i h1 h2 => ?_⟩
  by_cases q : i = j
  · rw [get_hit (inb_of S ⟨h0, hj⟩) q]; show _ = some (Value.int (if i = j then w else f i)); rw [if_pos q]
  · rw [get_miss h0 h1 q, H i h1 h2]; show _ = some (Value.int (if i = j then w else f i)); rw [if_neg q]
theorem own_A.new {k : ClassId} (A : Arr Z h a (newA k ty z) ty) (q : ¬ z < 0) (d : defaultValue ty = .int 0) : own_A Z h a ty z (fun _ => 0) :=
  ⟨_, A, sz_new _ _ _, q, fun j h1 h2 => by rw [get_new (by have := inb_of (sz_new k ty z) ⟨h1, h2⟩; rw [sz_new] at this; exact this), d]⟩
theorem own_A.nn (F : own_A Z h a ty z f) : ¬ z < 0 := by obtain ⟨cl, A, S, n, H⟩ := F; exact n
end A
theorem own_newI (X : Stand p l e R s m args below meth c T locs cells slots) (hx : p.tables.exec = Jvm.exec) (hZ : Z.Warmed39 s.vm) {h : Heap} (eT : T.heap = h) (w : (Cond.arrayClass .int).before a0 Z = true) {g : JFrame} (hg : g.method = m) (hd : decode c.code g.pc = .ok (.newarray .int, 2)) {n : Int32} {rest : List Value} (hs : g.stack = .int n :: rest)
    (hn : ¬ n < 0) (cap : Nat) (hcap : n.toNatClampNeg ≤ cap) (hb : cap * 8 ≤ 536870912) (hc : cells + 1 ≤ R.cells) (hl : slots + cap ≤ R.slots) :
    ∃ T' a, Stand p l e R s m args below meth c T' locs (cells + 1) (slots + cap) ∧ Ext h T'.heap ∧ a = h.size ∧ own_A Z T'.heap a .int n (fun _ => 0) ∧ ∀ target, Steps p.tables e below (T'.setTop { g with pc := g.pc + 2, stack := .ref a :: rest }) target → Steps p.tables e below (T.setTop g) target := by
  obtain ⟨T', h', cA, X', e1, E, A, st⟩ := newP (aty := .int) X hx hZ w eT hg hd hs hn hcap hb hc hl
  subst e1
  exact ⟨T', _, X', E, rfl, own_A.new A hn rfl, st⟩
theorem own_newB (X : Stand p l e R s m args below meth c T locs cells slots) (hx : p.tables.exec = Jvm.exec) (hZ : Z.Warmed39 s.vm) {h : Heap} (eT : T.heap = h) (w : (Cond.arrayClass .byte).before a0 Z = true) {g : JFrame} (hg : g.method = m) (hd : decode c.code g.pc = .ok (.newarray .byte, 2)) {n : Int32} {rest : List Value} (hs : g.stack = .int n :: rest)
    (hn : ¬ n < 0) (cap : Nat) (hcap : n.toNatClampNeg ≤ cap) (hb : cap * 8 ≤ 536870912) (hc : cells + 1 ≤ R.cells) (hl : slots + cap ≤ R.slots) :
    ∃ T' a, Stand p l e R s m args below meth c T' locs (cells + 1) (slots + cap) ∧ Ext h T'.heap ∧ a = h.size ∧ own_A Z T'.heap a .byte n (fun _ => 0) ∧ ∀ target, Steps p.tables e below (T'.setTop { g with pc := g.pc + 2, stack := .ref a :: rest }) target → Steps p.tables e below (T.setTop g) target := by
  obtain ⟨T', h', cA, X', e1, E, A, st⟩ := newP (aty := .byte) X hx hZ w eT hg hd hs hn hcap hb hc hl
  subst e1
  exact ⟨T', _, X', E, rfl, own_A.new A hn rfl, st⟩
theorem own_stI (X : Stand p l e R s m args below meth c T locs cells slots) (hx : p.tables.exec = Jvm.exec) (hZ : Z.Warmed39 s.vm) {h : Heap} (eT : T.heap = h) {a : Addr} {z : Int32} {f : Int32 → Int32} (F : own_A Z h a .int z f) {j x : Int32} (h0 : ¬ j < 0) (hj : j < z) {g : JFrame} (hg : g.method = m) {rest : List Value} (hs : g.stack = .int x :: .int j :: .ref a :: rest) (hd : decode c.code g.pc = .ok (.iastore, 1)) :
    ∃ T', Stand p l e R s m args below meth c T' (locs ++ [⟨a, j.toNatClampNeg⟩]) cells slots ∧ Wr h T'.heap a j.toNatClampNeg (.int x) ∧ own_A Z T'.heap a .int z (fun i => if i = j then x else f i) ∧ ∀ target, Steps p.tables e below (T'.setTop { g with pc := g.pc + 1, stack := rest }) target → Steps p.tables e below (T.setTop g) target := by
  obtain ⟨cl, A, S, n, H⟩ := id F
  obtain ⟨T', h', X', e1, W, st⟩ := stI X hx hZ eT A (inb_of S ⟨h0, hj⟩) hg hs hd
  subst e1
  exact ⟨T', X', W, F.set h0 hj W, st⟩
theorem own_stB (X : Stand p l e R s m args below meth c T locs cells slots) (hx : p.tables.exec = Jvm.exec) (hZ : Z.Warmed39 s.vm) {h : Heap} (eT : T.heap = h) {a : Addr} {z : Int32} {f : Int32 → Int32} (F : own_A Z h a .byte z f) {j x : Int32} (h0 : ¬ j < 0) (hj : j < z) {g : JFrame} (hg : g.method = m) {rest : List Value} (hs : g.stack = .int x :: .int j :: .ref a :: rest) (hd : decode c.code g.pc = .ok (.bastore, 1)) :
    ∃ T', Stand p l e R s m args below meth c T' (locs ++ [⟨a, j.toNatClampNeg⟩]) cells slots ∧ Wr h T'.heap a j.toNatClampNeg (.int x.toInt8.toInt32) ∧ own_A Z T'.heap a .byte z (fun i => if i = j then x.toInt8.toInt32 else f i) ∧ ∀ target, Steps p.tables e below (T'.setTop { g with pc := g.pc + 1, stack := rest }) target → Steps p.tables e below (T.setTop g) target := by
  obtain ⟨cl, A, S, n, H⟩ := id F
  obtain ⟨T', h', X', e1, W, st⟩ := stB X hx hZ eT A (inb_of S ⟨h0, hj⟩) hg hs hd
  subst e1
  exact ⟨T', X', W, F.set h0 hj W, st⟩
theorem own_ldI (X : Stand p l e R s m args below meth c T locs cells slots) (hx : p.tables.exec = Jvm.exec) (hZ : Z.Warmed39 s.vm) {h : Heap} (eT : T.heap = h) {a : Addr} {z : Int32} {f : Int32 → Int32} (F : own_A Z h a .int z f) {j : Int32} (h0 : ¬ j < 0) (hj : j < z) {g : JFrame} (hg : g.method = m) {rest : List Value} (hs : g.stack = .int j :: .ref a :: rest) (hd : decode c.code g.pc = .ok (.iaload, 1)) :
    ∀ target, Steps p.tables e below (T.setTop { g with pc := g.pc + 1, stack := .int (f j) :: rest }) target → Steps p.tables e below (T.setTop g) target := by
  obtain ⟨cl, A, S, n, H⟩ := id F
  exact fun target q => X.iaload hx (by rw [eT]; exact A.1) (State.isArrayOf_alike hZ.alike A.2.1) A.2.2 (inb_of S ⟨h0, hj⟩) (H j h0 hj) hg hs hd target q
theorem own_ldB (X : Stand p l e R s m args below meth c T locs cells slots) (hx : p.tables.exec = Jvm.exec) (hZ : Z.Warmed39 s.vm) {h : Heap} (eT : T.heap = h) {a : Addr} {z : Int32} {f : Int32 → Int32} (F : own_A Z h a .byte z f) {j : Int32} (h0 : ¬ j < 0) (hj : j < z) {g : JFrame} (hg : g.method = m) {rest : List Value} (hs : g.stack = .int j :: .ref a :: rest) (hd : decode c.code g.pc = .ok (.baload, 1)) :
    ∀ target, Steps p.tables e below (T.setTop { g with pc := g.pc + 1, stack := .int (f j) :: rest }) target → Steps p.tables e below (T.setTop g) target := by
  obtain ⟨cl, A, S, n, H⟩ := id F
  exact fun target q => X.baloadBytes hx (by rw [eT]; exact A.1) (State.isArrayOf_alike hZ.alike A.2.1) A.2.2 (inb_of S ⟨h0, hj⟩) (H j h0 hj) hg hs hd target q
theorem own_len (X : Stand p l e R s m args below meth c T locs cells slots) (hx : p.tables.exec = Jvm.exec) (hZ : Z.Warmed39 s.vm) {h : Heap} (eT : T.heap = h) {a : Addr} {ty : FieldType} {z : Int32} {f : Int32 → Int32} (F : own_A Z h a ty z f) {g : JFrame} (hg : g.method = m) {rest : List Value} (hs : g.stack = .ref a :: rest) (hd : decode c.code g.pc = .ok (.arraylength, 1)) :
    ∀ target, Steps p.tables e below (T.setTop { g with pc := g.pc + 1, stack := .int z :: rest }) target → Steps p.tables e below (T.setTop g) target := by
  obtain ⟨cl, A, S, n, H⟩ := id F
  exact fun target q => X.arraylength hx (by rw [eT]; exact A.1) (State.isArrayOf_alike hZ.alike A.2.1) hg hs hd target (by rw [len_of S n]; exact q)
/-- fields -/
theorem own_getF (X : Stand p l e R s m args below meth c T locs cells slots) (hx : p.tables.exec = Jvm.exec) (hZ : Z.Warmed39 s.vm) {h : Heap} (eT : T.heap = h) {own O n d : String} {index : Nat} (hown : s.vm.findClass own = some m.cls) (w : (Cond.fieldLink own index O n d).before a0 Z = true)
    {a : Addr} {v : Value} (F : Fld Z h a O n d v) {g : JFrame} (hg : g.method = m) {rest : List Value} (hs : g.stack = .ref a :: rest) (hd : decode c.code g.pc = .ok (.getfield index, 3)) :
    ∃ T', Stand p l e R s m args below meth c T' locs cells slots ∧ T'.heap = h ∧ ∀ target, Steps p.tables e below (T'.setTop { g with pc := g.pc + 3, stack := v :: rest }) target → Steps p.tables e below (T.setTop g) target :=
  getF X hx hZ hown (host := "") (Or.inl w) Via.refl eT F hg hs hd
theorem own_putF (X : Stand p l e R s m args below meth c T locs cells slots) (hx : p.tables.exec = Jvm.exec) (hZ : Z.Warmed39 s.vm) {h : Heap} (eT : T.heap = h) {own O n d C : String} {index kk : Nat} {ty : FieldType} (hown : s.vm.findClass own = some m.cls) (w : (Cond.fieldLink own index O n d).before a0 Z = true)
    {a : Addr} {v old : Value} (F : Fld Z h a O n d old) (E : Exa Z h a C) (L : (Cond.lays C O n d).before a0 Z = true ∨ ((Cond.laysFinal C O n d).before a0 Z = true ∧ own = O ∧ meth.name = "<init>")) (wi : (Cond.instantiable C kk).before a0 Z = true)
    (hty : parseFieldDescriptor d = some ty) (hn : narrow ty v = v) (hf : fits ty v = true) {g : JFrame} (hg : g.method = m) {rest : List Value} (hs : g.stack = v :: .ref a :: rest) (hd : decode c.code g.pc = .ok (.putfield index, 3)) :
    ∃ T', Stand p l e R s m args below meth c T' (locs ++ [⟨a, slotOf Z O n d⟩]) cells slots ∧ Wr h T'.heap a (slotOf Z O n d) v ∧ ∀ target, Steps p.tables e below (T'.setTop { g with pc := g.pc + 3, stack := rest }) target → Steps p.tables e below (T.setTop g) target := by
  obtain ⟨T', h', X', e1, W, st⟩ := putF X hx hZ hown (host := "") (Or.inl w) Via.refl eT F E L wi hty hn hf hg hs hd
  subst e1
  exact ⟨T', X', W, st⟩
/-- comparisons with literals, through Int -/
theorem own_lt {x k : Int32} (K : Int) (hk : k.toInt = K) (h : x.toInt < K) : x < k := by rw [Int32.lt_iff_toInt_lt, hk]; exact h
theorem own_nlt {x k : Int32} (K : Int) (hk : k.toInt = K) (h : K ≤ x.toInt) : ¬ x < k := by rw [Int32.lt_iff_toInt_lt, hk]; omega
theorem own_gt {x k : Int32} (K : Int) (hk : k.toInt = K) (h : K < x.toInt) : k < x := by rw [Int32.lt_iff_toInt_lt, hk]; exact h
theorem own_ngt {x k : Int32} (K : Int) (hk : k.toInt = K) (h : x.toInt ≤ K) : ¬ k < x := by rw [Int32.lt_iff_toInt_lt, hk]; omega
theorem own_ieq {x k : Int32} (K : Int) (hk : k.toInt = K) (h : x.toInt = K) : x = k := Int32.toInt_inj.mp (by rw [hk]; exact h)
theorem own_ineq {x k : Int32} (K : Int) (hk : k.toInt = K) (h : x.toInt < K ∨ K < x.toInt) : ¬ x = k := fun q => by subst q; omega
end OwnKit
end Jvm.RoadKit
namespace Jvm.RoadKit
open Sem ClassFile Op Lib Jvm.Stand Jvm.Free Jvm.LawKit
theorem own_mask31 (b : Int32) : 0 ≤ (b &&& 2147483647).toInt := by
  have h := c_mask b 2147483647 31 (by decide) (by decide)
  rw [h]; exact Int.emod_nonneg _ (by decide)
theorem own_modpos (b k : Int32) (K : Int) (hk : k.toInt = K) (h0 : 0 < K) : 0 ≤ ((b &&& 2147483647) % k).toInt ∧ ((b &&& 2147483647) % k).toInt < K := by
  rw [(c_irem (b &&& 2147483647) k K hk).1 (own_mask31 b)]
  exact ⟨Int.emod_nonneg _ (by omega), Int.emod_lt_of_pos _ h0⟩
theorem own_maskpos (b m : Int32) (k : Nat) (hk : k ≤ 31) (hm : m.toBitVec.toNat = 2 ^ k - 1) (K : Int) (hK : K = ((2 ^ k : Nat) : Int)) (h0 : 0 < K) : 0 ≤ (b &&& m).toInt ∧ (b &&& m).toInt < K := by
  rw [c_mask b m k hk hm, ← hK]
  exact ⟨Int.emod_nonneg _ (by omega), Int.emod_lt_of_pos _ h0⟩
end Jvm.RoadKit
namespace Jvm.RoadKit
open Sem ClassFile Op Lib Jvm.Stand Jvm.Free Jvm.LawKit
theorem own_clamp (n : Int32) (k : Nat) (h : n.toInt ≤ k) : n.toNatClampNeg ≤ k := by
  show n.toInt.toNat ≤ k
  omega
theorem own_bb (x : Int32) : x.toInt8.toInt32.toInt8.toInt32 = x.toInt8.toInt32 := by rw [Int8.toInt8_toInt32]
theorem own_ltT {x y : Int32} (h : x < y) : x.toInt < y.toInt := Int32.lt_iff_toInt_lt.mp h
theorem own_nltT {x y : Int32} (h : ¬ x < y) : y.toInt ≤ x.toInt := by rw [Int32.lt_iff_toInt_lt] at h; omega
theorem own_Tlt {x y : Int32} (h : x.toInt < y.toInt) : x < y := Int32.lt_iff_toInt_lt.mpr h
theorem own_Tnlt {x y : Int32} (h : y.toInt ≤ x.toInt) : ¬ x < y := by rw [Int32.lt_iff_toInt_lt]; omega
theorem own_neT {x y : Int32} (h : ¬ x = y) : ¬ x.toInt = y.toInt := fun q => h (Int32.toInt_inj.mp q)
end Jvm.RoadKit
namespace Jvm.Pilot.@@N@@
open Jvm Jvm.ClassFile Sem Op Lib Jvm.Free Jvm.Stand Jvm.LawKit Jvm.RoadKit Bundle Jvm.Pilot.@@N@@.Jvm.D
theorem own_d2_0 : decode prog_36_method_2_code 0 = .ok (.iload_n 0, 1) := by decide +kernel
theorem own_d2_1 : decode prog_36_method_2_code 1 = .ok (.bipush 29, 2) := by decide +kernel
theorem own_d2_3 : decode prog_36_method_2_code 3 = .ok (.if_icmp .eq 15, 3) := by decide +kernel
theorem own_d2_6 : decode prog_36_method_2_code 6 = .ok (.iload_n 0, 1) := by decide +kernel
theorem own_d2_7 : decode prog_36_method_2_code 7 = .ok (.bipush 30, 2) := by decide +kernel
theorem own_d2_9 : decode prog_36_method_2_code 9 = .ok (.if_icmp .eq 9, 3) := by decide +kernel
theorem own_d2_12 : decode prog_36_method_2_code 12 = .ok (.iload_n 0, 1) := by decide +kernel
theorem own_d2_13 : decode prog_36_method_2_code 13 = .ok (.bipush 31, 2) := by decide +kernel
theorem own_d2_15 : decode prog_36_method_2_code 15 = .ok (.if_icmp .ne 7, 3) := by decide +kernel
theorem own_d2_18 : decode prog_36_method_2_code 18 = .ok (.iconst 1, 1) := by decide +kernel
theorem own_d2_19 : decode prog_36_method_2_code 19 = .ok (.goto 4, 3) := by decide +kernel
theorem own_d2_22 : decode prog_36_method_2_code 22 = .ok (.iconst 0, 1) := by decide +kernel
theorem own_d2_23 : decode prog_36_method_2_code 23 = .ok (.ireturn, 1) := by decide +kernel
theorem own_ef2 (x0 : Int32) : ∀ m, entryFrame m #[(.int x0)] 1 = mkF m 0 #[.val (.int x0)] [] := fun m => by first | (simp [entryFrame, mkF, argsToLocals, Value.category]; done) | rfl
def own_f2_18 (v0 : Int32) : Int32 := (1 : Int32)
set_option maxRecDepth 65536 in
theorem own_b2_18 {l : Launch} {p : Program} {e : Env} {below : List Frame} {s : State} {m : MethodId} {meth : Method} {c : Code} {Z : State} {a0 args : Array Value} {T : State} {h0 : Heap} (X : Stand p l e ({ frames := 0, cells := 0, slots := 0, locals := 0 } : Room) s m args below meth c T [] 0 0) (C : own_Ctx p s m meth c Z a0 tables_1 (⟨"com/example/fondmark/fondmark/marc/Iso2709", "isSeparator", "(I)Z"⟩ : MethodName) prog_36_method_2_code 1 (some .boolean)) (hh : T.heap = h0) (v0 : Int32) :
    own_Fin p e below s (own_QP (some (.int (own_f2_18 v0))) h0) 0 0 (T.setTop (mkF m 18 #[.val (.int v0)] [])) := by
  obtain ⟨hx, hby, hml, hZ, hown, hnm, hret, hlk, hw⟩ := id C
  refine own_go (fun t => XS.iconst X.here hx rfl (hb hby own_d2_18)) ?_
  show own_Fin p e below s (own_QP (some (.int (own_f2_18 v0))) h0) 0 0 (T.setTop (mkF m 19 #[.val (.int v0)] [(.int (1 : Int32))]))
  refine own_go (fun t => XS.goto X.here hx rfl (pc0 := 19) (pc' := 23) rfl (hb hby own_d2_19) (by decide) (by decide)) ?_
  show own_Fin p e below s (own_QP (some (.int (own_f2_18 v0))) h0) 0 0 (T.setTop (mkF m 23 #[.val (.int v0)] [(.int (1 : Int32))]))
  exact own_ret X hlk hx (t := .boolean) hret rfl (Or.inl ⟨rfl, by simp, _, rfl⟩) (hb hby own_d2_23) ⟨rfl, rfl, hh⟩ (by decide) (by decide)
def own_f2_22 (v0 : Int32) : Int32 := (0 : Int32)
set_option maxRecDepth 65536 in
theorem own_b2_22 {l : Launch} {p : Program} {e : Env} {below : List Frame} {s : State} {m : MethodId} {meth : Method} {c : Code} {Z : State} {a0 args : Array Value} {T : State} {h0 : Heap} (X : Stand p l e ({ frames := 0, cells := 0, slots := 0, locals := 0 } : Room) s m args below meth c T [] 0 0) (C : own_Ctx p s m meth c Z a0 tables_1 (⟨"com/example/fondmark/fondmark/marc/Iso2709", "isSeparator", "(I)Z"⟩ : MethodName) prog_36_method_2_code 1 (some .boolean)) (hh : T.heap = h0) (v0 : Int32) :
    own_Fin p e below s (own_QP (some (.int (own_f2_22 v0))) h0) 0 0 (T.setTop (mkF m 22 #[.val (.int v0)] [])) := by
  obtain ⟨hx, hby, hml, hZ, hown, hnm, hret, hlk, hw⟩ := id C
  refine own_go (fun t => XS.iconst X.here hx rfl (hb hby own_d2_22)) ?_
  show own_Fin p e below s (own_QP (some (.int (own_f2_22 v0))) h0) 0 0 (T.setTop (mkF m 23 #[.val (.int v0)] [(.int (0 : Int32))]))
  exact own_ret X hlk hx (t := .boolean) hret rfl (Or.inl ⟨rfl, by simp, _, rfl⟩) (hb hby own_d2_23) ⟨rfl, rfl, hh⟩ (by decide) (by decide)
def own_f2_12 (v0 : Int32) : Int32 := if v0 = (31 : Int32) then (own_f2_18 v0) else (own_f2_22 v0)
set_option maxRecDepth 65536 in
theorem own_b2_12 {l : Launch} {p : Program} {e : Env} {below : List Frame} {s : State} {m : MethodId} {meth : Method} {c : Code} {Z : State} {a0 args : Array Value} {T : State} {h0 : Heap} (X : Stand p l e ({ frames := 0, cells := 0, slots := 0, locals := 0 } : Room) s m args below meth c T [] 0 0) (C : own_Ctx p s m meth c Z a0 tables_1 (⟨"com/example/fondmark/fondmark/marc/Iso2709", "isSeparator", "(I)Z"⟩ : MethodName) prog_36_method_2_code 1 (some .boolean)) (hh : T.heap = h0) (v0 : Int32) :
    own_Fin p e below s (own_QP (some (.int (own_f2_12 v0))) h0) 0 0 (T.setTop (mkF m 12 #[.val (.int v0)] [])) := by
  obtain ⟨hx, hby, hml, hZ, hown, hnm, hret, hlk, hw⟩ := id C
  refine own_go (fun t => XS.iloadN X.here hx rfl (hb hby own_d2_12) rfl) ?_
  show own_Fin p e below s (own_QP (some (.int (own_f2_12 v0))) h0) 0 0 (T.setTop (mkF m 13 #[.val (.int v0)] [(.int v0)]))
  refine own_go (fun t => XS.bipush X.here hx rfl (hb hby own_d2_13)) ?_
  show own_Fin p e below s (own_QP (some (.int (own_f2_12 v0))) h0) 0 0 (T.setTop (mkF m 15 #[.val (.int v0)] [(.int (31 : Int32)), (.int v0)]))
  by_cases hq : v0 = (31 : Int32)
  · show own_Fin p e below s (own_QP (some (.int (own_f2_12 v0))) h0) 0 0 _
    rw [show (own_f2_12 v0) = (own_f2_18 v0) from if_pos hq]
    refine own_go (fun t => XS.icmpNo X.here hx rfl (hb hby own_d2_15) rfl (teq hq).2) ?_
    show own_Fin p e below s (own_QP (some (.int (own_f2_18 v0))) h0) 0 0 (T.setTop (mkF m 18 #[.val (.int v0)] []))
    exact own_b2_18 X C hh v0
  · show own_Fin p e below s (own_QP (some (.int (own_f2_12 v0))) h0) 0 0 _
    rw [show (own_f2_12 v0) = (own_f2_22 v0) from if_neg hq]
    refine own_go (fun t => XS.icmpYes X.here hx rfl (pc0 := 15) (pc' := 22) rfl (hb hby own_d2_15) rfl (feq hq).2 (by decide) (by decide)) ?_
    show own_Fin p e below s (own_QP (some (.int (own_f2_22 v0))) h0) 0 0 (T.setTop (mkF m 22 #[.val (.int v0)] []))
    exact own_b2_22 X C hh v0
def own_f2_6 (v0 : Int32) : Int32 := if v0 = (30 : Int32) then (own_f2_18 v0) else (own_f2_12 v0)
set_option maxRecDepth 65536 in
theorem own_b2_6 {l : Launch} {p : Program} {e : Env} {below : List Frame} {s : State} {m : MethodId} {meth : Method} {c : Code} {Z : State} {a0 args : Array Value} {T : State} {h0 : Heap} (X : Stand p l e ({ frames := 0, cells := 0, slots := 0, locals := 0 } : Room) s m args below meth c T [] 0 0) (C : own_Ctx p s m meth c Z a0 tables_1 (⟨"com/example/fondmark/fondmark/marc/Iso2709", "isSeparator", "(I)Z"⟩ : MethodName) prog_36_method_2_code 1 (some .boolean)) (hh : T.heap = h0) (v0 : Int32) :
    own_Fin p e below s (own_QP (some (.int (own_f2_6 v0))) h0) 0 0 (T.setTop (mkF m 6 #[.val (.int v0)] [])) := by
  obtain ⟨hx, hby, hml, hZ, hown, hnm, hret, hlk, hw⟩ := id C
  refine own_go (fun t => XS.iloadN X.here hx rfl (hb hby own_d2_6) rfl) ?_
  show own_Fin p e below s (own_QP (some (.int (own_f2_6 v0))) h0) 0 0 (T.setTop (mkF m 7 #[.val (.int v0)] [(.int v0)]))
  refine own_go (fun t => XS.bipush X.here hx rfl (hb hby own_d2_7)) ?_
  show own_Fin p e below s (own_QP (some (.int (own_f2_6 v0))) h0) 0 0 (T.setTop (mkF m 9 #[.val (.int v0)] [(.int (30 : Int32)), (.int v0)]))
  by_cases hq : v0 = (30 : Int32)
  · show own_Fin p e below s (own_QP (some (.int (own_f2_6 v0))) h0) 0 0 _
    rw [show (own_f2_6 v0) = (own_f2_18 v0) from if_pos hq]
    refine own_go (fun t => XS.icmpYes X.here hx rfl (pc0 := 9) (pc' := 18) rfl (hb hby own_d2_9) rfl (teq hq).1 (by decide) (by decide)) ?_
    show own_Fin p e below s (own_QP (some (.int (own_f2_18 v0))) h0) 0 0 (T.setTop (mkF m 18 #[.val (.int v0)] []))
    exact own_b2_18 X C hh v0
  · show own_Fin p e below s (own_QP (some (.int (own_f2_6 v0))) h0) 0 0 _
    rw [show (own_f2_6 v0) = (own_f2_12 v0) from if_neg hq]
    refine own_go (fun t => XS.icmpNo X.here hx rfl (hb hby own_d2_9) rfl (feq hq).1) ?_
    show own_Fin p e below s (own_QP (some (.int (own_f2_12 v0))) h0) 0 0 (T.setTop (mkF m 12 #[.val (.int v0)] []))
    exact own_b2_12 X C hh v0
def own_f2_0 (v0 : Int32) : Int32 := if v0 = (29 : Int32) then (own_f2_18 v0) else (own_f2_6 v0)
set_option maxRecDepth 65536 in
theorem own_b2_0 {l : Launch} {p : Program} {e : Env} {below : List Frame} {s : State} {m : MethodId} {meth : Method} {c : Code} {Z : State} {a0 args : Array Value} {T : State} {h0 : Heap} (X : Stand p l e ({ frames := 0, cells := 0, slots := 0, locals := 0 } : Room) s m args below meth c T [] 0 0) (C : own_Ctx p s m meth c Z a0 tables_1 (⟨"com/example/fondmark/fondmark/marc/Iso2709", "isSeparator", "(I)Z"⟩ : MethodName) prog_36_method_2_code 1 (some .boolean)) (hh : T.heap = h0) (v0 : Int32) :
    own_Fin p e below s (own_QP (some (.int (own_f2_0 v0))) h0) 0 0 (T.setTop (mkF m 0 #[.val (.int v0)] [])) := by
  obtain ⟨hx, hby, hml, hZ, hown, hnm, hret, hlk, hw⟩ := id C
  refine own_go (fun t => XS.iloadN X.here hx rfl (hb hby own_d2_0) rfl) ?_
  show own_Fin p e below s (own_QP (some (.int (own_f2_0 v0))) h0) 0 0 (T.setTop (mkF m 1 #[.val (.int v0)] [(.int v0)]))
  refine own_go (fun t => XS.bipush X.here hx rfl (hb hby own_d2_1)) ?_
  show own_Fin p e below s (own_QP (some (.int (own_f2_0 v0))) h0) 0 0 (T.setTop (mkF m 3 #[.val (.int v0)] [(.int (29 : Int32)), (.int v0)]))
  by_cases hq : v0 = (29 : Int32)
  · show own_Fin p e below s (own_QP (some (.int (own_f2_0 v0))) h0) 0 0 _
    rw [show (own_f2_0 v0) = (own_f2_18 v0) from if_pos hq]
    refine own_go (fun t => XS.icmpYes X.here hx rfl (pc0 := 3) (pc' := 18) rfl (hb hby own_d2_3) rfl (teq hq).1 (by decide) (by decide)) ?_
    show own_Fin p e below s (own_QP (some (.int (own_f2_18 v0))) h0) 0 0 (T.setTop (mkF m 18 #[.val (.int v0)] []))
    exact own_b2_18 X C hh v0
  · show own_Fin p e below s (own_QP (some (.int (own_f2_0 v0))) h0) 0 0 _
    rw [show (own_f2_0 v0) = (own_f2_6 v0) from if_neg hq]
    refine own_go (fun t => XS.icmpNo X.here hx rfl (hb hby own_d2_3) rfl (feq hq).1) ?_
    show own_Fin p e below s (own_QP (some (.int (own_f2_6 v0))) h0) 0 0 (T.setTop (mkF m 6 #[.val (.int v0)] []))
    exact own_b2_6 X C hh v0
theorem own_pn0 : plainName "com/example/fondmark/fondmark/marc/Iso2709" = true := by first | (simp [plainName, overriddenIn]; done) | decide +kernel
theorem own_c2 (l : Launch) (Z : State) (a0 : Array Value) (hw : ∀ d ∈ tables_1, d.before a0 Z = true) (x0 : Int32) (h0 : Heap) : own_Met l Z (⟨"com/example/fondmark/fondmark/marc/Iso2709", "isSeparator", "(I)Z"⟩ : MethodName) prog_36_method_2_code 1 (some .boolean) [] ({ frames := 0, cells := 0, slots := 0, locals := 0 } : Room) #[(.int x0)] h0 (own_QP (some (.int (own_f2_0 x0))) h0) :=
  own_enter (plainFor_of_name own_pn0) (own_ef2 x0) hw (fun p e s m below meth c T X C hh => own_b2_0 X C hh x0)
theorem own_d1_0 : decode method_3_code 0 = .ok (.iload_n 0, 1) := by decide +kernel
theorem own_d1_1 : decode method_3_code 1 = .ok (.bipush 29, 2) := by decide +kernel
theorem own_d1_3 : decode method_3_code 3 = .ok (.if_icmp .lt 13, 3) := by decide +kernel
theorem own_d1_6 : decode method_3_code 6 = .ok (.iload_n 0, 1) := by decide +kernel
theorem own_d1_7 : decode method_3_code 7 = .ok (.bipush 31, 2) := by decide +kernel
theorem own_d1_9 : decode method_3_code 9 = .ok (.if_icmp .gt 7, 3) := by decide +kernel
theorem own_d1_12 : decode method_3_code 12 = .ok (.iconst 1, 1) := by decide +kernel
theorem own_d1_13 : decode method_3_code 13 = .ok (.goto 4, 3) := by decide +kernel
theorem own_d1_16 : decode method_3_code 16 = .ok (.iconst 0, 1) := by decide +kernel
theorem own_d1_17 : decode method_3_code 17 = .ok (.istore_n 1, 1) := by decide +kernel
theorem own_d1_18 : decode method_3_code 18 = .ok (.iload_n 0, 1) := by decide +kernel
theorem own_d1_19 : decode method_3_code 19 = .ok (.invokestatic 13, 3) := by decide +kernel
theorem own_d1_22 : decode method_3_code 22 = .ok (.iload_n 1, 1) := by decide +kernel
theorem own_d1_23 : decode method_3_code 23 = .ok (.if_icmp .ne 7, 3) := by decide +kernel
theorem own_d1_26 : decode method_3_code 26 = .ok (.iconst 1, 1) := by decide +kernel
theorem own_d1_27 : decode method_3_code 27 = .ok (.goto 4, 3) := by decide +kernel
theorem own_d1_30 : decode method_3_code 30 = .ok (.iconst 0, 1) := by decide +kernel
theorem own_d1_31 : decode method_3_code 31 = .ok (.ireturn, 1) := by decide +kernel
theorem own_pd0 : parseMethodDescriptor "(I)Z" = some ⟨[.int], some .boolean⟩ := by decide +kernel
theorem own_ef1 (x0 : Int32) : ∀ m, entryFrame m #[(.int x0)] 2 = mkF m 0 #[.val (.int x0), .unset] [] := fun m => by first | (simp [entryFrame, mkF, argsToLocals, Value.category]; done) | rfl
def own_f1_30 (v0 : Int32) (v1 : Int32) : Int32 := (0 : Int32)
set_option maxRecDepth 65536 in
theorem own_b1_30 {l : Launch} {p : Program} {e : Env} {below : List Frame} {s : State} {m : MethodId} {meth : Method} {c : Code} {Z : State} {a0 args : Array Value} {T : State} {h0 : Heap} (X : Stand p l e ({ frames := 1, cells := 0, slots := 0, locals := 12 } : Room) s m args below meth c T [] 0 0) (C : own_Ctx p s m meth c Z a0 tables_1 (⟨"com/example/fondmark/fondmark/marc/Iso2709IsSeparatorPinLaw", "check", "(I)Z"⟩ : MethodName) method_3_code 2 (some .boolean)) (hh : T.heap = h0) (v0 : Int32) (v1 : Int32) :
    own_Fin p e below s (own_QP (some (.int (own_f1_30 v0 v1))) h0) 0 0 (T.setTop (mkF m 30 #[.val (.int v0), .val (.int v1)] [])) := by
  obtain ⟨hx, hby, hml, hZ, hown, hnm, hret, hlk, hw⟩ := id C
  refine own_go (fun t => XS.iconst X.here hx rfl (hb hby own_d1_30)) ?_
  show own_Fin p e below s (own_QP (some (.int (own_f1_30 v0 v1))) h0) 0 0 (T.setTop (mkF m 31 #[.val (.int v0), .val (.int v1)] [(.int (0 : Int32))]))
  exact own_ret X hlk hx (t := .boolean) hret rfl (Or.inl ⟨rfl, by simp, _, rfl⟩) (hb hby own_d1_31) ⟨rfl, rfl, hh⟩ (by decide) (by decide)
def own_f1_26 (v0 : Int32) (v1 : Int32) : Int32 := (1 : Int32)
set_option maxRecDepth 65536 in
theorem own_b1_26 {l : Launch} {p : Program} {e : Env} {below : List Frame} {s : State} {m : MethodId} {meth : Method} {c : Code} {Z : State} {a0 args : Array Value} {T : State} {h0 : Heap} (X : Stand p l e ({ frames := 1, cells := 0, slots := 0, locals := 12 } : Room) s m args below meth c T [] 0 0) (C : own_Ctx p s m meth c Z a0 tables_1 (⟨"com/example/fondmark/fondmark/marc/Iso2709IsSeparatorPinLaw", "check", "(I)Z"⟩ : MethodName) method_3_code 2 (some .boolean)) (hh : T.heap = h0) (v0 : Int32) (v1 : Int32) :
    own_Fin p e below s (own_QP (some (.int (own_f1_26 v0 v1))) h0) 0 0 (T.setTop (mkF m 26 #[.val (.int v0), .val (.int v1)] [])) := by
  obtain ⟨hx, hby, hml, hZ, hown, hnm, hret, hlk, hw⟩ := id C
  refine own_go (fun t => XS.iconst X.here hx rfl (hb hby own_d1_26)) ?_
  show own_Fin p e below s (own_QP (some (.int (own_f1_26 v0 v1))) h0) 0 0 (T.setTop (mkF m 27 #[.val (.int v0), .val (.int v1)] [(.int (1 : Int32))]))
  refine own_go (fun t => XS.goto X.here hx rfl (pc0 := 27) (pc' := 31) rfl (hb hby own_d1_27) (by decide) (by decide)) ?_
  show own_Fin p e below s (own_QP (some (.int (own_f1_26 v0 v1))) h0) 0 0 (T.setTop (mkF m 31 #[.val (.int v0), .val (.int v1)] [(.int (1 : Int32))]))
  exact own_ret X hlk hx (t := .boolean) hret rfl (Or.inl ⟨rfl, by simp, _, rfl⟩) (hb hby own_d1_31) ⟨rfl, rfl, hh⟩ (by decide) (by decide)
def own_f1_17 (v0 : Int32) (s0 : Int32) : Int32 := if (own_f2_0 v0) = s0 then (own_f1_26 v0 s0) else (own_f1_30 v0 s0)
set_option maxRecDepth 65536 in
theorem own_b1_17 {l : Launch} {p : Program} {e : Env} {below : List Frame} {s : State} {m : MethodId} {meth : Method} {c : Code} {Z : State} {a0 args : Array Value} {T : State} {h0 : Heap} (X : Stand p l e ({ frames := 1, cells := 0, slots := 0, locals := 12 } : Room) s m args below meth c T [] 0 0) (C : own_Ctx p s m meth c Z a0 tables_1 (⟨"com/example/fondmark/fondmark/marc/Iso2709IsSeparatorPinLaw", "check", "(I)Z"⟩ : MethodName) method_3_code 2 (some .boolean)) (hh : T.heap = h0) (v0 : Int32) (s0 : Int32) :
    own_Fin p e below s (own_QP (some (.int (own_f1_17 v0 s0))) h0) 0 0 (T.setTop (mkF m 17 #[.val (.int v0), .unset] [(.int s0)])) := by
  obtain ⟨hx, hby, hml, hZ, hown, hnm, hret, hlk, hw⟩ := id C
  refine own_go (fun t => XS.istoreN X.here hx rfl (hb hby own_d1_17) rfl (l' := #[.val (.int v0), .val (.int s0)]) rfl) ?_
  show own_Fin p e below s (own_QP (some (.int (own_f1_17 v0 s0))) h0) 0 0 (T.setTop (mkF m 18 #[.val (.int v0), .val (.int s0)] []))
  refine own_go (fun t => XS.iloadN X.here hx rfl (hb hby own_d1_18) rfl) ?_
  show own_Fin p e below s (own_QP (some (.int (own_f1_17 v0 s0))) h0) 0 0 (T.setTop (mkF m 19 #[.val (.int v0), .val (.int s0)] [(.int v0)]))
  obtain ⟨T1, X1, e1, st1⟩ := own_callP X hx hZ hh (y := (⟨"com/example/fondmark/fondmark/marc/Iso2709", "isSeparator", "(I)Z"⟩ : MethodName)) hown (hw _ (List.mem_of_getElem? (i := 4) rfl)) (hw _ (List.mem_of_getElem? (i := 5) rfl)) (hw _ (List.mem_of_getElem? (i := 6) rfl)) (hw _ (List.mem_of_getElem? (i := 7) rfl)) (by decide) (argsL := [(.int v0)]) (rest := []) (own_c2 l Z a0 hw v0 _) (by decide) 0 (by decide) (by decide) (by decide) (g := (mkF m 19 #[.val (.int v0), .val (.int s0)] [(.int v0)])) rfl (by rw [hml]; rfl) (lenOf own_pd0 rfl) rfl (by show 2 * 0 + _ ≤ _; exact Nat.le_of_eq rfl) (hb hby own_d1_19)
  refine own_go st1 ?_
  show own_Fin p e below s (own_QP (some (.int (own_f1_17 v0 s0))) h0) 0 0 (T1.setTop (mkF m 22 #[.val (.int v0), .val (.int s0)] [(.int (own_f2_0 v0))]))
  refine own_go (fun t => XS.iloadN X1.here hx rfl (hb hby own_d1_22) rfl) ?_
  show own_Fin p e below s (own_QP (some (.int (own_f1_17 v0 s0))) h0) 0 0 (T1.setTop (mkF m 23 #[.val (.int v0), .val (.int s0)] [(.int s0), (.int (own_f2_0 v0))]))
  by_cases hq : (own_f2_0 v0) = s0
  · show own_Fin p e below s (own_QP (some (.int (own_f1_17 v0 s0))) h0) 0 0 _
    rw [show (own_f1_17 v0 s0) = (own_f1_26 v0 s0) from if_pos hq]
    refine own_go (fun t => XS.icmpNo X1.here hx rfl (hb hby own_d1_23) rfl (teq hq).2) ?_
    show own_Fin p e below s (own_QP (some (.int (own_f1_26 v0 s0))) h0) 0 0 (T1.setTop (mkF m 26 #[.val (.int v0), .val (.int s0)] []))
    exact own_b1_26 X1 C e1 v0 s0
  · show own_Fin p e below s (own_QP (some (.int (own_f1_17 v0 s0))) h0) 0 0 _
    rw [show (own_f1_17 v0 s0) = (own_f1_30 v0 s0) from if_neg hq]
    refine own_go (fun t => XS.icmpYes X1.here hx rfl (pc0 := 23) (pc' := 30) rfl (hb hby own_d1_23) rfl (feq hq).2 (by decide) (by decide)) ?_
    show own_Fin p e below s (own_QP (some (.int (own_f1_30 v0 s0))) h0) 0 0 (T1.setTop (mkF m 30 #[.val (.int v0), .val (.int s0)] []))
    exact own_b1_30 X1 C e1 v0 s0
def own_f1_16 (v0 : Int32) : Int32 := (own_f1_17 v0 (0 : Int32))
set_option maxRecDepth 65536 in
theorem own_b1_16 {l : Launch} {p : Program} {e : Env} {below : List Frame} {s : State} {m : MethodId} {meth : Method} {c : Code} {Z : State} {a0 args : Array Value} {T : State} {h0 : Heap} (X : Stand p l e ({ frames := 1, cells := 0, slots := 0, locals := 12 } : Room) s m args below meth c T [] 0 0) (C : own_Ctx p s m meth c Z a0 tables_1 (⟨"com/example/fondmark/fondmark/marc/Iso2709IsSeparatorPinLaw", "check", "(I)Z"⟩ : MethodName) method_3_code 2 (some .boolean)) (hh : T.heap = h0) (v0 : Int32) :
    own_Fin p e below s (own_QP (some (.int (own_f1_16 v0))) h0) 0 0 (T.setTop (mkF m 16 #[.val (.int v0), .unset] [])) := by
  obtain ⟨hx, hby, hml, hZ, hown, hnm, hret, hlk, hw⟩ := id C
  refine own_go (fun t => XS.iconst X.here hx rfl (hb hby own_d1_16)) ?_
  show own_Fin p e below s (own_QP (some (.int (own_f1_16 v0))) h0) 0 0 (T.setTop (mkF m 17 #[.val (.int v0), .unset] [(.int (0 : Int32))]))
  exact own_b1_17 X C hh v0 (0 : Int32)
def own_f1_12 (v0 : Int32) : Int32 := (own_f1_17 v0 (1 : Int32))
set_option maxRecDepth 65536 in
theorem own_b1_12 {l : Launch} {p : Program} {e : Env} {below : List Frame} {s : State} {m : MethodId} {meth : Method} {c : Code} {Z : State} {a0 args : Array Value} {T : State} {h0 : Heap} (X : Stand p l e ({ frames := 1, cells := 0, slots := 0, locals := 12 } : Room) s m args below meth c T [] 0 0) (C : own_Ctx p s m meth c Z a0 tables_1 (⟨"com/example/fondmark/fondmark/marc/Iso2709IsSeparatorPinLaw", "check", "(I)Z"⟩ : MethodName) method_3_code 2 (some .boolean)) (hh : T.heap = h0) (v0 : Int32) :
    own_Fin p e below s (own_QP (some (.int (own_f1_12 v0))) h0) 0 0 (T.setTop (mkF m 12 #[.val (.int v0), .unset] [])) := by
  obtain ⟨hx, hby, hml, hZ, hown, hnm, hret, hlk, hw⟩ := id C
  refine own_go (fun t => XS.iconst X.here hx rfl (hb hby own_d1_12)) ?_
  show own_Fin p e below s (own_QP (some (.int (own_f1_12 v0))) h0) 0 0 (T.setTop (mkF m 13 #[.val (.int v0), .unset] [(.int (1 : Int32))]))
  refine own_go (fun t => XS.goto X.here hx rfl (pc0 := 13) (pc' := 17) rfl (hb hby own_d1_13) (by decide) (by decide)) ?_
  show own_Fin p e below s (own_QP (some (.int (own_f1_12 v0))) h0) 0 0 (T.setTop (mkF m 17 #[.val (.int v0), .unset] [(.int (1 : Int32))]))
  exact own_b1_17 X C hh v0 (1 : Int32)
def own_f1_6 (v0 : Int32) : Int32 := if (31 : Int32) < v0 then (own_f1_16 v0) else (own_f1_12 v0)
set_option maxRecDepth 65536 in
theorem own_b1_6 {l : Launch} {p : Program} {e : Env} {below : List Frame} {s : State} {m : MethodId} {meth : Method} {c : Code} {Z : State} {a0 args : Array Value} {T : State} {h0 : Heap} (X : Stand p l e ({ frames := 1, cells := 0, slots := 0, locals := 12 } : Room) s m args below meth c T [] 0 0) (C : own_Ctx p s m meth c Z a0 tables_1 (⟨"com/example/fondmark/fondmark/marc/Iso2709IsSeparatorPinLaw", "check", "(I)Z"⟩ : MethodName) method_3_code 2 (some .boolean)) (hh : T.heap = h0) (v0 : Int32) :
    own_Fin p e below s (own_QP (some (.int (own_f1_6 v0))) h0) 0 0 (T.setTop (mkF m 6 #[.val (.int v0), .unset] [])) := by
  obtain ⟨hx, hby, hml, hZ, hown, hnm, hret, hlk, hw⟩ := id C
  refine own_go (fun t => XS.iloadN X.here hx rfl (hb hby own_d1_6) rfl) ?_
  show own_Fin p e below s (own_QP (some (.int (own_f1_6 v0))) h0) 0 0 (T.setTop (mkF m 7 #[.val (.int v0), .unset] [(.int v0)]))
  refine own_go (fun t => XS.bipush X.here hx rfl (hb hby own_d1_7)) ?_
  show own_Fin p e below s (own_QP (some (.int (own_f1_6 v0))) h0) 0 0 (T.setTop (mkF m 9 #[.val (.int v0), .unset] [(.int (31 : Int32)), (.int v0)]))
  by_cases hq : (31 : Int32) < v0
  · show own_Fin p e below s (own_QP (some (.int (own_f1_6 v0))) h0) 0 0 _
    rw [show (own_f1_6 v0) = (own_f1_16 v0) from if_pos hq]
    refine own_go (fun t => XS.icmpYes X.here hx rfl (pc0 := 9) (pc' := 16) rfl (hb hby own_d1_9) rfl (tlt hq).2.2.1 (by decide) (by decide)) ?_
    show own_Fin p e below s (own_QP (some (.int (own_f1_16 v0))) h0) 0 0 (T.setTop (mkF m 16 #[.val (.int v0), .unset] []))
    exact own_b1_16 X C hh v0
  · show own_Fin p e below s (own_QP (some (.int (own_f1_6 v0))) h0) 0 0 _
    rw [show (own_f1_6 v0) = (own_f1_12 v0) from if_neg hq]
    refine own_go (fun t => XS.icmpNo X.here hx rfl (hb hby own_d1_9) rfl (flt hq).2.2.1) ?_
    show own_Fin p e below s (own_QP (some (.int (own_f1_12 v0))) h0) 0 0 (T.setTop (mkF m 12 #[.val (.int v0), .unset] []))
    exact own_b1_12 X C hh v0
def own_f1_0 (v0 : Int32) : Int32 := if v0 < (29 : Int32) then (own_f1_16 v0) else (own_f1_6 v0)
set_option maxRecDepth 65536 in
theorem own_b1_0 {l : Launch} {p : Program} {e : Env} {below : List Frame} {s : State} {m : MethodId} {meth : Method} {c : Code} {Z : State} {a0 args : Array Value} {T : State} {h0 : Heap} (X : Stand p l e ({ frames := 1, cells := 0, slots := 0, locals := 12 } : Room) s m args below meth c T [] 0 0) (C : own_Ctx p s m meth c Z a0 tables_1 (⟨"com/example/fondmark/fondmark/marc/Iso2709IsSeparatorPinLaw", "check", "(I)Z"⟩ : MethodName) method_3_code 2 (some .boolean)) (hh : T.heap = h0) (v0 : Int32) :
    own_Fin p e below s (own_QP (some (.int (own_f1_0 v0))) h0) 0 0 (T.setTop (mkF m 0 #[.val (.int v0), .unset] [])) := by
  obtain ⟨hx, hby, hml, hZ, hown, hnm, hret, hlk, hw⟩ := id C
  refine own_go (fun t => XS.iloadN X.here hx rfl (hb hby own_d1_0) rfl) ?_
  show own_Fin p e below s (own_QP (some (.int (own_f1_0 v0))) h0) 0 0 (T.setTop (mkF m 1 #[.val (.int v0), .unset] [(.int v0)]))
  refine own_go (fun t => XS.bipush X.here hx rfl (hb hby own_d1_1)) ?_
  show own_Fin p e below s (own_QP (some (.int (own_f1_0 v0))) h0) 0 0 (T.setTop (mkF m 3 #[.val (.int v0), .unset] [(.int (29 : Int32)), (.int v0)]))
  by_cases hq : v0 < (29 : Int32)
  · show own_Fin p e below s (own_QP (some (.int (own_f1_0 v0))) h0) 0 0 _
    rw [show (own_f1_0 v0) = (own_f1_16 v0) from if_pos hq]
    refine own_go (fun t => XS.icmpYes X.here hx rfl (pc0 := 3) (pc' := 16) rfl (hb hby own_d1_3) rfl (tlt hq).1 (by decide) (by decide)) ?_
    show own_Fin p e below s (own_QP (some (.int (own_f1_16 v0))) h0) 0 0 (T.setTop (mkF m 16 #[.val (.int v0), .unset] []))
    exact own_b1_16 X C hh v0
  · show own_Fin p e below s (own_QP (some (.int (own_f1_0 v0))) h0) 0 0 _
    rw [show (own_f1_0 v0) = (own_f1_6 v0) from if_neg hq]
    refine own_go (fun t => XS.icmpNo X.here hx rfl (hb hby own_d1_3) rfl (flt hq).1) ?_
    show own_Fin p e below s (own_QP (some (.int (own_f1_6 v0))) h0) 0 0 (T.setTop (mkF m 6 #[.val (.int v0), .unset] []))
    exact own_b1_6 X C hh v0
theorem own_pn1 : plainName "com/example/fondmark/fondmark/marc/Iso2709IsSeparatorPinLaw" = true := by first | (simp [plainName, overriddenIn]; done) | decide +kernel
theorem own_c1 (l : Launch) (Z : State) (a0 : Array Value) (hw : ∀ d ∈ tables_1, d.before a0 Z = true) (x0 : Int32) (h0 : Heap) : own_Met l Z (⟨"com/example/fondmark/fondmark/marc/Iso2709IsSeparatorPinLaw", "check", "(I)Z"⟩ : MethodName) method_3_code 2 (some .boolean) [] ({ frames := 1, cells := 0, slots := 0, locals := 12 } : Room) #[(.int x0)] h0 (own_QP (some (.int (own_f1_0 x0))) h0) :=
  own_enter (plainFor_of_name own_pn1) (own_ef1 x0) hw (fun p e s m below meth c T X C hh => own_b1_0 X C hh x0)
theorem own_check1 (x : Int32) : own_f1_0 x = 1 := by
  by_cases h1 : x.toInt < 29
  · have e : (own_f2_0 x = 0) := (if_neg (own_ineq 29 (by decide) (by omega))).trans ((if_neg (own_ineq 30 (by decide) (by omega))).trans (if_neg (own_ineq 31 (by decide) (by omega))))
    exact (if_pos (own_lt 29 (by decide) h1) : own_f1_0 x = own_f1_17 x 0).trans (if_pos e)
  · by_cases h2 : 31 < x.toInt
    · have e : (own_f2_0 x = 0) := (if_neg (own_ineq 29 (by decide) (by omega))).trans ((if_neg (own_ineq 30 (by decide) (by omega))).trans (if_neg (own_ineq 31 (by decide) (by omega))))
      exact (if_neg (own_nlt 29 (by decide) (by omega)) : own_f1_0 x = own_f1_6 x).trans ((if_pos (own_gt 31 (by decide) h2) : own_f1_6 x = own_f1_17 x 0).trans (if_pos e))
    · have q : ∀ k : Int32, x.toInt = k.toInt → x = k := fun k => Int32.toInt_inj.mp
      rcases (by omega : x.toInt = 29 ∨ x.toInt = 30 ∨ x.toInt = 31) with h | h | h
      · rw [q 29 h]; decide +kernel
      · rw [q 30 h]; decide +kernel
      · rw [q 31 h]; decide +kernel
theorem own_ef0 (x0 : Int32) (x1 : Int32) : ∀ m, entryFrame m #[(.int x0), (.int x1)] maxLocals = mkF m 0 #[.val (.int x0), .val (.int x1), .unset, .unset] [] := fun m => by first | (simp [entryFrame, mkF, argsToLocals, Value.category, maxLocals]; done) | rfl
def own_Q0 (n0 : Nat) (v : Option Value) (h : Heap) (L : List Loc) : Prop := v = some (.int 1) ∧ Fr n0 L
set_option maxRecDepth 65536 in
set_option maxHeartbeats 40000000 in
theorem own_law {l : Launch} {p : Program} {e : Env} {below : List Frame} {s : State} {m : MethodId} {meth : Method} {c : Code} {Z : State} {a0 args : Array Value} {T : State} {h0 : Heap} (X : Stand p l e room_1 s m args below meth c T [] 0 0) (C : own_Ctx p s m meth c Z a0 tables_1 x code maxLocals ret) (hh : T.heap = h0) (x0 : Int32) (x1 : Int32) (n0 : Nat) (Z0 : n0 ≤ h0.size) :
    own_Fin p e below s (own_Q0 n0) room_1.cells room_1.slots (T.setTop (mkF m 0 #[.val (.int x0), .val (.int x1), .unset, .unset] [])) := by
  obtain ⟨hx, hby, hml, hZ, hown, hnm, hret, hlk, hw⟩ := id C
  show own_Fin p e below s (own_Q0 n0) room_1.cells room_1.slots (T.setTop (mkF m 0 #[.val (.int x0), .val (.int x1), .unset, .unset] []))
  refine own_go (fun t => XS.bipush X.here hx rfl (hb hby at_0)) ?_
  show own_Fin p e below s (own_Q0 n0) room_1.cells room_1.slots (T.setTop (mkF m 2 #[.val (.int x0), .val (.int x1), .unset, .unset] [(.int (27 : Int32))]))
  refine own_go (fun t => XS.iloadN X.here hx rfl (hb hby at_2) rfl) ?_
  show own_Fin p e below s (own_Q0 n0) room_1.cells room_1.slots (T.setTop (mkF m 3 #[.val (.int x0), .val (.int x1), .unset, .unset] [(.int x1), (.int (27 : Int32))]))
  refine own_go (fun t => XS.bipush X.here hx rfl (hb hby at_3)) ?_
  show own_Fin p e below s (own_Q0 n0) room_1.cells room_1.slots (T.setTop (mkF m 5 #[.val (.int x0), .val (.int x1), .unset, .unset] [(.int (7 : Int32)), (.int x1), (.int (27 : Int32))]))
  refine own_go (fun t => XS.iand X.here hx rfl (hb hby at_5) rfl) ?_
  show own_Fin p e below s (own_Q0 n0) room_1.cells room_1.slots (T.setTop (mkF m 6 #[.val (.int x0), .val (.int x1), .unset, .unset] [(.int (x1 &&& (7 : Int32))), (.int (27 : Int32))]))
  refine own_go (fun t => XS.iadd X.here hx rfl (hb hby at_6) rfl) ?_
  show own_Fin p e below s (own_Q0 n0) room_1.cells room_1.slots (T.setTop (mkF m 7 #[.val (.int x0), .val (.int x1), .unset, .unset] [(.int ((27 : Int32) + (x1 &&& (7 : Int32))))]))
  refine own_go (fun t => XS.istoreN X.here hx rfl (hb hby at_7) rfl (l' := #[.val (.int x0), .val (.int x1), .val (.int ((27 : Int32) + (x1 &&& (7 : Int32)))), .unset]) rfl) ?_
  show own_Fin p e below s (own_Q0 n0) room_1.cells room_1.slots (T.setTop (mkF m 8 #[.val (.int x0), .val (.int x1), .val (.int ((27 : Int32) + (x1 &&& (7 : Int32)))), .unset] []))
  refine own_go (fun t => XS.iloadN X.here hx rfl (hb hby at_8) rfl) ?_
  show own_Fin p e below s (own_Q0 n0) room_1.cells room_1.slots (T.setTop (mkF m 9 #[.val (.int x0), .val (.int x1), .val (.int ((27 : Int32) + (x1 &&& (7 : Int32)))), .unset] [(.int x0)]))
  refine own_go (fun t => XS.sipush X.here hx rfl (hb hby at_9)) ?_
  show own_Fin p e below s (own_Q0 n0) room_1.cells room_1.slots (T.setTop (mkF m 12 #[.val (.int x0), .val (.int x1), .val (.int ((27 : Int32) + (x1 &&& (7 : Int32)))), .unset] [(.int (255 : Int32)), (.int x0)]))
  refine own_go (fun t => XS.iand X.here hx rfl (hb hby at_12) rfl) ?_
  show own_Fin p e below s (own_Q0 n0) room_1.cells room_1.slots (T.setTop (mkF m 13 #[.val (.int x0), .val (.int x1), .val (.int ((27 : Int32) + (x1 &&& (7 : Int32)))), .unset] [(.int (x0 &&& (255 : Int32)))]))
  refine own_go (fun t => XS.istoreN X.here hx rfl (hb hby at_13) rfl (l' := #[.val (.int x0), .val (.int x1), .val (.int ((27 : Int32) + (x1 &&& (7 : Int32)))), .val (.int (x0 &&& (255 : Int32)))]) rfl) ?_
  show own_Fin p e below s (own_Q0 n0) room_1.cells room_1.slots (T.setTop (mkF m 14 #[.val (.int x0), .val (.int x1), .val (.int ((27 : Int32) + (x1 &&& (7 : Int32)))), .val (.int (x0 &&& (255 : Int32)))] []))
  refine own_go (fun t => XS.iloadN X.here hx rfl (hb hby at_14) rfl) ?_
  show own_Fin p e below s (own_Q0 n0) room_1.cells room_1.slots (T.setTop (mkF m 15 #[.val (.int x0), .val (.int x1), .val (.int ((27 : Int32) + (x1 &&& (7 : Int32)))), .val (.int (x0 &&& (255 : Int32)))] [(.int x0)]))
  obtain ⟨T1, X1, e1, st1⟩ := own_callP X hx hZ hh (y := (⟨"com/example/fondmark/fondmark/marc/Iso2709IsSeparatorPinLaw", "check", "(I)Z"⟩ : MethodName)) hown (hw _ (List.mem_of_getElem? (i := 0) rfl)) (hw _ (List.mem_of_getElem? (i := 1) rfl)) (hw _ (List.mem_of_getElem? (i := 2) rfl)) (hw _ (List.mem_of_getElem? (i := 3) rfl)) (by decide) (argsL := [(.int x0)]) (rest := []) (own_c1 l Z a0 hw x0 _) (by decide) 0 (by decide) (by decide) (by decide) (g := (mkF m 15 #[.val (.int x0), .val (.int x1), .val (.int ((27 : Int32) + (x1 &&& (7 : Int32)))), .val (.int (x0 &&& (255 : Int32)))] [(.int x0)])) rfl (by rw [hml]; rfl) (lenOf own_pd0 rfl) rfl (by show 2 * 0 + _ ≤ _; exact Nat.le_of_eq rfl) (hb hby at_15)
  refine own_go st1 ?_
  show own_Fin p e below s (own_Q0 n0) room_1.cells room_1.slots (T1.setTop (mkF m 18 #[.val (.int x0), .val (.int x1), .val (.int ((27 : Int32) + (x1 &&& (7 : Int32)))), .val (.int (x0 &&& (255 : Int32)))] [(.int (own_f1_0 x0))]))
  refine own_go (fun t => XS.ifNo X1.here hx rfl (hb hby at_18) rfl ((if0 _ _).trans (feq (fun q => absurd ((own_check1 x0).symm.trans q) (by decide))).1)) ?_
  show own_Fin p e below s (own_Q0 n0) room_1.cells room_1.slots (T1.setTop (mkF m 21 #[.val (.int x0), .val (.int x1), .val (.int ((27 : Int32) + (x1 &&& (7 : Int32)))), .val (.int (x0 &&& (255 : Int32)))] []))
  refine own_go (fun t => XS.iloadN X1.here hx rfl (hb hby at_21) rfl) ?_
  show own_Fin p e below s (own_Q0 n0) room_1.cells room_1.slots (T1.setTop (mkF m 22 #[.val (.int x0), .val (.int x1), .val (.int ((27 : Int32) + (x1 &&& (7 : Int32)))), .val (.int (x0 &&& (255 : Int32)))] [(.int ((27 : Int32) + (x1 &&& (7 : Int32))))]))
  obtain ⟨T2, X2, e2, st2⟩ := own_callP X1 hx hZ e1 (y := (⟨"com/example/fondmark/fondmark/marc/Iso2709IsSeparatorPinLaw", "check", "(I)Z"⟩ : MethodName)) hown (hw _ (List.mem_of_getElem? (i := 0) rfl)) (hw _ (List.mem_of_getElem? (i := 1) rfl)) (hw _ (List.mem_of_getElem? (i := 2) rfl)) (hw _ (List.mem_of_getElem? (i := 3) rfl)) (by decide) (argsL := [(.int ((27 : Int32) + (x1 &&& (7 : Int32))))]) (rest := []) (own_c1 l Z a0 hw ((27 : Int32) + (x1 &&& (7 : Int32))) _) (by decide) 0 (by decide) (by decide) (by decide) (g := (mkF m 22 #[.val (.int x0), .val (.int x1), .val (.int ((27 : Int32) + (x1 &&& (7 : Int32)))), .val (.int (x0 &&& (255 : Int32)))] [(.int ((27 : Int32) + (x1 &&& (7 : Int32))))])) rfl (by rw [hml]; rfl) (lenOf own_pd0 rfl) rfl (by show 2 * 0 + _ ≤ _; exact Nat.le_of_eq rfl) (hb hby at_22)
  refine own_go st2 ?_
  show own_Fin p e below s (own_Q0 n0) room_1.cells room_1.slots (T2.setTop (mkF m 25 #[.val (.int x0), .val (.int x1), .val (.int ((27 : Int32) + (x1 &&& (7 : Int32)))), .val (.int (x0 &&& (255 : Int32)))] [(.int (own_f1_0 ((27 : Int32) + (x1 &&& (7 : Int32)))))]))
  refine own_go (fun t => XS.ifNo X2.here hx rfl (hb hby at_25) rfl ((if0 _ _).trans (feq (fun q => absurd ((own_check1 ((27 : Int32) + (x1 &&& (7 : Int32)))).symm.trans q) (by decide))).1)) ?_
  show own_Fin p e below s (own_Q0 n0) room_1.cells room_1.slots (T2.setTop (mkF m 28 #[.val (.int x0), .val (.int x1), .val (.int ((27 : Int32) + (x1 &&& (7 : Int32)))), .val (.int (x0 &&& (255 : Int32)))] []))
  refine own_go (fun t => XS.iloadN X2.here hx rfl (hb hby at_28) rfl) ?_
  show own_Fin p e below s (own_Q0 n0) room_1.cells room_1.slots (T2.setTop (mkF m 29 #[.val (.int x0), .val (.int x1), .val (.int ((27 : Int32) + (x1 &&& (7 : Int32)))), .val (.int (x0 &&& (255 : Int32)))] [(.int (x0 &&& (255 : Int32)))]))
  obtain ⟨T3, X3, e3, st3⟩ := own_callP X2 hx hZ e2 (y := (⟨"com/example/fondmark/fondmark/marc/Iso2709IsSeparatorPinLaw", "check", "(I)Z"⟩ : MethodName)) hown (hw _ (List.mem_of_getElem? (i := 0) rfl)) (hw _ (List.mem_of_getElem? (i := 1) rfl)) (hw _ (List.mem_of_getElem? (i := 2) rfl)) (hw _ (List.mem_of_getElem? (i := 3) rfl)) (by decide) (argsL := [(.int (x0 &&& (255 : Int32)))]) (rest := []) (own_c1 l Z a0 hw (x0 &&& (255 : Int32)) _) (by decide) 0 (by decide) (by decide) (by decide) (g := (mkF m 29 #[.val (.int x0), .val (.int x1), .val (.int ((27 : Int32) + (x1 &&& (7 : Int32)))), .val (.int (x0 &&& (255 : Int32)))] [(.int (x0 &&& (255 : Int32)))])) rfl (by rw [hml]; rfl) (lenOf own_pd0 rfl) rfl (by show 2 * 0 + _ ≤ _; exact Nat.le_of_eq rfl) (hb hby at_29)
  refine own_go st3 ?_
  show own_Fin p e below s (own_Q0 n0) room_1.cells room_1.slots (T3.setTop (mkF m 32 #[.val (.int x0), .val (.int x1), .val (.int ((27 : Int32) + (x1 &&& (7 : Int32)))), .val (.int (x0 &&& (255 : Int32)))] [(.int (own_f1_0 (x0 &&& (255 : Int32))))]))
  refine own_go (fun t => XS.ifNo X3.here hx rfl (hb hby at_32) rfl ((if0 _ _).trans (feq (fun q => absurd ((own_check1 (x0 &&& (255 : Int32))).symm.trans q) (by decide))).1)) ?_
  show own_Fin p e below s (own_Q0 n0) room_1.cells room_1.slots (T3.setTop (mkF m 35 #[.val (.int x0), .val (.int x1), .val (.int ((27 : Int32) + (x1 &&& (7 : Int32)))), .val (.int (x0 &&& (255 : Int32)))] []))
  refine own_go (fun t => XS.iconst X3.here hx rfl (hb hby at_35)) ?_
  show own_Fin p e below s (own_Q0 n0) room_1.cells room_1.slots (T3.setTop (mkF m 36 #[.val (.int x0), .val (.int x1), .val (.int ((27 : Int32) + (x1 &&& (7 : Int32)))), .val (.int (x0 &&& (255 : Int32)))] [(.int (1 : Int32))]))
  refine own_go (fun t => XS.goto X3.here hx rfl (pc0 := 36) (pc' := 40) rfl (hb hby at_36) (by decide) (by decide)) ?_
  show own_Fin p e below s (own_Q0 n0) room_1.cells room_1.slots (T3.setTop (mkF m 40 #[.val (.int x0), .val (.int x1), .val (.int ((27 : Int32) + (x1 &&& (7 : Int32)))), .val (.int (x0 &&& (255 : Int32)))] [(.int (1 : Int32))]))
  exact own_ret X3 hlk hx (t := .boolean) hret rfl (Or.inl ⟨rfl, by simp, _, rfl⟩) (hb hby at_40) ⟨rfl, Fr.nil n0⟩ (by decide) (by decide)
theorem own_rm0 (l : Launch) (Z : State) (a0 : Array Value) (hw : ∀ d ∈ tables_1, d.before a0 Z = true) (ws : List Jvm.Cond) (x0 : Int32) (x1 : Int32) (h0 : Heap) (n0 : Nat) (Z0 : n0 ≤ h0.size) : own_Met l Z x code maxLocals ret ws room_1 #[(.int x0), (.int x1)] h0 (own_Q0 n0) :=
  own_enter (plainFor_of_name own_pn1) (own_ef0 x0 x1) hw (fun p e s m below meth c T X C hh => own_law X C hh x0 x1 n0 Z0)
set_option maxRecDepth 65536 in
set_option maxHeartbeats 40000000 in
theorem own_comes {Post : Tables → Env → Array Value → State → Outcome → State → Prop} (hpost : ∀ tb e args s v u, (limb_1_1.after args s (.returned v) u = true ∧ limb_1_2.after args s (.returned v) u = true ∧ True) → FrameEnd s (.returned v) u (Jvm.fieldLocs frame_1_writes args s ++ Jvm.arrayLocs frame_1_arrays args s ++ Jvm.staticLocs frame_1_statics s) 0 0 → Post tb e args s (.returned v) u) :
    ArmFor flags0 classFile x code maxLocals ret World_1 tables_1 room_1 Calls_1 rest_1 Pre_1 Post := by
  intro l hfl _ _ p e ha hc hk s m args below hf hA hF happ hP
  obtain ⟨hcalls, hrest, hpre⟩ := hP
  obtain ⟨-, -, -, hnamed, -, -, -, hat⟩ := (Spec.applies_iff hf).mp happ
  obtain ⟨hg, hn⟩ := and_e (Cond.before_iff.mp (show (Jvm.Cond.and given_1 narrow_1).before args s = true from hpre))
  obtain ⟨g0, r0⟩ := and_e hg
  obtain ⟨g1, r1⟩ := and_e r0
  obtain ⟨w0, w1, rfl⟩ : ∃ w0 w1 : Value, args = #[w0, w1] := by
    have hs : args.size = 2 := by simpa [Cond.value, given_1] using g0
    obtain ⟨L⟩ := args
    match L, hs with
    | [w0, w1], _ => exact ⟨w0, w1, rfl⟩
  have hw := fun d (hd : d ∈ tables_1) => atoms_spec (ws := Jvm.Cond.code x code maxLocals ret :: tables_1) hat d (List.mem_cons_of_mem _ hd)
  obtain ⟨i0, ei0⟩ := is_v g1
  obtain rfl : w0 = (.int i0) := Option.some.inj ei0
  obtain ⟨i1, ei1⟩ := is_v r1
  obtain rfl : w1 = (.int i1) := Option.some.inj ei1
  obtain ⟨n, o, h1, h2, h3, _, L, rfl, ⟨rfl, N⟩, hq⟩ := own_rm0 l s _ hw tables_1 i0 i1 s.heap s.heap.size (Nat.le_refl _) p e ha hc hk s m _ below hf ((Spec.applies_iff_loose hf).mp happ).1 ⟨rfl, State.Warmed39.refl s, rfl⟩ trivial
  refine ⟨n, _, h1, h2, h3, hpost _ _ _ _ _ _ ⟨Cond.after_iff.mpr rfl, Cond.after_iff.mpr (eq_i res_at (Term.int_eval (1)) rfl), trivial⟩ ⟨hq.1, hq.2.1, (hq.2.2.sift fun y hy => Or.inr (N y hy)).mono (by decide) (by decide)⟩⟩
theorem main_1_1 : Claimed_1_1 := own_comes fun _ _ _ _ _ _ h hF => ⟨h.1, hF⟩
theorem main_1_2 : Claimed_1_2 := own_comes fun _ _ _ _ _ _ h hF => ⟨h.2.1, hF⟩
end Jvm.Pilot.@@N@@
namespace Jvm.Pilot.@@N@@
open Jvm Jvm.ClassFile Sem Op Lib Jvm.Free Jvm.Stand Jvm.Pilot.@@N@@.Jvm.D
/-! MADE BY PROGRAM (witnessworld.py) out of the Statement's table words and the real class files: 9 classes; the members and pool entries that the words name. The judged class is class 1, her method 1. -/
namespace start1
open Jvm.ClassFile
def u (s : String) : CpInfo := .utf8 (stringToUtf16 s)
/-- a pool by its gaps: so many unusable entries, then the entry; so many at the end -/
def gap : Nat → List CpInfo → List CpInfo
  | 0, r => r
  | n + 1, r => .unusable :: gap n r
def poolList (es : List (Nat × CpInfo)) (last : Nat) : List CpInfo := es.foldr (fun e r => gap e.1 (e.2 :: r)) (gap last [])
def pool (es : List (Nat × CpInfo)) (last : Nat) : Array CpInfo := ⟨poolList es last⟩
def fileOf (pool : Array CpInfo) (this : Nat) (attrs : Array Attribute := #[]) (ms : Array MethodInfo := #[]) (fl : Nat := 33) (sup : Nat := 0) (ifs : Array Nat := #[]) (fds : Array FieldInfo := #[]) : ClassFile where
  minorVersion := 0
  majorVersion := 65
  constantPool := pool
  accessFlags := fl
  thisClass := this
  superClass := sup
  interfaces := ifs
  fields := fds
  methods := ms
  attributes := attrs
def plain (name : String) (sup : Option ClassId) : Class where
  name := name
  kind := .ordinary
  loader := none
  accessFlags := 33
  super := sup
  interfaces := #[]
  cf := none
  fields := #[]
  methods := #[]
  instanceTypes := #[]
  staticTypes := #[]
  resolved := #[]
  callSites := []
  init := .initialized
  statics := none
  mirror := none

def pool0 : Array CpInfo := pool [(5, u "<init>"), (0, u "()V"), (1, .class_ 10), (1, u "java/lang/Object")] 113

def k0m0 : Method := { name := "<init>", desc := "()V", sig := { parameters := [], returnType := none }, accessFlags := 1, code := none }
/-- java/lang/Object -/
def k0 : Class := { plain "java/lang/Object" none with
  accessFlags := 33
  interfaces := #[]
  cf := some (fileOf pool0 8 #[] #[{ accessFlags := 1, nameIndex := 5, descriptorIndex := 6, attributes := #[] }] 33 0 #[] #[])
  fields := #[]
  methods := #[k0m0]
  instanceTypes := #[]
  staticTypes := #[]
  resolved := Array.replicate 124 none
  statics := none }

def pool1 : Array CpInfo := pool [(2, .class_ 4), (1, u "java/lang/Object"), (0, u "<init>"), (0, u "()V"), (0, .methodref 8 9), (0, .class_ 10), (0, .nameAndType 11 12), (0, u "com/example/fondmark/fondmark/marc/Iso2709IsSeparatorPinLaw"), (0, u "check"), (0, u "(I)Z"), (0, .methodref 14 15), (0, .class_ 16), (0, .nameAndType 17 12), (0, u "com/example/fondmark/fondmark/marc/Iso2709"), (0, u "isSeparator"), (2, u "law"), (0, u "(II)Z")] 3

def k1m0 : Method := { name := "<init>", desc := "()V", sig := { parameters := [], returnType := none }, accessFlags := 2, code := none }
def k1c1 : Code := { maxStack := 3, maxLocals := 4, code := code, exceptionTable := #[], attributes := #[] }
def k1m1 : Method := { name := "law", desc := "(II)Z", sig := { parameters := [.int, .int], returnType := some .boolean }, accessFlags := 9, code := some k1c1 }
def k1c2 : Code := { maxStack := 2, maxLocals := 2, code := method_3_code, exceptionTable := #[], attributes := #[] }
def k1m2 : Method := { name := "check", desc := "(I)Z", sig := { parameters := [.int], returnType := some .boolean }, accessFlags := 10, code := some k1c2 }
/-- com/example/fondmark/fondmark/marc/Iso2709IsSeparatorPinLaw -/
def k1 : Class := { plain "com/example/fondmark/fondmark/marc/Iso2709IsSeparatorPinLaw" (some 0) with
  accessFlags := 49
  interfaces := #[]
  cf := some (fileOf pool1 8 #[] #[{ accessFlags := 2, nameIndex := 5, descriptorIndex := 6, attributes := #[] }, { accessFlags := 9, nameIndex := 20, descriptorIndex := 21, attributes := #[] }, { accessFlags := 10, nameIndex := 11, descriptorIndex := 12, attributes := #[] }] 49 2 #[] #[])
  fields := #[]
  methods := #[k1m0, k1m1, k1m2]
  instanceTypes := #[]
  staticTypes := #[]
  resolved := Array.replicate 25 none
  statics := none }

def pool2 : Array CpInfo := pool [(1, .class_ 2), (0, u "com/example/fondmark/fondmark/marc/Iso2709"), (1, .class_ 6), (1, u "java/lang/Object"), (0, u "<init>"), (0, u "()V"), (0, u "LEADER_10_11"), (0, u "Ljava/lang/String;"), (3, u "LEADER_20_22"), (2, u "FIELD_LENGTH_DIGITS"), (0, u "I"), (1, u "FIELD_START_DIGITS"), (1, u "TAG_LENGTH"), (1, u "DIRECTORY_ENTRY_LENGTH"), (1, u "RECORD_TERMINATOR"), (1, u "FIELD_TERMINATOR"), (1, u "SUBFIELD_DELIMITER"), (3, u "isSeparator"), (0, u "(I)Z")] 3

def k2m0 : Method := { name := "<init>", desc := "()V", sig := { parameters := [], returnType := none }, accessFlags := 2, code := none }
def k2c1 : Code := { maxStack := 2, maxLocals := 1, code := prog_36_method_2_code, exceptionTable := #[], attributes := #[] }
def k2m1 : Method := { name := "isSeparator", desc := "(I)Z", sig := { parameters := [.int], returnType := some .boolean }, accessFlags := 8, code := some k2c1 }
/-- com/example/fondmark/fondmark/marc/Iso2709 -/
def k2 : Class := { plain "com/example/fondmark/fondmark/marc/Iso2709" (some 0) with
  accessFlags := 48
  interfaces := #[]
  cf := some (fileOf pool2 1 #[] #[{ accessFlags := 2, nameIndex := 7, descriptorIndex := 8, attributes := #[] }, { accessFlags := 8, nameIndex := 34, descriptorIndex := 35, attributes := #[] }] 48 4 #[] #[{ accessFlags := 24, nameIndex := 9, descriptorIndex := 10, attributes := #[] }, { accessFlags := 24, nameIndex := 14, descriptorIndex := 10, attributes := #[] }, { accessFlags := 24, nameIndex := 17, descriptorIndex := 18, attributes := #[] }, { accessFlags := 24, nameIndex := 20, descriptorIndex := 18, attributes := #[] }, { accessFlags := 24, nameIndex := 22, descriptorIndex := 18, attributes := #[] }, { accessFlags := 24, nameIndex := 24, descriptorIndex := 18, attributes := #[] }, { accessFlags := 24, nameIndex := 26, descriptorIndex := 18, attributes := #[] }, { accessFlags := 24, nameIndex := 28, descriptorIndex := 18, attributes := #[] }, { accessFlags := 24, nameIndex := 30, descriptorIndex := 18, attributes := #[] }])
  fields := #[{ name := "LEADER_10_11", type := (.object "java/lang/String"), accessFlags := 24, slot := 0, constantValue := 0 }, { name := "LEADER_20_22", type := (.object "java/lang/String"), accessFlags := 24, slot := 1, constantValue := 0 }, { name := "FIELD_LENGTH_DIGITS", type := .int, accessFlags := 24, slot := 2, constantValue := 0 }, { name := "FIELD_START_DIGITS", type := .int, accessFlags := 24, slot := 3, constantValue := 0 }, { name := "TAG_LENGTH", type := .int, accessFlags := 24, slot := 4, constantValue := 0 }, { name := "DIRECTORY_ENTRY_LENGTH", type := .int, accessFlags := 24, slot := 5, constantValue := 0 }, { name := "RECORD_TERMINATOR", type := .int, accessFlags := 24, slot := 6, constantValue := 0 }, { name := "FIELD_TERMINATOR", type := .int, accessFlags := 24, slot := 7, constantValue := 0 }, { name := "SUBFIELD_DELIMITER", type := .int, accessFlags := 24, slot := 8, constantValue := 0 }]
  methods := #[k2m0, k2m1]
  instanceTypes := #[]
  staticTypes := #[(.object "java/lang/String"), (.object "java/lang/String"), .int, .int, .int, .int, .int, .int, .int]
  resolved := Array.replicate 39 none
  statics := none }

def pool3 : Array CpInfo := pool [(1, u "java/lang/Cloneable"), (0, .class_ 1), (0, u "java/lang/Object"), (0, .class_ 3)] 3

/-- java/lang/Cloneable -/
def k3 : Class := { plain "java/lang/Cloneable" (some 0) with
  accessFlags := 1537
  interfaces := #[]
  cf := some (fileOf pool3 2 #[] #[] 1537 4 #[] #[])
  fields := #[]
  methods := #[]
  instanceTypes := #[]
  staticTypes := #[]
  resolved := Array.replicate 8 none
  statics := none }

def pool4 : Array CpInfo := pool [(1, u "java/io/Serializable"), (0, .class_ 1), (0, u "java/lang/Object"), (0, .class_ 3)] 3

/-- java/io/Serializable -/
def k4 : Class := { plain "java/io/Serializable" (some 0) with
  accessFlags := 1537
  interfaces := #[]
  cf := some (fileOf pool4 2 #[] #[] 1537 4 #[] #[])
  fields := #[]
  methods := #[]
  instanceTypes := #[]
  staticTypes := #[]
  resolved := Array.replicate 8 none
  statics := none }

/-- the primitive byte -/
def k5 : Class := { plain "byte" none with kind := .primitive 'B', accessFlags := 0x411 }
/-- [B -/
def k6 : Class := { plain "[B" (some 0) with kind := .array 5 .byte, interfaces := #[3, 4], accessFlags := 1041 }

/-- the primitive int -/
def k7 : Class := { plain "int" none with kind := .primitive 'I', accessFlags := 0x411 }
/-- [I -/
def k8 : Class := { plain "[I" (some 0) with kind := .array 7 .int, interfaces := #[3, 4], accessFlags := 1041 }

def heap : Heap := #[]
def classes : Array Class := #[k0, k1, k2, k3, k4, k5, k6, k7, k8]
def interned : List (Array UInt16 × Addr) := []
def slotsUsed : Nat := 0
def theMethod : MethodId := ⟨1, 1⟩
def args0 : Array Value := #[.int 5, .int 3]
def aboutOver (below : List Frame) : State where
  vm := { classes := classes, interned := interned.toArray }
  heap := heap
  slotsUsed := slotsUsed
  threads := #[{ frames := .invoking theMethod args0 :: below }]
def below0 : List Frame := [.native { method := ⟨0, 0⟩, args := #[] }]
def about1 : State := aboutOver below0
def p0 : Program := .bare "" "" ""
def e0 : Env := launch0.env 0 0 0
theorem w_frames : about1.frames = Frame.invoking theMethod args0 :: below0 := rfl
set_option maxRecDepth 65536 in
theorem w_args : argsFit about1.vm theMethod args0 = true := by decide +kernel
set_option maxRecDepth 65536 in
theorem w_heap : heapFits about1 = true := by decide +kernel
set_option maxRecDepth 65536 in
theorem w_runnable : about1.curStatus? = some .runnable := by decide +kernel
set_option maxRecDepth 65536 in
theorem w_alone : about1.alone = true := by decide +kernel
set_option maxRecDepth 65536 in
theorem w_named : about1.methodNamed? x = some theMethod := by decide +kernel
set_option maxRecDepth 65536 in
theorem w_hears : about1.hears theMethod below0 = true := by decide +kernel
set_option maxRecDepth 65536 in
theorem w_ripe : about1.ripe theMethod args0 below0 = true := by decide +kernel
theorem w_running : about1.status = .running := rfl
set_option maxRecDepth 65536 in
theorem w_room : about1.hasRoom e0.platform room_1 = true :=
  launch0.hasRoom_least _ room_1 (by decide +kernel) (by decide +kernel) (by decide +kernel) (by decide +kernel) (by decide +kernel) (by decide +kernel)
theorem allAtoms_all (ts : List Jvm.Cond) (a : Array Jvm.Value) (st : Jvm.State) : (allAtoms ts).before a st = ts.all (fun c => c.before a st) := by
  induction ts with
  | nil => rfl
  | cons c t ih =>
    show (Jvm.Cond.and c (allAtoms t)).before a st = _
    rw [Jvm.Cond.before_and, ih, List.all_cons]
def words1 : List Jvm.Cond := Jvm.Cond.code x code maxLocals ret :: tables_1
/-- a 'code' word, met by the world's own term for the bytes: nothing is compared byte by byte -/
theorem code_word {y : MethodName} {bytes : ByteArray} {mx : Nat} {rt : Option FieldType} {a : Array Value} {s : State} {m : MethodId} {meth : Method} {c : Code} (h1 : s.methodNamed? y = some m) (h2 : s.vm.method? m = some meth) (h3 : meth.code = some c) (h4 : c.code = bytes)
    (h5 : (c.maxLocals == mx && c.exceptionTable.isEmpty && decide (c.maxStack ≤ mostOperands) && decide (meth.sig.returnType = rt) && !meth.locks && decide (parseMethodDescriptor y.desc = some meth.sig)) = true) : (Jvm.Cond.code y bytes mx rt).before a s = true := by
  simp only [Bool.and_eq_true, beq_iff_eq, Bool.not_eq_true', decide_eq_true_eq] at h5
  obtain ⟨⟨⟨⟨⟨g1, g2⟩, g3⟩, g4⟩, g5⟩, g6⟩ := h5
  simp [Cond.before, Cond.holds, Cond.value, h1, h2, h3, h4, g1, g2, g3, g4, g5, g6]
def isCode : Jvm.Cond → Bool
  | .code _ _ _ _ => true
  | _ => false
theorem all_split {L : List Jvm.Cond} {P : Jvm.Cond → Bool} (h1 : L.all (fun c => isCode c || P c) = true) (h2 : ∀ c ∈ L.filter isCode, P c = true) : L.all P = true := by
  refine List.all_eq_true.mpr fun c hc => ?_
  have h := List.all_eq_true.mp h1 c hc
  rcases Bool.eq_false_or_eq_true (isCode c) with hi | hi
  · exact h2 c (List.mem_filter.mpr ⟨hc, hi⟩)
  · simpa [hi] using h
set_option maxRecDepth 65536 in
theorem w_c0 : (Jvm.Cond.code x code maxLocals ret).before args0 about1 = true := code_word (m := ⟨1, 1⟩) (meth := k1m1) (c := k1c1) (by decide +kernel) rfl rfl rfl (by decide +kernel)
set_option maxRecDepth 65536 in
theorem w_c1 : (Jvm.Cond.code ({ cls := "com/example/fondmark/fondmark/marc/Iso2709IsSeparatorPinLaw", name := "check", desc := "(I)Z" } : Jvm.MethodName) method_3_code (2 : Nat) (Option.some Jvm.ClassFile.FieldType.boolean)).before args0 about1 = true := code_word (m := ⟨1, 2⟩) (meth := k1m2) (c := k1c2) (by decide +kernel) rfl rfl rfl (by decide +kernel)
set_option maxRecDepth 65536 in
theorem w_c2 : (Jvm.Cond.code ({ cls := "com/example/fondmark/fondmark/marc/Iso2709", name := "isSeparator", desc := "(I)Z" } : Jvm.MethodName) prog_36_method_2_code (1 : Nat) (Option.some Jvm.ClassFile.FieldType.boolean)).before args0 about1 = true := code_word (m := ⟨2, 1⟩) (meth := k2m1) (c := k2c1) (by decide +kernel) rfl rfl rfl (by decide +kernel)
def codes1 : List Jvm.Cond := [Jvm.Cond.code x code maxLocals ret, Jvm.Cond.code ({ cls := "com/example/fondmark/fondmark/marc/Iso2709IsSeparatorPinLaw", name := "check", desc := "(I)Z" } : Jvm.MethodName) method_3_code (2 : Nat) (Option.some Jvm.ClassFile.FieldType.boolean), Jvm.Cond.code ({ cls := "com/example/fondmark/fondmark/marc/Iso2709", name := "isSeparator", desc := "(I)Z" } : Jvm.MethodName) prog_36_method_2_code (1 : Nat) (Option.some Jvm.ClassFile.FieldType.boolean)]
set_option maxRecDepth 65536 in
theorem codes_eq : words1.filter isCode = codes1 := rfl
theorem w_codes : ∀ c ∈ words1.filter isCode, c.before args0 about1 = true := by
  rw [codes_eq]
  intro c hc
  simp only [codes1, List.mem_cons, List.not_mem_nil, or_false] at hc
  rcases hc with rfl | rfl | rfl
  · exact w_c0
  · exact w_c1
  · exact w_c2
set_option maxRecDepth 65536 in
theorem w_t1 : words1.all (fun c => isCode c || c.before args0 about1) = true := by decide +kernel
theorem w_tables : (allAtoms (Jvm.Cond.code x code maxLocals ret :: tables_1)).before args0 about1 = true := by
  rw [allAtoms_all]
  show words1.all (fun c => c.before args0 about1) = true
  refine all_split ?_ w_codes
  rw [w_t1]
set_option maxRecDepth 65536 in
theorem w_case : (Jvm.Cond.and given_1 narrow_1).before args0 about1 = true := by decide +kernel
theorem w_applies : (headSpec (Jvm.Cond.code x code maxLocals ret :: tables_1) room_1).applies x e0.platform about1 = true :=
  (Spec.applies_iff w_frames).mpr ⟨w_running, w_runnable, w_alone, w_named, w_hears, w_ripe, w_room, w_tables⟩
theorem atStart : AtStart classFile x code maxLocals ret World_1 tables_1 room_1 Calls_1 rest_1 Pre_1 launch0 p0 e0 about1 theMethod args0 below0 :=
  ⟨lists_1, trivial, launch0.admits_env _ _ _, launch0.least_env, fairChoices_fair.cas, fairChoices_fair.clock, w_frames, w_args, w_heap, w_applies, trivial, trivial, w_case⟩
end start1
theorem witness_1 : WitnessClaimed_1 := ⟨start1.p0, start1.e0, start1.about1, start1.theMethod, start1.args0, start1.below0, start1.atStart⟩
end Jvm.Pilot.@@N@@
