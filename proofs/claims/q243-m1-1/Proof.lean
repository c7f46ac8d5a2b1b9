import JvmDerived
import JvmDerived.Pilot.@@N@@Statement
import JvmDerived.Pilot.@@N@@Code
set_option linter.unusedVariables false
set_option linter.unusedSimpArgs false
namespace Jvm.RoadKit
open Sem ClassFile Op Lib Jvm.Stand Jvm.Free Jvm.LawKit
section OwnKit
variable {p : Program} {l : Launch} {e : Env} {R : Room} {s : State} {m : MethodId} {args : Array Value} {below : List Frame} {meth : Method} {c : Code} {T : State} {locs : List Loc} {cells slots : Nat} {Z : State} {a0 : Array Value} {Q : Option Value → Heap → List Loc → Prop} {kc ks : Nat}
/-- the run from A ends, returns, and leaves what Q says -/
def own_Fin (p : Program) (e : Env) (below : List Frame) (s : State) (Q : Option Value → Heap → List Loc → Prop) (kc ks : Nat) (A : State) : Prop :=
  ∃ s₂ o, Steps p.tables e below A s₂ ∧ s₂.status = .running ∧ Ended s₂ below o ∧ ∃ v L, o = .returned v ∧ Q v s₂.heap L ∧ FrameEnd s o s₂ L kc ks
theorem own_go {A A' : State} (h : ∀ t, Steps p.tables e below A' t → Steps p.tables e below A t) (k : own_Fin p e below s Q kc ks A') : own_Fin p e below s Q kc ks A := by
  obtain ⟨s₂, o, h1, r⟩ := k
  exact ⟨s₂, o, h _ h1, r⟩
theorem own_to {A A' : State} (h : Steps p.tables e below A A') (k : own_Fin p e below s Q kc ks A') : own_Fin p e below s Q kc ks A := own_go (fun _ q => h.trans q) k
theorem own_mono {A : State} {Q' : Option Value → Heap → List Loc → Prop} (k : own_Fin p e below s Q kc ks A) (q : ∀ v h L, Q v h L → Q' v h L) : own_Fin p e below s Q' kc ks A := by
  obtain ⟨s₂, o, h1, h2, h3, v, L, h4, h5, h6⟩ := k
  exact ⟨s₂, o, h1, h2, h3, v, L, h4, q _ _ _ h5, h6⟩
/-- what a body knows of itself -/
def own_Ctx (p : Program) (s : State) (m : MethodId) (meth : Method) (c : Code) (Z : State) (a0 : Array Value) (tb : List Cond) (y : MethodName) (bytes : ByteArray) (maxL : Nat) (ret : Option FieldType) : Prop :=
  p.tables.exec = Jvm.exec ∧ c.code = bytes ∧ c.maxLocals = maxL ∧ Z.Warmed39 s.vm ∧ s.vm.findClass y.cls = some m.cls ∧ meth.name = y.name ∧ meth.sig.returnType = ret ∧ meth.locks = false ∧ (∀ d ∈ tb, d.before a0 Z = true)
/-- a contract -/
def own_Met (l : Launch) (Z : State) (y : MethodName) (bytes : ByteArray) (maxL : Nat) (ret : Option FieldType) (ws : List Cond) (rm : Room) (as' : Array Value) (h0 : Heap) (Q : Option Value → Heap → List Loc → Prop) : Prop :=
  MetFree l y (head1 (Cond.code y bytes maxL ret :: ws) rm) (fun a U => a = as' ∧ Z.Warmed39 U.vm ∧ U.heap = h0) (fun _ _ _ _ _ => True) (fun _ U o U' => ∃ v L, o = .returned v ∧ Q v U'.heap L ∧ FrameEnd U o U' L rm.cells rm.slots)
theorem own_enter {y : MethodName} {bytes : ByteArray} {maxL : Nat} {ret : Option FieldType} {rm : Room} {as' : Array Value} {h0 : Heap} {ws tb : List Cond} {Ls : Array Slot} (hp : plainFor y = true) (hef : ∀ m, entryFrame m as' maxL = mkF m 0 Ls []) (hw : ∀ d ∈ tb, d.before a0 Z = true)
    (body : ∀ (p : Program) (e : Env) (s : State) (m : MethodId) (below : List Frame) (meth : Method) (c : Code) (T : State), Stand p l e rm s m as' below meth c T [] 0 0 → own_Ctx p s m meth c Z a0 tb y bytes maxL ret → T.heap = h0 → own_Fin p e below s Q rm.cells rm.slots (T.setTop (mkF m 0 Ls []))) :
    own_Met l Z y bytes maxL ret ws rm as' h0 Q := by
  refine MetFree.of_bodySF hp hisR ?_
  intro p e s m args below meth c s₁ Bd hml0 hP hK
  obtain ⟨rfl, hZ, hh⟩ := hP
  have e0 : s₁.heap = h0 := by rw [← hh, Bd.state]; rfl
  obtain ⟨s₂, o, h1, r⟩ := body p e s m below meth c s₁ (Stand.of_body Bd) ⟨Bd.exec, Bd.bytes, hml0, hZ, findClass_of_methodNamed Bd.named, (name_of_methodNamed Bd.named Bd.method).1, Bd.returns, Bd.notSynchronized, hw⟩ e0
  exact ⟨s₂, o, castTop (hef m) h1, r⟩
/-- a return of a value -/
theorem own_ret (X : Stand p l e R s m args below meth c T locs cells slots) (hlk : meth.locks = false) (hx : p.tables.exec = Jvm.exec) {pc : Nat} {Ls : Array Slot} {w : Value} {t : FieldType} {i : Instr} {rest : List Value} (hret : meth.sig.returnType = some t) (hn : narrow t w = w)
    (hi : (i = .ireturn ∧ (t = .int ∨ t = .boolean ∨ t = .byte ∨ t = .char ∨ t = .short) ∧ ∃ z, w = .int z) ∨ (i = .lreturn ∧ t = .long ∧ ∃ z, w = .long z) ∨ (i = .dreturn ∧ t = .double ∧ ∃ z, w = .double z) ∨ (i = .freturn ∧ t = .float ∧ ∃ z, w = .float z) ∨ (i = .areturn ∧ t.isReference = true ∧ w.isRef = true))
    (hd : decode c.code pc = .ok (i, 1)) (hq : Q (some w) T.heap locs) (hc : cells ≤ kc) (hs : slots ≤ ks) : own_Fin p e below s Q kc ks (T.setTop (mkF m pc Ls (w :: rest))) := by
  obtain ⟨fs, hr, hrun, hended, hW, hsame⟩ := X.leave (v := some w) (fun h => by rw [hret] at h; cases h) hlk
  exact ⟨_, _, retOut X hx hret hn hi hd hr, hrun, hended, _, _, rfl, hq, ⟨_, rfl⟩, hW, hsame.mono hc hs⟩
/-- a return of a boolean, byte, char, short that may be narrowed -/
theorem own_retN (X : Stand p l e R s m args below meth c T locs cells slots) (hlk : meth.locks = false) (hx : p.tables.exec = Jvm.exec) {pc : Nat} {Ls : Array Slot} {z : Int32} {t : FieldType} {rest : List Value} (hret : meth.sig.returnType = some t) (ht : t = .boolean ∨ t = .byte ∨ t = .char ∨ t = .short)
    (hd : decode c.code pc = .ok (.ireturn, 1)) (hq : Q (some (.int (nar t z))) T.heap locs) (hc : cells ≤ kc) (hs : slots ≤ ks) : own_Fin p e below s Q kc ks (T.setTop (mkF m pc Ls (.int z :: rest))) := by
  obtain ⟨fs, hr, hrun, hended, hW, hsame⟩ := X.leave (v := some (.int (nar t z))) (fun h => by rw [hret] at h; cases h) hlk
  exact ⟨_, _, retN X hx hret ht hd hr, hrun, hended, _, _, rfl, hq, ⟨_, rfl⟩, hW, hsame.mono hc hs⟩
/-- a return of nothing -/
theorem own_ret0 (X : Stand p l e R s m args below meth c T locs cells slots) (hlk : meth.locks = false) (hx : p.tables.exec = Jvm.exec) {pc : Nat} {Ls : Array Slot} (hret : meth.sig.returnType = none)
    (hd : decode c.code pc = .ok (.return_, 1)) (hq : Q none T.heap locs) (hc : cells ≤ kc) (hs : slots ≤ ks) : own_Fin p e below s Q kc ks (T.setTop (mkF m pc Ls [])) := by
  obtain ⟨fs, hr, hrun, hended, hW, hsame⟩ := X.leave (v := none) (fun _ => rfl) hlk
  exact ⟨_, _, X.returnOut hx hret hd hr, hrun, hended, _, _, rfl, hq, ⟨_, rfl⟩, hW, hsame.mono hc hs⟩
/-- calls by contract -/
theorem own_callS (X : Stand p l e R s m args below meth c T locs cells slots) (hx : p.tables.exec = Jvm.exec) (hZ : Z.Warmed39 s.vm) {h : Heap} (eT : T.heap = h) {own : String} {index : Nat} {y : MethodName} {bytes : ByteArray} {maxL : Nat} {ret : Option FieldType} (hown : s.vm.findClass own = some m.cls)
    (w1 : (Cond.methodLink own index y).before a0 Z = true) (w2 : (Cond.static y).before a0 Z = true) (w3 : (Cond.initialized y.cls).before a0 Z = true) (w4 : (Cond.code y bytes maxL ret).before a0 Z = true) (hy : y.cls ≠ "java/lang/invoke/MethodHandle" ∧ y.cls ≠ "java/lang/invoke/VarHandle")
    {rm : Room} {argsL rest : List Value} (hM : own_Met l Z y bytes maxL ret [] rm argsL.toArray h Q) (hf : rm.frames + 1 ≤ R.frames) (W : Nat) (hl : W + (maxL + 11) + rm.locals ≤ R.locals) (hcR : cells + rm.cells ≤ R.cells) (hsR : slots + rm.slots ≤ R.slots)
    {g : JFrame} (hg : g.method = m) (hsize : g.locals.size = c.maxLocals) (hlen : ∀ sig, parseMethodDescriptor y.desc = some sig → argsL.length = sig.parameters.length) (hstack : g.stack = argsL.reverse ++ rest) (hW : 2 * g.monitorRoom + (rest.map fun v => v.category).sum ≤ W) (hdg : decode c.code g.pc = .ok (.invokestatic index, 3)) :
    ∃ v T' L, Stand p l e R s m args below meth c T' (locs ++ L) (cells + rm.cells) (slots + rm.slots) ∧ Q v T'.heap L ∧ ∀ target, Steps p.tables e below (T'.setTop { g with pc := g.pc + 3, stack := v.toList ++ rest }) target → Steps p.tables e below (T.setTop g) target := by
  obtain ⟨v, _, ⟨T', L', k', n'⟩, -, X', ⟨L, hQ, l1, y1, z1⟩, st⟩ := Jvm.LawKit.callS X hx hown (mvT hZ w1) (mvT hZ w2) (mvT hZ w3) (mvT hZ w4) hy (backOf (W := W) hM hZ w4 w3 hf hl) hg hsize hlen hstack hW hdg (fun _ _ => ⟨rfl, eT, hcR, hsR⟩)
  dsimp only [Pt.U, Pt.locs, Pt.cells, Pt.slots] at X' l1 y1 z1 st hQ
  subst l1 y1 z1
  exact ⟨v, T', L, X', hQ, st⟩
/-- a result, and nothing else -/
def own_QP (r : Option Value) (h0 : Heap) (v : Option Value) (h : Heap) (L : List Loc) : Prop := v = r ∧ L = [] ∧ h = h0
theorem own_callP (X : Stand p l e R s m args below meth c T locs cells slots) (hx : p.tables.exec = Jvm.exec) (hZ : Z.Warmed39 s.vm) {h : Heap} (eT : T.heap = h) {own : String} {index : Nat} {y : MethodName} {bytes : ByteArray} {maxL : Nat} {ret : Option FieldType} (hown : s.vm.findClass own = some m.cls)
    (w1 : (Cond.methodLink own index y).before a0 Z = true) (w2 : (Cond.static y).before a0 Z = true) (w3 : (Cond.initialized y.cls).before a0 Z = true) (w4 : (Cond.code y bytes maxL ret).before a0 Z = true) (hy : y.cls ≠ "java/lang/invoke/MethodHandle" ∧ y.cls ≠ "java/lang/invoke/VarHandle")
    {fr lo : Nat} {r : Option Value} {argsL rest : List Value} (hM : own_Met l Z y bytes maxL ret [] { frames := fr, cells := 0, slots := 0, locals := lo } argsL.toArray h (own_QP r h)) (hf : fr + 1 ≤ R.frames) (W : Nat) (hl : W + (maxL + 11) + lo ≤ R.locals) (hcR : cells ≤ R.cells) (hsR : slots ≤ R.slots)
    {g : JFrame} (hg : g.method = m) (hsize : g.locals.size = c.maxLocals) (hlen : ∀ sig, parseMethodDescriptor y.desc = some sig → argsL.length = sig.parameters.length) (hstack : g.stack = argsL.reverse ++ rest) (hW : 2 * g.monitorRoom + (rest.map fun v => v.category).sum ≤ W) (hdg : decode c.code g.pc = .ok (.invokestatic index, 3)) :
    ∃ T', Stand p l e R s m args below meth c T' locs cells slots ∧ T'.heap = h ∧ ∀ target, Steps p.tables e below (T'.setTop { g with pc := g.pc + 3, stack := r.toList ++ rest }) target → Steps p.tables e below (T.setTop g) target := by
  obtain ⟨v, T', L, X', ⟨rfl, rfl, e1⟩, st⟩ := own_callS X hx hZ eT hown w1 w2 w3 w4 hy hM hf W hl hcR hsR hg hsize hlen hstack hW hdg
  rw [List.append_nil] at X'
  exact ⟨T', X', e1, st⟩
theorem own_callI (X : Stand p l e R s m args below meth c T locs cells slots) (hx : p.tables.exec = Jvm.exec) (hZ : Z.Warmed39 s.vm) {h : Heap} (eT : T.heap = h) {own : String} {index : Nat} {y : MethodName} {bytes : ByteArray} {maxL : Nat} (hy1 : y.name = "<init>") (hown : s.vm.findClass own = some m.cls)
    (w1 : (Cond.methodLink own index y).before a0 Z = true) (w2 : (Cond.instanceMethod y).before a0 Z = true) (w3 : (Cond.initialized y.cls).before a0 Z = true) (w4 : (Cond.code y bytes maxL none).before a0 Z = true) (hy : y.cls ≠ "java/lang/invoke/MethodHandle" ∧ y.cls ≠ "java/lang/invoke/VarHandle")
    {rm : Room} {a : Addr} {argsL rest : List Value} (hM : own_Met l Z y bytes maxL none [] rm (.ref a :: argsL).toArray h Q) (hf : rm.frames + 1 ≤ R.frames) (W : Nat) (hl : W + (maxL + 11) + rm.locals ≤ R.locals) (hcR : cells + rm.cells ≤ R.cells) (hsR : slots + rm.slots ≤ R.slots)
    {g : JFrame} (hg : g.method = m) (hsize : g.locals.size = c.maxLocals) (hlen : ∀ sig, parseMethodDescriptor y.desc = some sig → argsL.length = sig.parameters.length) (hstack : g.stack = argsL.reverse ++ .ref a :: rest) (hW : 2 * g.monitorRoom + (rest.map fun v => v.category).sum ≤ W) (hdg : decode c.code g.pc = .ok (.invokespecial index, 3)) :
    ∃ v T' L, Stand p l e R s m args below meth c T' (locs ++ L) (cells + rm.cells) (slots + rm.slots) ∧ Q v T'.heap L ∧ ∀ target, Steps p.tables e below (T'.setTop { g with pc := g.pc + 3, stack := v.toList ++ rest }) target → Steps p.tables e below (T.setTop g) target := by
  obtain ⟨v, _, ⟨T', L', k', n'⟩, -, X', ⟨L, hQ, l1, y1, z1⟩, st⟩ := X.specialBack hx hy1 hown (mvT hZ w1) (mvT hZ w2) (mvT hZ w4) hy (backOf (W := W) hM hZ w4 w3 hf hl) hg hsize (Steps.refl _) hlen hstack hW hdg (fun _ _ => ⟨rfl, eT, hcR, hsR⟩)
  dsimp only [Pt.U, Pt.locs, Pt.cells, Pt.slots] at X' l1 y1 z1 st hQ
  subst l1 y1 z1
  exact ⟨v, T', L, X', hQ, fun _ q => st.trans q⟩
theorem own_callIP (X : Stand p l e R s m args below meth c T locs cells slots) (hx : p.tables.exec = Jvm.exec) (hZ : Z.Warmed39 s.vm) {h : Heap} (eT : T.heap = h) {own : String} {index : Nat} {y : MethodName} {bytes : ByteArray} {maxL : Nat} (hy1 : y.name = "<init>") (hown : s.vm.findClass own = some m.cls)
    (w1 : (Cond.methodLink own index y).before a0 Z = true) (w2 : (Cond.instanceMethod y).before a0 Z = true) (w3 : (Cond.initialized y.cls).before a0 Z = true) (w4 : (Cond.code y bytes maxL none).before a0 Z = true) (hy : y.cls ≠ "java/lang/invoke/MethodHandle" ∧ y.cls ≠ "java/lang/invoke/VarHandle")
    {fr lo : Nat} {a : Addr} {argsL rest : List Value} (hM : own_Met l Z y bytes maxL none [] { frames := fr, cells := 0, slots := 0, locals := lo } (.ref a :: argsL).toArray h (own_QP none h)) (hf : fr + 1 ≤ R.frames) (W : Nat) (hl : W + (maxL + 11) + lo ≤ R.locals) (hcR : cells ≤ R.cells) (hsR : slots ≤ R.slots)
    {g : JFrame} (hg : g.method = m) (hsize : g.locals.size = c.maxLocals) (hlen : ∀ sig, parseMethodDescriptor y.desc = some sig → argsL.length = sig.parameters.length) (hstack : g.stack = argsL.reverse ++ .ref a :: rest) (hW : 2 * g.monitorRoom + (rest.map fun v => v.category).sum ≤ W) (hdg : decode c.code g.pc = .ok (.invokespecial index, 3)) :
    ∃ T', Stand p l e R s m args below meth c T' locs cells slots ∧ T'.heap = h ∧ ∀ target, Steps p.tables e below (T'.setTop { g with pc := g.pc + 3, stack := rest }) target → Steps p.tables e below (T.setTop g) target := by
  obtain ⟨v, T', L, X', ⟨rfl, rfl, e1⟩, st⟩ := own_callI X hx hZ eT hy1 hown w1 w2 w3 w4 hy hM hf W hl hcR hsR hg hsize hlen hstack hW hdg
  rw [List.append_nil] at X'
  exact ⟨T', X', e1, st⟩
theorem own_callV (X : Stand p l e R s m args below meth c T locs cells slots) (hx : p.tables.exec = Jvm.exec) (hZ : Z.Warmed39 s.vm) {h : Heap} (eT : T.heap = h) {own C : String} {index : Nat} {y : MethodName} {bytes : ByteArray} {maxL : Nat} {ret : Option FieldType} (hown : s.vm.findClass own = some m.cls)
    (w1 : (Cond.methodLink own index y).before a0 Z = true) (wd : (Cond.declares y).before a0 Z = true) (ws : (Cond.selects C y y).before a0 Z = true) (w2 : (Cond.instanceMethod y).before a0 Z = true) (w3 : (Cond.initialized y.cls).before a0 Z = true) (w4 : (Cond.code y bytes maxL ret).before a0 Z = true) (hy : y.cls ≠ "java/lang/invoke/MethodHandle" ∧ y.cls ≠ "java/lang/invoke/VarHandle")
    {rm : Room} {a : Addr} (hE : Exa Z h a C) {argsL rest : List Value} (hM : own_Met l Z y bytes maxL ret [] rm (.ref a :: argsL).toArray h Q) (hf : rm.frames + 1 ≤ R.frames) (W : Nat) (hl : W + (maxL + 11) + rm.locals ≤ R.locals) (hcR : cells + rm.cells ≤ R.cells) (hsR : slots + rm.slots ≤ R.slots)
    {g : JFrame} (hg : g.method = m) (hsize : g.locals.size = c.maxLocals) (hlen : ∀ sig, parseMethodDescriptor y.desc = some sig → argsL.length = sig.parameters.length) (hstack : g.stack = argsL.reverse ++ .ref a :: rest) (hW : 2 * g.monitorRoom + (rest.map fun v => v.category).sum ≤ W) (hdg : decode c.code g.pc = .ok (.invokevirtual index, 3)) :
    ∃ v T' L, Stand p l e R s m args below meth c T' (locs ++ L) (cells + rm.cells) (slots + rm.slots) ∧ Q v T'.heap L ∧ ∀ target, Steps p.tables e below (T'.setTop { g with pc := g.pc + 3, stack := v.toList ++ rest }) target → Steps p.tables e below (T.setTop g) target := by
  obtain ⟨cq, kq, qa, qb, qc⟩ := isOf hZ eT hE
  obtain ⟨v, _, ⟨T', L', k', n'⟩, -, X', ⟨L, hQ, l1, y1, z1⟩, st⟩ := X.virtualBack hx hown (mvT hZ w1) (mvT hZ wd) (notFace_of_selects (args := #[]) (mvT hZ ws)) (mvT hZ ws) (mvT hZ w2) hy (backOf (W := W) hM hZ w4 w3 hf hl) qa qc hg hsize (Steps.refl _) hlen hstack hW hdg (fun _ _ => ⟨rfl, eT, hcR, hsR⟩)
  dsimp only [Pt.U, Pt.locs, Pt.cells, Pt.slots] at X' l1 y1 z1 st hQ
  subst l1 y1 z1
  exact ⟨v, T', L, X', hQ, fun _ q => st.trans q⟩
/-- a virtual call that only reads -/
theorem own_callVP (X : Stand p l e R s m args below meth c T locs cells slots) (hx : p.tables.exec = Jvm.exec) (hZ : Z.Warmed39 s.vm) {h : Heap} (eT : T.heap = h) {own C : String} {index : Nat} {y : MethodName} {bytes : ByteArray} {maxL : Nat} {ret : Option FieldType} (hown : s.vm.findClass own = some m.cls)
    (w1 : (Cond.methodLink own index y).before a0 Z = true) (wd : (Cond.declares y).before a0 Z = true) (ws : (Cond.selects C y y).before a0 Z = true) (w2 : (Cond.instanceMethod y).before a0 Z = true) (w3 : (Cond.initialized y.cls).before a0 Z = true) (w4 : (Cond.code y bytes maxL ret).before a0 Z = true) (hy : y.cls ≠ "java/lang/invoke/MethodHandle" ∧ y.cls ≠ "java/lang/invoke/VarHandle")
    {fr lo : Nat} {r : Option Value} {a : Addr} (hE : Exa Z h a C) {argsL rest : List Value} (hM : own_Met l Z y bytes maxL ret [] { frames := fr, cells := 0, slots := 0, locals := lo } (.ref a :: argsL).toArray h (own_QP r h)) (hf : fr + 1 ≤ R.frames) (W : Nat) (hl : W + (maxL + 11) + lo ≤ R.locals) (hcR : cells ≤ R.cells) (hsR : slots ≤ R.slots)
    {g : JFrame} (hg : g.method = m) (hsize : g.locals.size = c.maxLocals) (hlen : ∀ sig, parseMethodDescriptor y.desc = some sig → argsL.length = sig.parameters.length) (hstack : g.stack = argsL.reverse ++ .ref a :: rest) (hW : 2 * g.monitorRoom + (rest.map fun v => v.category).sum ≤ W) (hdg : decode c.code g.pc = .ok (.invokevirtual index, 3)) :
    ∃ T', Stand p l e R s m args below meth c T' locs cells slots ∧ T'.heap = h ∧ ∀ target, Steps p.tables e below (T'.setTop { g with pc := g.pc + 3, stack := r.toList ++ rest }) target → Steps p.tables e below (T.setTop g) target := by
  obtain ⟨v, T', L, X', ⟨rfl, rfl, e1⟩, st⟩ := own_callV X hx hZ eT hown w1 wd ws w2 w3 w4 hy hE hM hf W hl hcR hsR hg hsize hlen hstack hW hdg
  rw [List.append_nil] at X'
  exact ⟨T', X', e1, st⟩
/-- an array of ints or bytes, its elements by a function -/
def own_A (Z : State) (h : Heap) (a : Addr) (ty : FieldType) (z : Int32) (f : Int32 → Int32) : Prop :=
  ∃ cl : Cell, Arr Z h a cl ty ∧ cl.slots.size = z.toNatClampNeg ∧ ¬ z < 0 ∧ ∀ j : Int32, ¬ j < 0 → j < z → cl.slots[j.toNatClampNeg]? = some (.int (f j))
section A
variable {h h' : Heap} {a b : Addr} {ty : FieldType} {z : Int32} {f : Int32 → Int32} {ws : List Addr} {sl : Nat} {v : Value}
theorem own_A.lt (F : own_A Z h a ty z f) : a < h.size := by obtain ⟨cl, A, -⟩ := F; exact A.lt
theorem own_A.ext (F : own_A Z h a ty z f) (E : Ext h h') : own_A Z h' a ty z f := by obtain ⟨cl, A, r⟩ := F; exact ⟨cl, A.ext E, r⟩
theorem own_A.other (F : own_A Z h a ty z f) (W : Wr h h' b sl v) (q : a ≠ b) : own_A Z h' a ty z f := by obtain ⟨cl, A, r⟩ := F; exact ⟨cl, A.other W q, r⟩
theorem own_A.keep (F : own_A Z h a ty z f) (K : Keep h h' ws) (q : a ∉ ws) : own_A Z h' a ty z f := by obtain ⟨cl, A, r⟩ := F; exact ⟨cl, ⟨K.2.1 a cl A.1 q, A.2⟩, r⟩
theorem own_A.cong (F : own_A Z h a ty z f) {f' : Int32 → Int32} (q : ∀ j : Int32, ¬ j < 0 → j < z → f j = f' j) : own_A Z h a ty z f' := by
  obtain ⟨cl, A, S, n, H⟩ := F
  exact ⟨cl, A, S, n, fun j h1 h2 => by rw [← q j h1 h2]; exact H j h1 h2⟩
theorem own_A.set (F : own_A Z h a ty z f) {j w : Int32} (h0 : ¬ j < 0) (hj : j < z) (W : Wr h h' a j.toNatClampNeg (.int w)) : own_A Z h' a ty z (fun i => if i = j then w else f i) := by
  obtain ⟨cl, A, S, n, H⟩ := F
  refine ⟨_, A.same W, by rw [sz_set]; exact S, n, fun i h1 h2 => ?_⟩
  by_cases q : i = j
  · rw [get_hit (inb_of S ⟨h0, hj⟩) q]; show _ = some (Value.int (if i = j then w else f i)); rw [if_pos q]
  · rw [get_miss h0 h1 q, H i h1 h2]; show _ = some (Value.int (if i = j then w else f i)); rw [if_neg q]
theorem own_A.new {k : ClassId} (A : Arr Z h a (newA k ty z) ty) (q : ¬ z < 0) (d : defaultValue ty = .int 0) : own_A Z h a ty z (fun _ => 0) :=
  ⟨_, A, sz_new _ _ _, q, fun j h1 h2 => by rw [get_new (by have := inb_of (sz_new k ty z) ⟨h1, h2⟩; rw [sz_new] at this; exact this), d]⟩
theorem own_A.nn (F : own_A Z h a ty z f) : ¬ z < 0 := by obtain ⟨cl, A, S, n, H⟩ := F; exact n
end A
theorem own_newI (X : Stand p l e R s m args below meth c T locs cells slots) (hx : p.tables.exec = Jvm.exec) (hZ : Z.Warmed39 s.vm) {h : Heap} (eT : T.heap = h) (w : (Cond.arrayClass .int).before a0 Z = true) {g : JFrame} (hg : g.method = m) (hd : decode c.code g.pc = .ok (.newarray .int, 2)) {n : Int32} {rest : List Value} (hs : g.stack = .int n :: rest)
    (hn : ¬ n < 0) (cap : Nat) (hcap : n.toNatClampNeg ≤ cap) (hb : cap * 8 ≤ 536870912) (hc : cells + 1 ≤ R.cells) (hl : slots + cap ≤ R.slots) :
    ∃ T' a, Stand p l e R s m args below meth c T' locs (cells + 1) (slots + cap) ∧ Ext h T'.heap ∧ a = h.size ∧ own_A Z T'.heap a .int n (fun _ => 0) ∧ ∀ target, Steps p.tables e below (T'.setTop { g with pc := g.pc + 2, stack := .ref a :: rest }) target → Steps p.tables e below (T.setTop g) target := by
  obtain ⟨T', h', cA, X', e1, E, A, st⟩ := newP (aty := .int) X hx hZ w eT hg hd hs hn hcap hb hc hl
  subst e1
  exact ⟨T', _, X', E, rfl, own_A.new A hn rfl, st⟩
theorem own_newB (X : Stand p l e R s m args below meth c T locs cells slots) (hx : p.tables.exec = Jvm.exec) (hZ : Z.Warmed39 s.vm) {h : Heap} (eT : T.heap = h) (w : (Cond.arrayClass .byte).before a0 Z = true) {g : JFrame} (hg : g.method = m) (hd : decode c.code g.pc = .ok (.newarray .byte, 2)) {n : Int32} {rest : List Value} (hs : g.stack = .int n :: rest)
    (hn : ¬ n < 0) (cap : Nat) (hcap : n.toNatClampNeg ≤ cap) (hb : cap * 8 ≤ 536870912) (hc : cells + 1 ≤ R.cells) (hl : slots + cap ≤ R.slots) :
    ∃ T' a, Stand p l e R s m args below meth c T' locs (cells + 1) (slots + cap) ∧ Ext h T'.heap ∧ a = h.size ∧ own_A Z T'.heap a .byte n (fun _ => 0) ∧ ∀ target, Steps p.tables e below (T'.setTop { g with pc := g.pc + 2, stack := .ref a :: rest }) target → Steps p.tables e below (T.setTop g) target := by
  obtain ⟨T', h', cA, X', e1, E, A, st⟩ := newP (aty := .byte) X hx hZ w eT hg hd hs hn hcap hb hc hl
  subst e1
  exact ⟨T', _, X', E, rfl, own_A.new A hn rfl, st⟩
theorem own_stI (X : Stand p l e R s m args below meth c T locs cells slots) (hx : p.tables.exec = Jvm.exec) (hZ : Z.Warmed39 s.vm) {h : Heap} (eT : T.heap = h) {a : Addr} {z : Int32} {f : Int32 → Int32} (F : own_A Z h a .int z f) {j x : Int32} (h0 : ¬ j < 0) (hj : j < z) {g : JFrame} (hg : g.method = m) {rest : List Value} (hs : g.stack = .int x :: .int j :: .ref a :: rest) (hd : decode c.code g.pc = .ok (.iastore, 1)) :
    ∃ T', Stand p l e R s m args below meth c T' (locs ++ [⟨a, j.toNatClampNeg⟩]) cells slots ∧ Wr h T'.heap a j.toNatClampNeg (.int x) ∧ own_A Z T'.heap a .int z (fun i => if i = j then x else f i) ∧ ∀ target, Steps p.tables e below (T'.setTop { g with pc := g.pc + 1, stack := rest }) target → Steps p.tables e below (T.setTop g) target := by
  obtain ⟨cl, A, S, n, H⟩ := id F
  obtain ⟨T', h', X', e1, W, st⟩ := stI X hx hZ eT A (inb_of S ⟨h0, hj⟩) hg hs hd
  subst e1
  exact ⟨T', X', W, F.set h0 hj W, st⟩
theorem own_stB (X : Stand p l e R s m args below meth c T locs cells slots) (hx : p.tables.exec = Jvm.exec) (hZ : Z.Warmed39 s.vm) {h : Heap} (eT : T.heap = h) {a : Addr} {z : Int32} {f : Int32 → Int32} (F : own_A Z h a .byte z f) {j x : Int32} (h0 : ¬ j < 0) (hj : j < z) {g : JFrame} (hg : g.method = m) {rest : List Value} (hs : g.stack = .int x :: .int j :: .ref a :: rest) (hd : decode c.code g.pc = .ok (.bastore, 1)) :
    ∃ T', Stand p l e R s m args below meth c T' (locs ++ [⟨a, j.toNatClampNeg⟩]) cells slots ∧ Wr h T'.heap a j.toNatClampNeg (.int x.toInt8.toInt32) ∧ own_A Z T'.heap a .byte z (fun i => if i = j then x.toInt8.toInt32 else f i) ∧ ∀ target, Steps p.tables e below (T'.setTop { g with pc := g.pc + 1, stack := rest }) target → Steps p.tables e below (T.setTop g) target := by
  obtain ⟨cl, A, S, n, H⟩ := id F
  obtain ⟨T', h', X', e1, W, st⟩ := stB X hx hZ eT A (inb_of S ⟨h0, hj⟩) hg hs hd
  subst e1
  exact ⟨T', X', W, F.set h0 hj W, st⟩
theorem own_ldI (X : Stand p l e R s m args below meth c T locs cells slots) (hx : p.tables.exec = Jvm.exec) (hZ : Z.Warmed39 s.vm) {h : Heap} (eT : T.heap = h) {a : Addr} {z : Int32} {f : Int32 → Int32} (F : own_A Z h a .int z f) {j : Int32} (h0 : ¬ j < 0) (hj : j < z) {g : JFrame} (hg : g.method = m) {rest : List Value} (hs : g.stack = .int j :: .ref a :: rest) (hd : decode c.code g.pc = .ok (.iaload, 1)) :
    ∀ target, Steps p.tables e below (T.setTop { g with pc := g.pc + 1, stack := .int (f j) :: rest }) target → Steps p.tables e below (T.setTop g) target := by
  obtain ⟨cl, A, S, n, H⟩ := id F
  exact fun target q => X.iaload hx (by rw [eT]; exact A.1) (State.isArrayOf_alike hZ.alike A.2.1) A.2.2 (inb_of S ⟨h0, hj⟩) (H j h0 hj) hg hs hd target q
theorem own_ldB (X : Stand p l e R s m args below meth c T locs cells slots) (hx : p.tables.exec = Jvm.exec) (hZ : Z.Warmed39 s.vm) {h : Heap} (eT : T.heap = h) {a : Addr} {z : Int32} {f : Int32 → Int32} (F : own_A Z h a .byte z f) {j : Int32} (h0 : ¬ j < 0) (hj : j < z) {g : JFrame} (hg : g.method = m) {rest : List Value} (hs : g.stack = .int j :: .ref a :: rest) (hd : decode c.code g.pc = .ok (.baload, 1)) :
    ∀ target, Steps p.tables e below (T.setTop { g with pc := g.pc + 1, stack := .int (f j) :: rest }) target → Steps p.tables e below (T.setTop g) target := by
  obtain ⟨cl, A, S, n, H⟩ := id F
  exact fun target q => X.baloadBytes hx (by rw [eT]; exact A.1) (State.isArrayOf_alike hZ.alike A.2.1) A.2.2 (inb_of S ⟨h0, hj⟩) (H j h0 hj) hg hs hd target q
theorem own_len (X : Stand p l e R s m args below meth c T locs cells slots) (hx : p.tables.exec = Jvm.exec) (hZ : Z.Warmed39 s.vm) {h : Heap} (eT : T.heap = h) {a : Addr} {ty : FieldType} {z : Int32} {f : Int32 → Int32} (F : own_A Z h a ty z f) {g : JFrame} (hg : g.method = m) {rest : List Value} (hs : g.stack = .ref a :: rest) (hd : decode c.code g.pc = .ok (.arraylength, 1)) :
    ∀ target, Steps p.tables e below (T.setTop { g with pc := g.pc + 1, stack := .int z :: rest }) target → Steps p.tables e below (T.setTop g) target := by
  obtain ⟨cl, A, S, n, H⟩ := id F
  exact fun target q => X.arraylength hx (by rw [eT]; exact A.1) (State.isArrayOf_alike hZ.alike A.2.1) hg hs hd target (by rw [len_of S n]; exact q)
/-- fields -/
theorem own_getF (X : Stand p l e R s m args below meth c T locs cells slots) (hx : p.tables.exec = Jvm.exec) (hZ : Z.Warmed39 s.vm) {h : Heap} (eT : T.heap = h) {own O n d : String} {index : Nat} (hown : s.vm.findClass own = some m.cls) (w : (Cond.fieldLink own index O n d).before a0 Z = true)
    {a : Addr} {v : Value} (F : Fld Z h a O n d v) {g : JFrame} (hg : g.method = m) {rest : List Value} (hs : g.stack = .ref a :: rest) (hd : decode c.code g.pc = .ok (.getfield index, 3)) :
    ∃ T', Stand p l e R s m args below meth c T' locs cells slots ∧ T'.heap = h ∧ ∀ target, Steps p.tables e below (T'.setTop { g with pc := g.pc + 3, stack := v :: rest }) target → Steps p.tables e below (T.setTop g) target :=
  getF X hx hZ hown (host := "") (Or.inl w) Via.refl eT F hg hs hd
theorem own_putF (X : Stand p l e R s m args below meth c T locs cells slots) (hx : p.tables.exec = Jvm.exec) (hZ : Z.Warmed39 s.vm) {h : Heap} (eT : T.heap = h) {own O n d C : String} {index kk : Nat} {ty : FieldType} (hown : s.vm.findClass own = some m.cls) (w : (Cond.fieldLink own index O n d).before a0 Z = true)
    {a : Addr} {v old : Value} (F : Fld Z h a O n d old) (E : Exa Z h a C) (L : (Cond.lays C O n d).before a0 Z = true ∨ ((Cond.laysFinal C O n d).before a0 Z = true ∧ own = O ∧ meth.name = "<init>")) (wi : (Cond.instantiable C kk).before a0 Z = true)
    (hty : parseFieldDescriptor d = some ty) (hn : narrow ty v = v) (hf : fits ty v = true) {g : JFrame} (hg : g.method = m) {rest : List Value} (hs : g.stack = v :: .ref a :: rest) (hd : decode c.code g.pc = .ok (.putfield index, 3)) :
    ∃ T', Stand p l e R s m args below meth c T' (locs ++ [⟨a, slotOf Z O n d⟩]) cells slots ∧ Wr h T'.heap a (slotOf Z O n d) v ∧ ∀ target, Steps p.tables e below (T'.setTop { g with pc := g.pc + 3, stack := rest }) target → Steps p.tables e below (T.setTop g) target := by
  obtain ⟨T', h', X', e1, W, st⟩ := putF X hx hZ hown (host := "") (Or.inl w) Via.refl eT F E L wi hty hn hf hg hs hd
  subst e1
  exact ⟨T', X', W, st⟩
/-- comparisons with literals, through Int -/
theorem own_lt {x k : Int32} (K : Int) (hk : k.toInt = K) (h : x.toInt < K) : x < k := by rw [Int32.lt_iff_toInt_lt, hk]; exact h
theorem own_nlt {x k : Int32} (K : Int) (hk : k.toInt = K) (h : K ≤ x.toInt) : ¬ x < k := by rw [Int32.lt_iff_toInt_lt, hk]; omega
theorem own_gt {x k : Int32} (K : Int) (hk : k.toInt = K) (h : K < x.toInt) : k < x := by rw [Int32.lt_iff_toInt_lt, hk]; exact h
theorem own_ngt {x k : Int32} (K : Int) (hk : k.toInt = K) (h : x.toInt ≤ K) : ¬ k < x := by rw [Int32.lt_iff_toInt_lt, hk]; omega
theorem own_ieq {x k : Int32} (K : Int) (hk : k.toInt = K) (h : x.toInt = K) : x = k := Int32.toInt_inj.mp (by rw [hk]; exact h)
theorem own_ineq {x k : Int32} (K : Int) (hk : k.toInt = K) (h : x.toInt < K ∨ K < x.toInt) : ¬ x = k := fun q => by subst q; omega
end OwnKit
end Jvm.RoadKit
namespace Jvm.RoadKit
open Sem ClassFile Op Lib Jvm.Stand Jvm.Free Jvm.LawKit
theorem own_mask31 (b : Int32) : 0 ≤ (b &&& 2147483647).toInt := by
  have h := c_mask b 2147483647 31 (by decide) (by decide)
  rw [h]; exact Int.emod_nonneg _ (by decide)
theorem own_modpos (b k : Int32) (K : Int) (hk : k.toInt = K) (h0 : 0 < K) : 0 ≤ ((b &&& 2147483647) % k).toInt ∧ ((b &&& 2147483647) % k).toInt < K := by
  rw [(c_irem (b &&& 2147483647) k K hk).1 (own_mask31 b)]
  exact ⟨Int.emod_nonneg _ (by omega), Int.emod_lt_of_pos _ h0⟩
theorem own_maskpos (b m : Int32) (k : Nat) (hk : k ≤ 31) (hm : m.toBitVec.toNat = 2 ^ k - 1) (K : Int) (hK : K = ((2 ^ k : Nat) : Int)) (h0 : 0 < K) : 0 ≤ (b &&& m).toInt ∧ (b &&& m).toInt < K := by
  rw [c_mask b m k hk hm, ← hK]
  exact ⟨Int.emod_nonneg _ (by omega), Int.emod_lt_of_pos _ h0⟩
end Jvm.RoadKit
namespace Jvm.RoadKit
open Sem ClassFile Op Lib Jvm.Stand Jvm.Free Jvm.LawKit
theorem own_clamp (n : Int32) (k : Nat) (h : n.toInt ≤ k) : n.toNatClampNeg ≤ k := by
  show n.toInt.toNat ≤ k
  omega
theorem own_bb (x : Int32) : x.toInt8.toInt32.toInt8.toInt32 = x.toInt8.toInt32 := by rw [Int8.toInt8_toInt32]
theorem own_ltT {x y : Int32} (h : x < y) : x.toInt < y.toInt := Int32.lt_iff_toInt_lt.mp h
theorem own_nltT {x y : Int32} (h : ¬ x < y) : y.toInt ≤ x.toInt := by rw [Int32.lt_iff_toInt_lt] at h; omega
theorem own_Tlt {x y : Int32} (h : x.toInt < y.toInt) : x < y := Int32.lt_iff_toInt_lt.mpr h
theorem own_Tnlt {x y : Int32} (h : y.toInt ≤ x.toInt) : ¬ x < y := by rw [Int32.lt_iff_toInt_lt]; omega
theorem own_neT {x y : Int32} (h : ¬ x = y) : ¬ x.toInt = y.toInt := fun q => h (Int32.toInt_inj.mp q)
end Jvm.RoadKit
namespace Jvm.Pilot.@@N@@
open Jvm Jvm.ClassFile Sem Op Lib Jvm.Free Jvm.Stand Jvm.LawKit Jvm.RoadKit Bundle Jvm.Pilot.@@N@@.Jvm.D
theorem own_d2_0 : decode jdk_30_method_1_code 0 = .ok (.aload_n 0, 1) := by decide +kernel
theorem own_d2_1 : decode jdk_30_method_1_code 1 = .ok (.invokespecial 1, 3) := by decide +kernel
theorem own_d2_4 : decode jdk_30_method_1_code 4 = .ok (.return_, 1) := by decide +kernel
theorem own_pd0 : parseMethodDescriptor "()V" = some ⟨[], none⟩ := by decide +kernel
theorem own_ef2 (x0 : Addr) : ∀ m, entryFrame m #[(.ref x0)] 1 = mkF m 0 #[.val (.ref x0)] [] := fun m => by first | (simp [entryFrame, mkF, argsToLocals, Value.category]; done) | rfl
set_option maxRecDepth 65536 in
set_option maxHeartbeats 40000000 in
theorem own_rec_w {l : Launch} {p : Program} {e : Env} {below : List Frame} {s : State} {m : MethodId} {meth : Method} {c : Code} {Z : State} {a0 args : Array Value} {T : State} {h0 : Heap} (X : Stand p l e ({ frames := 1, cells := 0, slots := 0, locals := 12 } : Room) s m args below meth c T [] 0 0) (C : own_Ctx p s m meth c Z a0 tables_1 (⟨"java/lang/Record", "<init>", "()V"⟩ : MethodName) jdk_30_method_1_code 1 none) (hh : T.heap = h0) (x0 : Addr)  (n0 : Nat) (Z0 : n0 ≤ h0.size)  :
    own_Fin p e below s (own_QP none h0) 0 0 (T.setTop (mkF m 0 #[.val (.ref x0)] [])) := by
  obtain ⟨hx, hby, hml, hZ, hown, hnm, hret, hlk, hw⟩ := id C
  show own_Fin p e below s (own_QP none h0) 0 0 (T.setTop (mkF m 0 #[.val (.ref x0)] []))
  refine own_go (fun t => XS.aloadN X.here hx rfl (hb hby own_d2_0) rfl rfl) ?_
  show own_Fin p e below s (own_QP none h0) 0 0 (T.setTop (mkF m 1 #[.val (.ref x0)] [(.ref x0)]))
  obtain ⟨T1, X1, e1, st1⟩ := initO X hx hZ hown (hw _ (List.mem_of_getElem? (i := 13) rfl)) (hw _ (List.mem_of_getElem? (i := 14) rfl)) (hw _ (List.mem_of_getElem? (i := 15) rfl)) hh (g := (mkF m 1 #[.val (.ref x0)] [(.ref x0)])) rfl (by rw [hml]; rfl) rfl (hb hby own_d2_1) (by decide) (W := 0) (by show 2 * 0 + _ ≤ _; exact Nat.le_of_eq rfl) (by decide)
  refine own_go st1 ?_
  show own_Fin p e below s (own_QP none h0) 0 0 (T1.setTop (mkF m 4 #[.val (.ref x0)] []))
  exact own_ret0 X1 hlk hx hret (hb hby own_d2_4) ⟨rfl, rfl, e1⟩ (by decide) (by decide)
theorem own_pn0 : plainName "java/lang/Record" = true := by first | (simp [plainName, overriddenIn]; done) | decide +kernel
theorem own_rec (l : Launch) (Z : State) (a0 : Array Value) (hw : ∀ d ∈ tables_1, d.before a0 Z = true) (x0 : Addr)  (h0 : Heap) (n0 : Nat) (Z0 : n0 ≤ h0.size)  : own_Met l Z (⟨"java/lang/Record", "<init>", "()V"⟩ : MethodName) jdk_30_method_1_code 1 none [] ({ frames := 1, cells := 0, slots := 0, locals := 12 } : Room) #[(.ref x0)] h0 (own_QP none h0) :=
  own_enter (plainFor_of_name own_pn0) (own_ef2 x0) hw (fun p e s m below meth c T X C hh => own_rec_w X C hh x0  n0 Z0 )
def own_QI (Z : State) (a : Addr) (x1 x2 : Int64) (h0 : Heap) (n0 : Nat) (v : Option Value) (h : Heap) (L : List Loc) : Prop := v = none ∧ Fr n0 L ∧ Keep h0 h [a] ∧ Exa Z h a "com/example/keystripe/keystripe/store/PrefixWindow" ∧ Fld Z h a "com/example/keystripe/keystripe/store/PrefixWindow" "start" "J" (.long x1) ∧ Fld Z h a "com/example/keystripe/keystripe/store/PrefixWindow" "width" "J" (.long x2)
theorem own_d1_0 : decode prog_27_method_1_code 0 = .ok (.aload_n 0, 1) := by decide +kernel
theorem own_d1_1 : decode prog_27_method_1_code 1 = .ok (.invokespecial 1, 3) := by decide +kernel
theorem own_d1_4 : decode prog_27_method_1_code 4 = .ok (.aload_n 0, 1) := by decide +kernel
theorem own_d1_5 : decode prog_27_method_1_code 5 = .ok (.lload_n 1, 1) := by decide +kernel
theorem own_d1_6 : decode prog_27_method_1_code 6 = .ok (.putfield 7, 3) := by decide +kernel
theorem own_d1_9 : decode prog_27_method_1_code 9 = .ok (.aload_n 0, 1) := by decide +kernel
theorem own_d1_10 : decode prog_27_method_1_code 10 = .ok (.lload_n 3, 1) := by decide +kernel
theorem own_d1_11 : decode prog_27_method_1_code 11 = .ok (.putfield 13, 3) := by decide +kernel
theorem own_d1_14 : decode prog_27_method_1_code 14 = .ok (.return_, 1) := by decide +kernel
theorem own_ef1 (x0 : Addr) (x1 : Int64) (x2 : Int64) : ∀ m, entryFrame m #[(.ref x0), (.long x1), (.long x2)] 5 = mkF m 0 #[.val (.ref x0), .val (.long x1), .second, .val (.long x2), .second] [] := fun m => by first | (simp [entryFrame, mkF, argsToLocals, Value.category]; done) | rfl
set_option maxRecDepth 65536 in
set_option maxHeartbeats 40000000 in
theorem own_ini_w {l : Launch} {p : Program} {e : Env} {below : List Frame} {s : State} {m : MethodId} {meth : Method} {c : Code} {Z : State} {a0 args : Array Value} {T : State} {h0 : Heap} (X : Stand p l e ({ frames := 2, cells := 0, slots := 0, locals := 24 } : Room) s m args below meth c T [] 0 0) (C : own_Ctx p s m meth c Z a0 tables_1 (⟨"com/example/keystripe/keystripe/store/PrefixWindow", "<init>", "(JJ)V"⟩ : MethodName) prog_27_method_1_code 5 none) (hh : T.heap = h0) (x0 : Addr) (x1 : Int64) (x2 : Int64)  (n0 : Nat) (Z0 : n0 ≤ h0.size) (g0 : n0 ≤ x0) (hE : Exa Z h0 x0 "com/example/keystripe/keystripe/store/PrefixWindow") (hstart : Fld Z h0 x0 "com/example/keystripe/keystripe/store/PrefixWindow" "start" "J" (.long (0 : Int64))) (hwidth : Fld Z h0 x0 "com/example/keystripe/keystripe/store/PrefixWindow" "width" "J" (.long (0 : Int64))) :
    own_Fin p e below s (own_QI Z x0 x1 x2 h0 n0) 0 0 (T.setTop (mkF m 0 #[.val (.ref x0), .val (.long x1), .second, .val (.long x2), .second] [])) := by
  obtain ⟨hx, hby, hml, hZ, hown, hnm, hret, hlk, hw⟩ := id C
  show own_Fin p e below s (own_QI Z x0 x1 x2 h0 n0) 0 0 (T.setTop (mkF m 0 #[.val (.ref x0), .val (.long x1), .second, .val (.long x2), .second] []))
  have N0 := Fr.nil n0
  have KK0 : Keep h0 h0 [x0] := Keep.refl _ _
  refine own_go (fun t => XS.aloadN X.here hx rfl (hb hby own_d1_0) rfl rfl) ?_
  show own_Fin p e below s (own_QI Z x0 x1 x2 h0 n0) 0 0 (T.setTop (mkF m 1 #[.val (.ref x0), .val (.long x1), .second, .val (.long x2), .second] [(.ref x0)]))
  obtain ⟨T1, X1, e1, st1⟩ := own_callIP X hx hZ hh (y := (⟨"java/lang/Record", "<init>", "()V"⟩ : MethodName)) rfl hown (hw _ (List.mem_of_getElem? (i := 8) rfl)) (hw _ (List.mem_of_getElem? (i := 9) rfl)) (hw _ (List.mem_of_getElem? (i := 11) rfl)) (hw _ (List.mem_of_getElem? (i := 12) rfl)) (by decide) (a := x0) (argsL := []) (rest := []) (own_rec l Z a0 hw x0 _ 0 (Nat.zero_le _)) (by decide) 0 (by decide) (by decide) (by decide) (g := (mkF m 1 #[.val (.ref x0), .val (.long x1), .second, .val (.long x2), .second] [(.ref x0)])) rfl (by rw [hml]; rfl) (lenOf own_pd0 rfl) rfl (by show 2 * 0 + _ ≤ _; exact Nat.le_of_eq rfl) (hb hby own_d1_1)
  refine own_go st1 ?_
  show own_Fin p e below s (own_QI Z x0 x1 x2 h0 n0) 0 0 (T1.setTop (mkF m 4 #[.val (.ref x0), .val (.long x1), .second, .val (.long x2), .second] []))
  refine own_go (fun t => XS.aloadN X1.here hx rfl (hb hby own_d1_4) rfl rfl) ?_
  show own_Fin p e below s (own_QI Z x0 x1 x2 h0 n0) 0 0 (T1.setTop (mkF m 5 #[.val (.ref x0), .val (.long x1), .second, .val (.long x2), .second] [(.ref x0)]))
  refine own_go (fun t => XS.lloadN X1.here hx rfl (hb hby own_d1_5) rfl) ?_
  show own_Fin p e below s (own_QI Z x0 x1 x2 h0 n0) 0 0 (T1.setTop (mkF m 6 #[.val (.ref x0), .val (.long x1), .second, .val (.long x2), .second] [(.long x1), (.ref x0)]))
  obtain ⟨T2, X2, W2, st2⟩ := own_putF X1 hx hZ e1 hown (hw _ (List.mem_of_getElem? (i := 16) rfl)) hstart hE (Or.inr ⟨(hw _ (List.mem_of_getElem? (i := 17) rfl)), rfl, hnm⟩) (hw _ (List.mem_of_getElem? (i := 3) rfl)) (ty := .long) (by decide) rfl rfl (g := (mkF m 6 #[.val (.ref x0), .val (.long x1), .second, .val (.long x2), .second] [(.long x1), (.ref x0)])) rfl rfl (hb hby own_d1_6)
  have N2 := Fr.snoc X2 N0 g0
  have E_x0_2 := hE.wr W2
  have F_x0_start_2 := hstart.same W2
  have F_x0_width_2 := hwidth.other W2 (Or.inr (slot_ne (a0 := a0) (Or.inr (hw _ (List.mem_of_getElem? (i := 19) rfl))) (Or.inr (hw _ (List.mem_of_getElem? (i := 17) rfl))) (by decide) (t := .long) (t' := .long) (by decide) (by decide)))
  have KK2 := KK0.wr W2 (Or.inl (List.mem_of_getElem? (i := 0) rfl))
  refine own_go st2 ?_
  show own_Fin p e below s (own_QI Z x0 x1 x2 h0 n0) 0 0 (T2.setTop (mkF m 9 #[.val (.ref x0), .val (.long x1), .second, .val (.long x2), .second] []))
  refine own_go (fun t => XS.aloadN X2.here hx rfl (hb hby own_d1_9) rfl rfl) ?_
  show own_Fin p e below s (own_QI Z x0 x1 x2 h0 n0) 0 0 (T2.setTop (mkF m 10 #[.val (.ref x0), .val (.long x1), .second, .val (.long x2), .second] [(.ref x0)]))
  refine own_go (fun t => XS.lloadN X2.here hx rfl (hb hby own_d1_10) rfl) ?_
  show own_Fin p e below s (own_QI Z x0 x1 x2 h0 n0) 0 0 (T2.setTop (mkF m 11 #[.val (.ref x0), .val (.long x1), .second, .val (.long x2), .second] [(.long x2), (.ref x0)]))
  obtain ⟨T3, X3, W3, st3⟩ := own_putF X2 hx hZ rfl hown (hw _ (List.mem_of_getElem? (i := 18) rfl)) F_x0_width_2 E_x0_2 (Or.inr ⟨(hw _ (List.mem_of_getElem? (i := 19) rfl)), rfl, hnm⟩) (hw _ (List.mem_of_getElem? (i := 3) rfl)) (ty := .long) (by decide) rfl rfl (g := (mkF m 11 #[.val (.ref x0), .val (.long x1), .second, .val (.long x2), .second] [(.long x2), (.ref x0)])) rfl rfl (hb hby own_d1_11)
  have N3 := Fr.snoc X3 N2 g0
  have E_x0_3 := E_x0_2.wr W3
  have F_x0_start_3 := F_x0_start_2.other W3 (Or.inr (slot_ne (a0 := a0) (Or.inr (hw _ (List.mem_of_getElem? (i := 17) rfl))) (Or.inr (hw _ (List.mem_of_getElem? (i := 19) rfl))) (by decide) (t := .long) (t' := .long) (by decide) (by decide)))
  have F_x0_width_3 := F_x0_width_2.same W3
  have KK3 := KK2.wr W3 (Or.inl (List.mem_of_getElem? (i := 0) rfl))
  refine own_go st3 ?_
  show own_Fin p e below s (own_QI Z x0 x1 x2 h0 n0) 0 0 (T3.setTop (mkF m 14 #[.val (.ref x0), .val (.long x1), .second, .val (.long x2), .second] []))
  exact own_ret0 X3 hlk hx hret (hb hby own_d1_14) ⟨rfl, N3, KK3, E_x0_3, F_x0_start_3, F_x0_width_3⟩ (by decide) (by decide)
theorem own_pn1 : plainName "com/example/keystripe/keystripe/store/PrefixWindow" = true := by first | (simp [plainName, overriddenIn]; done) | decide +kernel
theorem own_ini (l : Launch) (Z : State) (a0 : Array Value) (hw : ∀ d ∈ tables_1, d.before a0 Z = true) (x0 : Addr) (x1 : Int64) (x2 : Int64)  (h0 : Heap) (n0 : Nat) (Z0 : n0 ≤ h0.size) (g0 : n0 ≤ x0) (hE : Exa Z h0 x0 "com/example/keystripe/keystripe/store/PrefixWindow") (hstart : Fld Z h0 x0 "com/example/keystripe/keystripe/store/PrefixWindow" "start" "J" (.long (0 : Int64))) (hwidth : Fld Z h0 x0 "com/example/keystripe/keystripe/store/PrefixWindow" "width" "J" (.long (0 : Int64))) : own_Met l Z (⟨"com/example/keystripe/keystripe/store/PrefixWindow", "<init>", "(JJ)V"⟩ : MethodName) prog_27_method_1_code 5 none [] ({ frames := 2, cells := 0, slots := 0, locals := 24 } : Room) #[(.ref x0), (.long x1), (.long x2)] h0 (own_QI Z x0 x1 x2 h0 n0) :=
  own_enter (plainFor_of_name own_pn1) (own_ef1 x0 x1 x2) hw (fun p e s m below meth c T X C hh => own_ini_w X C hh x0 x1 x2  n0 Z0 g0 hE hstart hwidth)
def own_val (width : Int64) (t : Int32) : Int32 := if ((2 : Int64) * (t.toInt64)) < width then (0 : Int32) else (1 : Int32)
theorem own_d4_0 : decode prog_27_method_6_code 0 = .ok (.ldc2_w 56, 3) := by decide +kernel
theorem own_d4_3 : decode prog_27_method_6_code 3 = .ok (.iload_n 1, 1) := by decide +kernel
theorem own_d4_4 : decode prog_27_method_6_code 4 = .ok (.i2l, 1) := by decide +kernel
theorem own_d4_5 : decode prog_27_method_6_code 5 = .ok (.lmul, 1) := by decide +kernel
theorem own_d4_6 : decode prog_27_method_6_code 6 = .ok (.aload_n 0, 1) := by decide +kernel
theorem own_d4_7 : decode prog_27_method_6_code 7 = .ok (.getfield 13, 3) := by decide +kernel
theorem own_d4_10 : decode prog_27_method_6_code 10 = .ok (.lcmp, 1) := by decide +kernel
theorem own_d4_11 : decode prog_27_method_6_code 11 = .ok (.ifCond .lt 7, 3) := by decide +kernel
theorem own_d4_14 : decode prog_27_method_6_code 14 = .ok (.iconst 1, 1) := by decide +kernel
theorem own_d4_15 : decode prog_27_method_6_code 15 = .ok (.goto 4, 3) := by decide +kernel
theorem own_d4_18 : decode prog_27_method_6_code 18 = .ok (.iconst 0, 1) := by decide +kernel
theorem own_d4_19 : decode prog_27_method_6_code 19 = .ok (.ireturn, 1) := by decide +kernel
theorem own_ef4 (x0 : Addr) (x1 : Int32) : ∀ m, entryFrame m #[(.ref x0), (.int x1)] 2 = mkF m 0 #[.val (.ref x0), .val (.int x1)] [] := fun m => by first | (simp [entryFrame, mkF, argsToLocals, Value.category]; done) | rfl
set_option maxRecDepth 65536 in
set_option maxHeartbeats 40000000 in
theorem own_met_w {l : Launch} {p : Program} {e : Env} {below : List Frame} {s : State} {m : MethodId} {meth : Method} {c : Code} {Z : State} {a0 args : Array Value} {T : State} {h0 : Heap} (X : Stand p l e ({ frames := 0, cells := 0, slots := 0, locals := 0 } : Room) s m args below meth c T [] 0 0) (C : own_Ctx p s m meth c Z a0 tables_1 (⟨"com/example/keystripe/keystripe/store/PrefixWindow", "isFilled", "(I)Z"⟩ : MethodName) prog_27_method_6_code 2 (some .boolean)) (hh : T.heap = h0) (x0 : Addr) (x1 : Int32) (start : Int64) (width : Int64) (n0 : Nat) (Z0 : n0 ≤ h0.size) (hstart : Fld Z h0 x0 "com/example/keystripe/keystripe/store/PrefixWindow" "start" "J" (.long start)) (hwidth : Fld Z h0 x0 "com/example/keystripe/keystripe/store/PrefixWindow" "width" "J" (.long width)) :
    own_Fin p e below s (own_QP (some (.int (own_val width x1))) h0) 0 0 (T.setTop (mkF m 0 #[.val (.ref x0), .val (.int x1)] [])) := by
  obtain ⟨hx, hby, hml, hZ, hown, hnm, hret, hlk, hw⟩ := id C
  show own_Fin p e below s (own_QP (some (.int (own_val width x1))) h0) 0 0 (T.setTop (mkF m 0 #[.val (.ref x0), .val (.int x1)] []))
  refine own_go (fun t => X.ldc2Long hx hown (mvT hZ (hw _ (List.mem_of_getElem? (i := 25) rfl))) (g := (mkF m 0 #[.val (.ref x0), .val (.int x1)] [])) rfl (hb hby own_d4_0) t) ?_
  show own_Fin p e below s (own_QP (some (.int (own_val width x1))) h0) 0 0 (T.setTop (mkF m 3 #[.val (.ref x0), .val (.int x1)] [(.long (2 : Int64))]))
  refine own_go (fun t => XS.iloadN X.here hx rfl (hb hby own_d4_3) rfl) ?_
  show own_Fin p e below s (own_QP (some (.int (own_val width x1))) h0) 0 0 (T.setTop (mkF m 4 #[.val (.ref x0), .val (.int x1)] [(.int x1), (.long (2 : Int64))]))
  refine own_go (fun t => XS.i2l X.here hx rfl (hb hby own_d4_4) rfl) ?_
  show own_Fin p e below s (own_QP (some (.int (own_val width x1))) h0) 0 0 (T.setTop (mkF m 5 #[.val (.ref x0), .val (.int x1)] [(.long (x1.toInt64)), (.long (2 : Int64))]))
  refine own_go (fun t => XS.lmul X.here hx rfl (hb hby own_d4_5) rfl) ?_
  show own_Fin p e below s (own_QP (some (.int (own_val width x1))) h0) 0 0 (T.setTop (mkF m 6 #[.val (.ref x0), .val (.int x1)] [(.long ((2 : Int64) * (x1.toInt64)))]))
  refine own_go (fun t => XS.aloadN X.here hx rfl (hb hby own_d4_6) rfl rfl) ?_
  show own_Fin p e below s (own_QP (some (.int (own_val width x1))) h0) 0 0 (T.setTop (mkF m 7 #[.val (.ref x0), .val (.int x1)] [(.ref x0), (.long ((2 : Int64) * (x1.toInt64)))]))
  obtain ⟨T1, X1, e1, st1⟩ := own_getF X hx hZ hh hown (hw _ (List.mem_of_getElem? (i := 18) rfl)) hwidth (g := (mkF m 7 #[.val (.ref x0), .val (.int x1)] [(.ref x0), (.long ((2 : Int64) * (x1.toInt64)))])) rfl rfl (hb hby own_d4_7)
  refine own_go st1 ?_
  show own_Fin p e below s (own_QP (some (.int (own_val width x1))) h0) 0 0 (T1.setTop (mkF m 10 #[.val (.ref x0), .val (.int x1)] [(.long width), (.long ((2 : Int64) * (x1.toInt64)))]))
  refine own_go (fun t => XS.lcmp X1.here hx rfl (hb hby own_d4_10) rfl) ?_
  show own_Fin p e below s (own_QP (some (.int (own_val width x1))) h0) 0 0 (T1.setTop (mkF m 11 #[.val (.ref x0), .val (.int x1)] [(.int (lcmpW ((2 : Int64) * (x1.toInt64)) width))]))
  by_cases h11 : ((2 : Int64) * (x1.toInt64)) < width
  · refine own_go (fun t => XS.ifYes X1.here hx rfl (pc0 := 11) (pc' := 18) rfl (hb hby own_d4_11) rfl ((if0 _ _).trans (tlt ((lw_lt ((2 : Int64) * (x1.toInt64)) width).mpr h11)).1) (by decide) (by decide)) ?_
    show own_Fin p e below s (own_QP (some (.int (own_val width x1))) h0) 0 0 (T1.setTop (mkF m 18 #[.val (.ref x0), .val (.int x1)] []))
    refine own_go (fun t => XS.iconst X1.here hx rfl (hb hby own_d4_18)) ?_
    show own_Fin p e below s (own_QP (some (.int (own_val width x1))) h0) 0 0 (T1.setTop (mkF m 19 #[.val (.ref x0), .val (.int x1)] [(.int (0 : Int32))]))
    exact own_ret X1 hlk hx (t := .boolean) hret rfl (Or.inl ⟨rfl, by simp, _, rfl⟩) (hb hby own_d4_19) ⟨by rw [show own_val width x1 = _ from if_pos h11], rfl, e1⟩ (by decide) (by decide)
  · refine own_go (fun t => XS.ifNo X1.here hx rfl (hb hby own_d4_11) rfl ((if0 _ _).trans (flt (fun q => h11 ((lw_lt ((2 : Int64) * (x1.toInt64)) width).mp q))).1)) ?_
    show own_Fin p e below s (own_QP (some (.int (own_val width x1))) h0) 0 0 (T1.setTop (mkF m 14 #[.val (.ref x0), .val (.int x1)] []))
    refine own_go (fun t => XS.iconst X1.here hx rfl (hb hby own_d4_14)) ?_
    show own_Fin p e below s (own_QP (some (.int (own_val width x1))) h0) 0 0 (T1.setTop (mkF m 15 #[.val (.ref x0), .val (.int x1)] [(.int (1 : Int32))]))
    refine own_go (fun t => XS.goto X1.here hx rfl (pc0 := 15) (pc' := 19) rfl (hb hby own_d4_15) (by decide) (by decide)) ?_
    show own_Fin p e below s (own_QP (some (.int (own_val width x1))) h0) 0 0 (T1.setTop (mkF m 19 #[.val (.ref x0), .val (.int x1)] [(.int (1 : Int32))]))
    exact own_ret X1 hlk hx (t := .boolean) hret rfl (Or.inl ⟨rfl, by simp, _, rfl⟩) (hb hby own_d4_19) ⟨by rw [show own_val width x1 = _ from if_neg h11], rfl, e1⟩ (by decide) (by decide)
theorem own_met (l : Launch) (Z : State) (a0 : Array Value) (hw : ∀ d ∈ tables_1, d.before a0 Z = true) (x0 : Addr) (x1 : Int32) (start : Int64) (width : Int64) (h0 : Heap) (n0 : Nat) (Z0 : n0 ≤ h0.size) (hstart : Fld Z h0 x0 "com/example/keystripe/keystripe/store/PrefixWindow" "start" "J" (.long start)) (hwidth : Fld Z h0 x0 "com/example/keystripe/keystripe/store/PrefixWindow" "width" "J" (.long width)) : own_Met l Z (⟨"com/example/keystripe/keystripe/store/PrefixWindow", "isFilled", "(I)Z"⟩ : MethodName) prog_27_method_6_code 2 (some .boolean) [] ({ frames := 0, cells := 0, slots := 0, locals := 0 } : Room) #[(.ref x0), (.int x1)] h0 (own_QP (some (.int (own_val width x1))) h0) :=
  own_enter (plainFor_of_name own_pn1) (own_ef4 x0 x1) hw (fun p e s m below meth c T X C hh => own_met_w X C hh x0 x1 start width n0 Z0 hstart hwidth)
theorem own_w1 (q : Int64) : 1 ≤ ((1 : Int64) + (q &&& (8191 : Int64))).toInt ∧ ((1 : Int64) + (q &&& (8191 : Int64))).toInt ≤ 4611686018427387904 := by
  have h := c_maskL q 8191 13 (by decide) (by decide)
  have a := c_ladd 1 (q &&& (8191 : Int64))
  have r := rng64 ((1 : Int64) + (q &&& (8191 : Int64)))
  have o : (1 : Int64).toInt = 1 := by decide
  have e : ((2 ^ 13 : Nat) : Int) = 8192 := by decide
  rw [e] at h
  omega
theorem own_w2 (q : Int64) : 1 ≤ ((1 : Int64) + (q &&& (4611686018427387903 : Int64))).toInt ∧ ((1 : Int64) + (q &&& (4611686018427387903 : Int64))).toInt ≤ 4611686018427387904 := by
  have h := c_maskL q 4611686018427387903 62 (by decide) (by decide)
  have a := c_ladd 1 (q &&& (4611686018427387903 : Int64))
  have r := rng64 ((1 : Int64) + (q &&& (4611686018427387903 : Int64)))
  have o : (1 : Int64).toInt = 1 := by decide
  have e : ((2 ^ 62 : Nat) : Int) = 4611686018427387904 := by decide
  rw [e] at h
  omega
theorem own_ar (w : Int64) (t : Int32) (h : 1 ≤ w.toInt ∧ w.toInt ≤ 4611686018427387904) : (t.toInt64 < ((w / (2 : Int64)) + (w &&& (1 : Int64)))) ↔ (((2 : Int64) * t.toInt64) < w) := by
  have k2 : (2 : Int64).toInt = 2 := by decide
  have d := (c_ldiv w 2 2 k2 (by decide)).1 (by omega)
  have m := c_maskL w 1 1 (by decide) (by decide)
  have e : ((2 ^ 1 : Nat) : Int) = 2 := by decide
  rw [e] at m
  have a := c_ladd (w / (2 : Int64)) (w &&& (1 : Int64))
  have r1 := rng64 ((w / (2 : Int64)) + (w &&& (1 : Int64)))
  have i := c_i2l t
  have ri := rng32 t
  have u := c_lmul 2 t.toInt64
  rw [k2] at u
  have r2 := rng64 ((2 : Int64) * t.toInt64)
  rw [Int64.lt_iff_toInt_lt, Int64.lt_iff_toInt_lt]
  omega
theorem own_ef0 (x0 : Int64) (x1 : Int64) (x2 : Int32) (x3 : Int32) : ∀ m, entryFrame m #[(.long x0), (.long x1), (.int x2), (.int x3)] maxLocals = mkF m 0 #[.val (.long x0), .second, .val (.long x1), .second, .val (.int x2), .val (.int x3), .unset, .unset, .unset, .unset, .unset, .unset, .unset, .unset, .unset] [] := fun m => by first | (simp [entryFrame, mkF, argsToLocals, Value.category, maxLocals]; done) | rfl
theorem own_pd1 : parseMethodDescriptor "(JJ)V" = some ⟨[.long, .long], none⟩ := by decide +kernel
theorem own_pd2 : parseMethodDescriptor "(I)Z" = some ⟨[.int], some .boolean⟩ := by decide +kernel
def own_Q0 (n0 : Nat) (v : Option Value) (h : Heap) (L : List Loc) : Prop := v = some (.int 1) ∧ Fr n0 L
set_option maxRecDepth 65536 in
set_option maxHeartbeats 40000000 in
theorem own_law {l : Launch} {p : Program} {e : Env} {below : List Frame} {s : State} {m : MethodId} {meth : Method} {c : Code} {Z : State} {a0 args : Array Value} {T : State} {h0 : Heap} (X : Stand p l e room_1 s m args below meth c T [] 0 0) (C : own_Ctx p s m meth c Z a0 tables_1 x code maxLocals ret) (hh : T.heap = h0) (x0 : Int64) (x1 : Int64) (x2 : Int32) (x3 : Int32) (n0 : Nat) (Z0 : n0 ≤ h0.size) :
    own_Fin p e below s (own_Q0 n0) room_1.cells room_1.slots (T.setTop (mkF m 0 #[.val (.long x0), .second, .val (.long x1), .second, .val (.int x2), .val (.int x3), .unset, .unset, .unset, .unset, .unset, .unset, .unset, .unset, .unset] [])) := by
  obtain ⟨hx, hby, hml, hZ, hown, hnm, hret, hlk, hw⟩ := id C
  show own_Fin p e below s (own_Q0 n0) room_1.cells room_1.slots (T.setTop (mkF m 0 #[.val (.long x0), .second, .val (.long x1), .second, .val (.int x2), .val (.int x3), .unset, .unset, .unset, .unset, .unset, .unset, .unset, .unset, .unset] []))
  have N0 := Fr.nil n0
  have KK0 : Keep h0 h0 [] := Keep.refl _ _
  refine own_go (fun t => XS.iload X.here hx rfl (hb hby at_0) rfl) ?_
  show own_Fin p e below s (own_Q0 n0) room_1.cells room_1.slots (T.setTop (mkF m 2 #[.val (.long x0), .second, .val (.long x1), .second, .val (.int x2), .val (.int x3), .unset, .unset, .unset, .unset, .unset, .unset, .unset, .unset, .unset] [(.int x3)]))
  refine own_go (fun t => XS.iconst X.here hx rfl (hb hby at_2)) ?_
  show own_Fin p e below s (own_Q0 n0) room_1.cells room_1.slots (T.setTop (mkF m 3 #[.val (.long x0), .second, .val (.long x1), .second, .val (.int x2), .val (.int x3), .unset, .unset, .unset, .unset, .unset, .unset, .unset, .unset, .unset] [(.int (1 : Int32)), (.int x3)]))
  refine own_go (fun t => XS.iand X.here hx rfl (hb hby at_3) rfl) ?_
  show own_Fin p e below s (own_Q0 n0) room_1.cells room_1.slots (T.setTop (mkF m 4 #[.val (.long x0), .second, .val (.long x1), .second, .val (.int x2), .val (.int x3), .unset, .unset, .unset, .unset, .unset, .unset, .unset, .unset, .unset] [(.int (x3 &&& (1 : Int32)))]))
  have J83 : ∀ (sm nr : Int32) (W : Int64) (tk : Int32), (1 ≤ W.toInt ∧ W.toInt ≤ 4611686018427387904) → own_Fin p e below s (own_Q0 n0) room_1.cells room_1.slots (T.setTop (mkF m 83 #[.val (.long x0), .second, .val (.long x1), .second, .val (.int x2), .val (.int x3), .val (.int sm), .val (.int nr), .val (.long W), .second, .val (.int tk), .unset, .unset, .unset, .unset] [])) := by
    intro sm nr W tk hW
    show own_Fin p e below s (own_Q0 n0) room_1.cells room_1.slots (T.setTop (mkF m 83 #[.val (.long x0), .second, .val (.long x1), .second, .val (.int x2), .val (.int x3), .val (.int sm), .val (.int nr), .val (.long W), .second, .val (.int tk), .unset, .unset, .unset, .unset] []))
    refine own_go (fun t => XS.lload X.here hx rfl (hb hby at_83) rfl) ?_
    show own_Fin p e below s (own_Q0 n0) room_1.cells room_1.slots (T.setTop (mkF m 85 #[.val (.long x0), .second, .val (.long x1), .second, .val (.int x2), .val (.int x3), .val (.int sm), .val (.int nr), .val (.long W), .second, .val (.int tk), .unset, .unset, .unset, .unset] [(.long W)]))
    refine own_go (fun t => X.ldc2Long hx hown (mvT hZ (hw _ (List.mem_of_getElem? (i := 1) rfl))) (g := (mkF m 85 #[.val (.long x0), .second, .val (.long x1), .second, .val (.int x2), .val (.int x3), .val (.int sm), .val (.int nr), .val (.long W), .second, .val (.int tk), .unset, .unset, .unset, .unset] [(.long W)])) rfl (hb hby at_85) t) ?_
    show own_Fin p e below s (own_Q0 n0) room_1.cells room_1.slots (T.setTop (mkF m 88 #[.val (.long x0), .second, .val (.long x1), .second, .val (.int x2), .val (.int x3), .val (.int sm), .val (.int nr), .val (.long W), .second, .val (.int tk), .unset, .unset, .unset, .unset] [(.long (2 : Int64)), (.long W)]))
    refine own_go (fun t => XS.ldiv X.here hx rfl (hb hby at_88) rfl (by decide)) ?_
    show own_Fin p e below s (own_Q0 n0) room_1.cells room_1.slots (T.setTop (mkF m 89 #[.val (.long x0), .second, .val (.long x1), .second, .val (.int x2), .val (.int x3), .val (.int sm), .val (.int nr), .val (.long W), .second, .val (.int tk), .unset, .unset, .unset, .unset] [(.long (W / (2 : Int64)))]))
    refine own_go (fun t => XS.lload X.here hx rfl (hb hby at_89) rfl) ?_
    show own_Fin p e below s (own_Q0 n0) room_1.cells room_1.slots (T.setTop (mkF m 91 #[.val (.long x0), .second, .val (.long x1), .second, .val (.int x2), .val (.int x3), .val (.int sm), .val (.int nr), .val (.long W), .second, .val (.int tk), .unset, .unset, .unset, .unset] [(.long W), (.long (W / (2 : Int64)))]))
    refine own_go (fun t => XS.lconst X.here hx rfl (hb hby at_91)) ?_
    show own_Fin p e below s (own_Q0 n0) room_1.cells room_1.slots (T.setTop (mkF m 92 #[.val (.long x0), .second, .val (.long x1), .second, .val (.int x2), .val (.int x3), .val (.int sm), .val (.int nr), .val (.long W), .second, .val (.int tk), .unset, .unset, .unset, .unset] [(.long (1 : Int64)), (.long W), (.long (W / (2 : Int64)))]))
    refine own_go (fun t => XS.land X.here hx rfl (hb hby at_92) rfl) ?_
    show own_Fin p e below s (own_Q0 n0) room_1.cells room_1.slots (T.setTop (mkF m 93 #[.val (.long x0), .second, .val (.long x1), .second, .val (.int x2), .val (.int x3), .val (.int sm), .val (.int nr), .val (.long W), .second, .val (.int tk), .unset, .unset, .unset, .unset] [(.long (W &&& (1 : Int64))), (.long (W / (2 : Int64)))]))
    refine own_go (fun t => XS.ladd X.here hx rfl (hb hby at_93) rfl) ?_
    show own_Fin p e below s (own_Q0 n0) room_1.cells room_1.slots (T.setTop (mkF m 94 #[.val (.long x0), .second, .val (.long x1), .second, .val (.int x2), .val (.int x3), .val (.int sm), .val (.int nr), .val (.long W), .second, .val (.int tk), .unset, .unset, .unset, .unset] [(.long ((W / (2 : Int64)) + (W &&& (1 : Int64))))]))
    refine own_go (fun t => XS.lstore X.here hx rfl (hb hby at_94) rfl (l' := #[.val (.long x0), .second, .val (.long x1), .second, .val (.int x2), .val (.int x3), .val (.int sm), .val (.int nr), .val (.long W), .second, .val (.int tk), .val (.long ((W / (2 : Int64)) + (W &&& (1 : Int64)))), .second, .unset, .unset]) rfl) ?_
    show own_Fin p e below s (own_Q0 n0) room_1.cells room_1.slots (T.setTop (mkF m 96 #[.val (.long x0), .second, .val (.long x1), .second, .val (.int x2), .val (.int x3), .val (.int sm), .val (.int nr), .val (.long W), .second, .val (.int tk), .val (.long ((W / (2 : Int64)) + (W &&& (1 : Int64)))), .second, .unset, .unset] []))
    refine own_go (fun t => XS.iload X.here hx rfl (hb hby at_96) rfl) ?_
    show own_Fin p e below s (own_Q0 n0) room_1.cells room_1.slots (T.setTop (mkF m 98 #[.val (.long x0), .second, .val (.long x1), .second, .val (.int x2), .val (.int x3), .val (.int sm), .val (.int nr), .val (.long W), .second, .val (.int tk), .val (.long ((W / (2 : Int64)) + (W &&& (1 : Int64)))), .second, .unset, .unset] [(.int tk)]))
    refine own_go (fun t => XS.i2l X.here hx rfl (hb hby at_98) rfl) ?_
    show own_Fin p e below s (own_Q0 n0) room_1.cells room_1.slots (T.setTop (mkF m 99 #[.val (.long x0), .second, .val (.long x1), .second, .val (.int x2), .val (.int x3), .val (.int sm), .val (.int nr), .val (.long W), .second, .val (.int tk), .val (.long ((W / (2 : Int64)) + (W &&& (1 : Int64)))), .second, .unset, .unset] [(.long (tk.toInt64))]))
    refine own_go (fun t => XS.lload X.here hx rfl (hb hby at_99) rfl) ?_
    show own_Fin p e below s (own_Q0 n0) room_1.cells room_1.slots (T.setTop (mkF m 101 #[.val (.long x0), .second, .val (.long x1), .second, .val (.int x2), .val (.int x3), .val (.int sm), .val (.int nr), .val (.long W), .second, .val (.int tk), .val (.long ((W / (2 : Int64)) + (W &&& (1 : Int64)))), .second, .unset, .unset] [(.long ((W / (2 : Int64)) + (W &&& (1 : Int64)))), (.long (tk.toInt64))]))
    refine own_go (fun t => XS.lcmp X.here hx rfl (hb hby at_101) rfl) ?_
    show own_Fin p e below s (own_Q0 n0) room_1.cells room_1.slots (T.setTop (mkF m 102 #[.val (.long x0), .second, .val (.long x1), .second, .val (.int x2), .val (.int x3), .val (.int sm), .val (.int nr), .val (.long W), .second, .val (.int tk), .val (.long ((W / (2 : Int64)) + (W &&& (1 : Int64)))), .second, .unset, .unset] [(.int (lcmpW (tk.toInt64) ((W / (2 : Int64)) + (W &&& (1 : Int64)))))]))
    by_cases h102 : (tk.toInt64) < ((W / (2 : Int64)) + (W &&& (1 : Int64)))
    · refine own_go (fun t => XS.ifYes X.here hx rfl (pc0 := 102) (pc' := 109) rfl (hb hby at_102) rfl ((if0 _ _).trans (tlt ((lw_lt (tk.toInt64) ((W / (2 : Int64)) + (W &&& (1 : Int64)))).mpr h102)).1) (by decide) (by decide)) ?_
      show own_Fin p e below s (own_Q0 n0) room_1.cells room_1.slots (T.setTop (mkF m 109 #[.val (.long x0), .second, .val (.long x1), .second, .val (.int x2), .val (.int x3), .val (.int sm), .val (.int nr), .val (.long W), .second, .val (.int tk), .val (.long ((W / (2 : Int64)) + (W &&& (1 : Int64)))), .second, .unset, .unset] []))
      refine own_go (fun t => XS.iconst X.here hx rfl (hb hby at_109)) ?_
      show own_Fin p e below s (own_Q0 n0) room_1.cells room_1.slots (T.setTop (mkF m 110 #[.val (.long x0), .second, .val (.long x1), .second, .val (.int x2), .val (.int x3), .val (.int sm), .val (.int nr), .val (.long W), .second, .val (.int tk), .val (.long ((W / (2 : Int64)) + (W &&& (1 : Int64)))), .second, .unset, .unset] [(.int (0 : Int32))]))
      refine own_go (fun t => XS.istore X.here hx rfl (hb hby at_110) rfl (l' := #[.val (.long x0), .second, .val (.long x1), .second, .val (.int x2), .val (.int x3), .val (.int sm), .val (.int nr), .val (.long W), .second, .val (.int tk), .val (.long ((W / (2 : Int64)) + (W &&& (1 : Int64)))), .second, .val (.int (0 : Int32)), .unset]) rfl) ?_
      show own_Fin p e below s (own_Q0 n0) room_1.cells room_1.slots (T.setTop (mkF m 112 #[.val (.long x0), .second, .val (.long x1), .second, .val (.int x2), .val (.int x3), .val (.int sm), .val (.int nr), .val (.long W), .second, .val (.int tk), .val (.long ((W / (2 : Int64)) + (W &&& (1 : Int64)))), .second, .val (.int (0 : Int32)), .unset] []))
      obtain ⟨T201a, h201a, X201a, e201a, E201a, A201a, D201a, -, st201a⟩ := newO X hx hZ hown (hw _ (List.mem_of_getElem? (i := 2) rfl)) (hw _ (List.mem_of_getElem? (i := 3) rfl)) (hw _ (List.mem_of_getElem? (i := 4) rfl)) hh (g := (mkF m 112 #[.val (.long x0), .second, .val (.long x1), .second, .val (.int x2), .val (.int x3), .val (.int sm), .val (.int nr), .val (.long W), .second, .val (.int tk), .val (.long ((W / (2 : Int64)) + (W &&& (1 : Int64)))), .second, .val (.int (0 : Int32)), .unset] [])) rfl (hb hby at_112) (by decide) (by decide)
      obtain ⟨b201a, g201a⟩ : ∃ z, z = Array.size h0 := ⟨_, rfl⟩
      rw [← g201a] at A201a D201a st201a
      have F201a_start : Fld Z h201a b201a "com/example/keystripe/keystripe/store/PrefixWindow" "start" "J" (.long (0 : Int64)) := D201a (Or.inr (hw _ (List.mem_of_getElem? (i := 17) rfl))) (ty := .long) (by decide)
      have F201a_width : Fld Z h201a b201a "com/example/keystripe/keystripe/store/PrefixWindow" "width" "J" (.long (0 : Int64)) := D201a (Or.inr (hw _ (List.mem_of_getElem? (i := 19) rfl))) (ty := .long) (by decide)
      have sz_b201a : Array.size h0 ≤ b201a := by rw [g201a]; exact KK0.1
      have G_b201a : n0 ≤ b201a := Nat.le_trans Z0 sz_b201a
      have KK201a := KK0.ext E201a
      refine own_go (fun t => st201a t) ?_
      show own_Fin p e below s (own_Q0 n0) room_1.cells room_1.slots (T201a.setTop (mkF m 115 #[.val (.long x0), .second, .val (.long x1), .second, .val (.int x2), .val (.int x3), .val (.int sm), .val (.int nr), .val (.long W), .second, .val (.int tk), .val (.long ((W / (2 : Int64)) + (W &&& (1 : Int64)))), .second, .val (.int (0 : Int32)), .unset] [(.ref b201a)]))
      refine own_go (fun t => XS.dup X201a.here hx rfl (hb hby at_115) rfl rfl) ?_
      show own_Fin p e below s (own_Q0 n0) room_1.cells room_1.slots (T201a.setTop (mkF m 116 #[.val (.long x0), .second, .val (.long x1), .second, .val (.int x2), .val (.int x3), .val (.int sm), .val (.int nr), .val (.long W), .second, .val (.int tk), .val (.long ((W / (2 : Int64)) + (W &&& (1 : Int64)))), .second, .val (.int (0 : Int32)), .unset] [(.ref b201a), (.ref b201a)]))
      refine own_go (fun t => XS.lloadN X201a.here hx rfl (hb hby at_116) rfl) ?_
      show own_Fin p e below s (own_Q0 n0) room_1.cells room_1.slots (T201a.setTop (mkF m 117 #[.val (.long x0), .second, .val (.long x1), .second, .val (.int x2), .val (.int x3), .val (.int sm), .val (.int nr), .val (.long W), .second, .val (.int tk), .val (.long ((W / (2 : Int64)) + (W &&& (1 : Int64)))), .second, .val (.int (0 : Int32)), .unset] [(.long x0), (.ref b201a), (.ref b201a)]))
      refine own_go (fun t => XS.lload X201a.here hx rfl (hb hby at_117) rfl) ?_
      show own_Fin p e below s (own_Q0 n0) room_1.cells room_1.slots (T201a.setTop (mkF m 119 #[.val (.long x0), .second, .val (.long x1), .second, .val (.int x2), .val (.int x3), .val (.int sm), .val (.int nr), .val (.long W), .second, .val (.int tk), .val (.long ((W / (2 : Int64)) + (W &&& (1 : Int64)))), .second, .val (.int (0 : Int32)), .unset] [(.long W), (.long x0), (.ref b201a), (.ref b201a)]))
      obtain ⟨_, T202a, L202a, X202a, ⟨rfl, Nq202a, K202a, hE202a, hs202a, hw202a⟩, st202a⟩ := own_callI X201a hx hZ e201a (y := (⟨"com/example/keystripe/keystripe/store/PrefixWindow", "<init>", "(JJ)V"⟩ : MethodName)) rfl hown (hw _ (List.mem_of_getElem? (i := 5) rfl)) (hw _ (List.mem_of_getElem? (i := 6) rfl)) (hw _ (List.mem_of_getElem? (i := 4) rfl)) (hw _ (List.mem_of_getElem? (i := 7) rfl)) (by decide) (a := b201a) (argsL := [(.long x0), (.long W)]) (rest := [(.ref b201a)]) (own_ini l Z a0 hw b201a x0 W h201a n0 (Nat.le_trans Z0 KK201a.1) G_b201a A201a F201a_start F201a_width) (by decide) 1 (by decide) (by decide) (by decide) (g := (mkF m 119 #[.val (.long x0), .second, .val (.long x1), .second, .val (.int x2), .val (.int x3), .val (.int sm), .val (.int nr), .val (.long W), .second, .val (.int tk), .val (.long ((W / (2 : Int64)) + (W &&& (1 : Int64)))), .second, .val (.int (0 : Int32)), .unset] [(.long W), (.long x0), (.ref b201a), (.ref b201a)])) rfl (by rw [hml]; rfl) (lenOf own_pd1 rfl) rfl (by show 2 * 0 + _ ≤ _; exact Nat.le_of_eq rfl) (hb hby at_119)
      have N202a := Fr.app N0 Nq202a
      have E_b201a_202a := A201a.keep K202a
      have KK202a := KK201a.trans K202a (allS (Or.inr sz_b201a) all0)
      refine own_go st202a ?_
      show own_Fin p e below s (own_Q0 n0) room_1.cells room_1.slots (T202a.setTop (mkF m 122 #[.val (.long x0), .second, .val (.long x1), .second, .val (.int x2), .val (.int x3), .val (.int sm), .val (.int nr), .val (.long W), .second, .val (.int tk), .val (.long ((W / (2 : Int64)) + (W &&& (1 : Int64)))), .second, .val (.int (0 : Int32)), .unset] [(.ref b201a)]))
      refine own_go (fun t => XS.astore X202a.here hx rfl (hb hby at_122) rfl rfl (l' := #[.val (.long x0), .second, .val (.long x1), .second, .val (.int x2), .val (.int x3), .val (.int sm), .val (.int nr), .val (.long W), .second, .val (.int tk), .val (.long ((W / (2 : Int64)) + (W &&& (1 : Int64)))), .second, .val (.int (0 : Int32)), .val (.ref b201a)]) rfl) ?_
      show own_Fin p e below s (own_Q0 n0) room_1.cells room_1.slots (T202a.setTop (mkF m 124 #[.val (.long x0), .second, .val (.long x1), .second, .val (.int x2), .val (.int x3), .val (.int sm), .val (.int nr), .val (.long W), .second, .val (.int tk), .val (.long ((W / (2 : Int64)) + (W &&& (1 : Int64)))), .second, .val (.int (0 : Int32)), .val (.ref b201a)] []))
      refine own_go (fun t => XS.aload X202a.here hx rfl (hb hby at_124) rfl rfl) ?_
      show own_Fin p e below s (own_Q0 n0) room_1.cells room_1.slots (T202a.setTop (mkF m 126 #[.val (.long x0), .second, .val (.long x1), .second, .val (.int x2), .val (.int x3), .val (.int sm), .val (.int nr), .val (.long W), .second, .val (.int tk), .val (.long ((W / (2 : Int64)) + (W &&& (1 : Int64)))), .second, .val (.int (0 : Int32)), .val (.ref b201a)] [(.ref b201a)]))
      refine own_go (fun t => XS.iload X202a.here hx rfl (hb hby at_126) rfl) ?_
      show own_Fin p e below s (own_Q0 n0) room_1.cells room_1.slots (T202a.setTop (mkF m 128 #[.val (.long x0), .second, .val (.long x1), .second, .val (.int x2), .val (.int x3), .val (.int sm), .val (.int nr), .val (.long W), .second, .val (.int tk), .val (.long ((W / (2 : Int64)) + (W &&& (1 : Int64)))), .second, .val (.int (0 : Int32)), .val (.ref b201a)] [(.int tk), (.ref b201a)]))
      obtain ⟨T203a, X203a, e203a, st203a⟩ := own_callVP X202a hx hZ rfl (y := (⟨"com/example/keystripe/keystripe/store/PrefixWindow", "isFilled", "(I)Z"⟩ : MethodName)) hown (hw _ (List.mem_of_getElem? (i := 20) rfl)) (hw _ (List.mem_of_getElem? (i := 21) rfl)) (hw _ (List.mem_of_getElem? (i := 23) rfl)) (hw _ (List.mem_of_getElem? (i := 22) rfl)) (hw _ (List.mem_of_getElem? (i := 4) rfl)) (hw _ (List.mem_of_getElem? (i := 24) rfl)) (by decide) (a := b201a) hE202a (argsL := [(.int tk)]) (rest := []) (own_met l Z a0 hw b201a tk x0 W _ 0 (Nat.zero_le _) hs202a hw202a) (by decide) 0 (by decide) (by decide) (by decide) (g := (mkF m 128 #[.val (.long x0), .second, .val (.long x1), .second, .val (.int x2), .val (.int x3), .val (.int sm), .val (.int nr), .val (.long W), .second, .val (.int tk), .val (.long ((W / (2 : Int64)) + (W &&& (1 : Int64)))), .second, .val (.int (0 : Int32)), .val (.ref b201a)] [(.int tk), (.ref b201a)])) rfl (by rw [hml]; rfl) (lenOf own_pd2 rfl) rfl (by show 2 * 0 + _ ≤ _; exact Nat.le_of_eq rfl) (hb hby at_128)
      refine own_go st203a ?_
      show own_Fin p e below s (own_Q0 n0) room_1.cells room_1.slots (T203a.setTop (mkF m 131 #[.val (.long x0), .second, .val (.long x1), .second, .val (.int x2), .val (.int x3), .val (.int sm), .val (.int nr), .val (.long W), .second, .val (.int tk), .val (.long ((W / (2 : Int64)) + (W &&& (1 : Int64)))), .second, .val (.int (0 : Int32)), .val (.ref b201a)] [(.int (own_val W tk))]))
      refine own_go (fun t => XS.iload X203a.here hx rfl (hb hby at_131) rfl) ?_
      show own_Fin p e below s (own_Q0 n0) room_1.cells room_1.slots (T203a.setTop (mkF m 133 #[.val (.long x0), .second, .val (.long x1), .second, .val (.int x2), .val (.int x3), .val (.int sm), .val (.int nr), .val (.long W), .second, .val (.int tk), .val (.long ((W / (2 : Int64)) + (W &&& (1 : Int64)))), .second, .val (.int (0 : Int32)), .val (.ref b201a)] [(.int (0 : Int32)), (.int (own_val W tk))]))
      refine own_go (fun t => XS.icmpNo X203a.here hx rfl (hb hby at_133) rfl (teq (if_pos ((own_ar W tk hW).mp h102))).2) ?_
      show own_Fin p e below s (own_Q0 n0) room_1.cells room_1.slots (T203a.setTop (mkF m 136 #[.val (.long x0), .second, .val (.long x1), .second, .val (.int x2), .val (.int x3), .val (.int sm), .val (.int nr), .val (.long W), .second, .val (.int tk), .val (.long ((W / (2 : Int64)) + (W &&& (1 : Int64)))), .second, .val (.int (0 : Int32)), .val (.ref b201a)] []))
      refine own_go (fun t => XS.iconst X203a.here hx rfl (hb hby at_136)) ?_
      show own_Fin p e below s (own_Q0 n0) room_1.cells room_1.slots (T203a.setTop (mkF m 137 #[.val (.long x0), .second, .val (.long x1), .second, .val (.int x2), .val (.int x3), .val (.int sm), .val (.int nr), .val (.long W), .second, .val (.int tk), .val (.long ((W / (2 : Int64)) + (W &&& (1 : Int64)))), .second, .val (.int (0 : Int32)), .val (.ref b201a)] [(.int (1 : Int32))]))
      refine own_go (fun t => XS.goto X203a.here hx rfl (pc0 := 137) (pc' := 141) rfl (hb hby at_137) (by decide) (by decide)) ?_
      show own_Fin p e below s (own_Q0 n0) room_1.cells room_1.slots (T203a.setTop (mkF m 141 #[.val (.long x0), .second, .val (.long x1), .second, .val (.int x2), .val (.int x3), .val (.int sm), .val (.int nr), .val (.long W), .second, .val (.int tk), .val (.long ((W / (2 : Int64)) + (W &&& (1 : Int64)))), .second, .val (.int (0 : Int32)), .val (.ref b201a)] [(.int (1 : Int32))]))
      exact own_ret X203a hlk hx (t := .boolean) hret rfl (Or.inl ⟨rfl, by simp, _, rfl⟩) (hb hby at_141) ⟨rfl, N202a⟩ (by decide) (by decide)
    · refine own_go (fun t => XS.ifNo X.here hx rfl (hb hby at_102) rfl ((if0 _ _).trans (flt (fun q => h102 ((lw_lt (tk.toInt64) ((W / (2 : Int64)) + (W &&& (1 : Int64)))).mp q))).1)) ?_
      show own_Fin p e below s (own_Q0 n0) room_1.cells room_1.slots (T.setTop (mkF m 105 #[.val (.long x0), .second, .val (.long x1), .second, .val (.int x2), .val (.int x3), .val (.int sm), .val (.int nr), .val (.long W), .second, .val (.int tk), .val (.long ((W / (2 : Int64)) + (W &&& (1 : Int64)))), .second, .unset, .unset] []))
      refine own_go (fun t => XS.iconst X.here hx rfl (hb hby at_105)) ?_
      show own_Fin p e below s (own_Q0 n0) room_1.cells room_1.slots (T.setTop (mkF m 106 #[.val (.long x0), .second, .val (.long x1), .second, .val (.int x2), .val (.int x3), .val (.int sm), .val (.int nr), .val (.long W), .second, .val (.int tk), .val (.long ((W / (2 : Int64)) + (W &&& (1 : Int64)))), .second, .unset, .unset] [(.int (1 : Int32))]))
      refine own_go (fun t => XS.goto X.here hx rfl (pc0 := 106) (pc' := 110) rfl (hb hby at_106) (by decide) (by decide)) ?_
      show own_Fin p e below s (own_Q0 n0) room_1.cells room_1.slots (T.setTop (mkF m 110 #[.val (.long x0), .second, .val (.long x1), .second, .val (.int x2), .val (.int x3), .val (.int sm), .val (.int nr), .val (.long W), .second, .val (.int tk), .val (.long ((W / (2 : Int64)) + (W &&& (1 : Int64)))), .second, .unset, .unset] [(.int (1 : Int32))]))
      refine own_go (fun t => XS.istore X.here hx rfl (hb hby at_110) rfl (l' := #[.val (.long x0), .second, .val (.long x1), .second, .val (.int x2), .val (.int x3), .val (.int sm), .val (.int nr), .val (.long W), .second, .val (.int tk), .val (.long ((W / (2 : Int64)) + (W &&& (1 : Int64)))), .second, .val (.int (1 : Int32)), .unset]) rfl) ?_
      show own_Fin p e below s (own_Q0 n0) room_1.cells room_1.slots (T.setTop (mkF m 112 #[.val (.long x0), .second, .val (.long x1), .second, .val (.int x2), .val (.int x3), .val (.int sm), .val (.int nr), .val (.long W), .second, .val (.int tk), .val (.long ((W / (2 : Int64)) + (W &&& (1 : Int64)))), .second, .val (.int (1 : Int32)), .unset] []))
      obtain ⟨T201a, h201a, X201a, e201a, E201a, A201a, D201a, -, st201a⟩ := newO X hx hZ hown (hw _ (List.mem_of_getElem? (i := 2) rfl)) (hw _ (List.mem_of_getElem? (i := 3) rfl)) (hw _ (List.mem_of_getElem? (i := 4) rfl)) hh (g := (mkF m 112 #[.val (.long x0), .second, .val (.long x1), .second, .val (.int x2), .val (.int x3), .val (.int sm), .val (.int nr), .val (.long W), .second, .val (.int tk), .val (.long ((W / (2 : Int64)) + (W &&& (1 : Int64)))), .second, .val (.int (1 : Int32)), .unset] [])) rfl (hb hby at_112) (by decide) (by decide)
      obtain ⟨b201a, g201a⟩ : ∃ z, z = Array.size h0 := ⟨_, rfl⟩
      rw [← g201a] at A201a D201a st201a
      have F201a_start : Fld Z h201a b201a "com/example/keystripe/keystripe/store/PrefixWindow" "start" "J" (.long (0 : Int64)) := D201a (Or.inr (hw _ (List.mem_of_getElem? (i := 17) rfl))) (ty := .long) (by decide)
      have F201a_width : Fld Z h201a b201a "com/example/keystripe/keystripe/store/PrefixWindow" "width" "J" (.long (0 : Int64)) := D201a (Or.inr (hw _ (List.mem_of_getElem? (i := 19) rfl))) (ty := .long) (by decide)
      have sz_b201a : Array.size h0 ≤ b201a := by rw [g201a]; exact KK0.1
      have G_b201a : n0 ≤ b201a := Nat.le_trans Z0 sz_b201a
      have KK201a := KK0.ext E201a
      refine own_go (fun t => st201a t) ?_
      show own_Fin p e below s (own_Q0 n0) room_1.cells room_1.slots (T201a.setTop (mkF m 115 #[.val (.long x0), .second, .val (.long x1), .second, .val (.int x2), .val (.int x3), .val (.int sm), .val (.int nr), .val (.long W), .second, .val (.int tk), .val (.long ((W / (2 : Int64)) + (W &&& (1 : Int64)))), .second, .val (.int (1 : Int32)), .unset] [(.ref b201a)]))
      refine own_go (fun t => XS.dup X201a.here hx rfl (hb hby at_115) rfl rfl) ?_
      show own_Fin p e below s (own_Q0 n0) room_1.cells room_1.slots (T201a.setTop (mkF m 116 #[.val (.long x0), .second, .val (.long x1), .second, .val (.int x2), .val (.int x3), .val (.int sm), .val (.int nr), .val (.long W), .second, .val (.int tk), .val (.long ((W / (2 : Int64)) + (W &&& (1 : Int64)))), .second, .val (.int (1 : Int32)), .unset] [(.ref b201a), (.ref b201a)]))
      refine own_go (fun t => XS.lloadN X201a.here hx rfl (hb hby at_116) rfl) ?_
      show own_Fin p e below s (own_Q0 n0) room_1.cells room_1.slots (T201a.setTop (mkF m 117 #[.val (.long x0), .second, .val (.long x1), .second, .val (.int x2), .val (.int x3), .val (.int sm), .val (.int nr), .val (.long W), .second, .val (.int tk), .val (.long ((W / (2 : Int64)) + (W &&& (1 : Int64)))), .second, .val (.int (1 : Int32)), .unset] [(.long x0), (.ref b201a), (.ref b201a)]))
      refine own_go (fun t => XS.lload X201a.here hx rfl (hb hby at_117) rfl) ?_
      show own_Fin p e below s (own_Q0 n0) room_1.cells room_1.slots (T201a.setTop (mkF m 119 #[.val (.long x0), .second, .val (.long x1), .second, .val (.int x2), .val (.int x3), .val (.int sm), .val (.int nr), .val (.long W), .second, .val (.int tk), .val (.long ((W / (2 : Int64)) + (W &&& (1 : Int64)))), .second, .val (.int (1 : Int32)), .unset] [(.long W), (.long x0), (.ref b201a), (.ref b201a)]))
      obtain ⟨_, T202a, L202a, X202a, ⟨rfl, Nq202a, K202a, hE202a, hs202a, hw202a⟩, st202a⟩ := own_callI X201a hx hZ e201a (y := (⟨"com/example/keystripe/keystripe/store/PrefixWindow", "<init>", "(JJ)V"⟩ : MethodName)) rfl hown (hw _ (List.mem_of_getElem? (i := 5) rfl)) (hw _ (List.mem_of_getElem? (i := 6) rfl)) (hw _ (List.mem_of_getElem? (i := 4) rfl)) (hw _ (List.mem_of_getElem? (i := 7) rfl)) (by decide) (a := b201a) (argsL := [(.long x0), (.long W)]) (rest := [(.ref b201a)]) (own_ini l Z a0 hw b201a x0 W h201a n0 (Nat.le_trans Z0 KK201a.1) G_b201a A201a F201a_start F201a_width) (by decide) 1 (by decide) (by decide) (by decide) (g := (mkF m 119 #[.val (.long x0), .second, .val (.long x1), .second, .val (.int x2), .val (.int x3), .val (.int sm), .val (.int nr), .val (.long W), .second, .val (.int tk), .val (.long ((W / (2 : Int64)) + (W &&& (1 : Int64)))), .second, .val (.int (1 : Int32)), .unset] [(.long W), (.long x0), (.ref b201a), (.ref b201a)])) rfl (by rw [hml]; rfl) (lenOf own_pd1 rfl) rfl (by show 2 * 0 + _ ≤ _; exact Nat.le_of_eq rfl) (hb hby at_119)
      have N202a := Fr.app N0 Nq202a
      have E_b201a_202a := A201a.keep K202a
      have KK202a := KK201a.trans K202a (allS (Or.inr sz_b201a) all0)
      refine own_go st202a ?_
      show own_Fin p e below s (own_Q0 n0) room_1.cells room_1.slots (T202a.setTop (mkF m 122 #[.val (.long x0), .second, .val (.long x1), .second, .val (.int x2), .val (.int x3), .val (.int sm), .val (.int nr), .val (.long W), .second, .val (.int tk), .val (.long ((W / (2 : Int64)) + (W &&& (1 : Int64)))), .second, .val (.int (1 : Int32)), .unset] [(.ref b201a)]))
      refine own_go (fun t => XS.astore X202a.here hx rfl (hb hby at_122) rfl rfl (l' := #[.val (.long x0), .second, .val (.long x1), .second, .val (.int x2), .val (.int x3), .val (.int sm), .val (.int nr), .val (.long W), .second, .val (.int tk), .val (.long ((W / (2 : Int64)) + (W &&& (1 : Int64)))), .second, .val (.int (1 : Int32)), .val (.ref b201a)]) rfl) ?_
      show own_Fin p e below s (own_Q0 n0) room_1.cells room_1.slots (T202a.setTop (mkF m 124 #[.val (.long x0), .second, .val (.long x1), .second, .val (.int x2), .val (.int x3), .val (.int sm), .val (.int nr), .val (.long W), .second, .val (.int tk), .val (.long ((W / (2 : Int64)) + (W &&& (1 : Int64)))), .second, .val (.int (1 : Int32)), .val (.ref b201a)] []))
      refine own_go (fun t => XS.aload X202a.here hx rfl (hb hby at_124) rfl rfl) ?_
      show own_Fin p e below s (own_Q0 n0) room_1.cells room_1.slots (T202a.setTop (mkF m 126 #[.val (.long x0), .second, .val (.long x1), .second, .val (.int x2), .val (.int x3), .val (.int sm), .val (.int nr), .val (.long W), .second, .val (.int tk), .val (.long ((W / (2 : Int64)) + (W &&& (1 : Int64)))), .second, .val (.int (1 : Int32)), .val (.ref b201a)] [(.ref b201a)]))
      refine own_go (fun t => XS.iload X202a.here hx rfl (hb hby at_126) rfl) ?_
      show own_Fin p e below s (own_Q0 n0) room_1.cells room_1.slots (T202a.setTop (mkF m 128 #[.val (.long x0), .second, .val (.long x1), .second, .val (.int x2), .val (.int x3), .val (.int sm), .val (.int nr), .val (.long W), .second, .val (.int tk), .val (.long ((W / (2 : Int64)) + (W &&& (1 : Int64)))), .second, .val (.int (1 : Int32)), .val (.ref b201a)] [(.int tk), (.ref b201a)]))
      obtain ⟨T203a, X203a, e203a, st203a⟩ := own_callVP X202a hx hZ rfl (y := (⟨"com/example/keystripe/keystripe/store/PrefixWindow", "isFilled", "(I)Z"⟩ : MethodName)) hown (hw _ (List.mem_of_getElem? (i := 20) rfl)) (hw _ (List.mem_of_getElem? (i := 21) rfl)) (hw _ (List.mem_of_getElem? (i := 23) rfl)) (hw _ (List.mem_of_getElem? (i := 22) rfl)) (hw _ (List.mem_of_getElem? (i := 4) rfl)) (hw _ (List.mem_of_getElem? (i := 24) rfl)) (by decide) (a := b201a) hE202a (argsL := [(.int tk)]) (rest := []) (own_met l Z a0 hw b201a tk x0 W _ 0 (Nat.zero_le _) hs202a hw202a) (by decide) 0 (by decide) (by decide) (by decide) (g := (mkF m 128 #[.val (.long x0), .second, .val (.long x1), .second, .val (.int x2), .val (.int x3), .val (.int sm), .val (.int nr), .val (.long W), .second, .val (.int tk), .val (.long ((W / (2 : Int64)) + (W &&& (1 : Int64)))), .second, .val (.int (1 : Int32)), .val (.ref b201a)] [(.int tk), (.ref b201a)])) rfl (by rw [hml]; rfl) (lenOf own_pd2 rfl) rfl (by show 2 * 0 + _ ≤ _; exact Nat.le_of_eq rfl) (hb hby at_128)
      refine own_go st203a ?_
      show own_Fin p e below s (own_Q0 n0) room_1.cells room_1.slots (T203a.setTop (mkF m 131 #[.val (.long x0), .second, .val (.long x1), .second, .val (.int x2), .val (.int x3), .val (.int sm), .val (.int nr), .val (.long W), .second, .val (.int tk), .val (.long ((W / (2 : Int64)) + (W &&& (1 : Int64)))), .second, .val (.int (1 : Int32)), .val (.ref b201a)] [(.int (own_val W tk))]))
      refine own_go (fun t => XS.iload X203a.here hx rfl (hb hby at_131) rfl) ?_
      show own_Fin p e below s (own_Q0 n0) room_1.cells room_1.slots (T203a.setTop (mkF m 133 #[.val (.long x0), .second, .val (.long x1), .second, .val (.int x2), .val (.int x3), .val (.int sm), .val (.int nr), .val (.long W), .second, .val (.int tk), .val (.long ((W / (2 : Int64)) + (W &&& (1 : Int64)))), .second, .val (.int (1 : Int32)), .val (.ref b201a)] [(.int (1 : Int32)), (.int (own_val W tk))]))
      refine own_go (fun t => XS.icmpNo X203a.here hx rfl (hb hby at_133) rfl (teq (if_neg (fun q => h102 ((own_ar W tk hW).mpr q)))).2) ?_
      show own_Fin p e below s (own_Q0 n0) room_1.cells room_1.slots (T203a.setTop (mkF m 136 #[.val (.long x0), .second, .val (.long x1), .second, .val (.int x2), .val (.int x3), .val (.int sm), .val (.int nr), .val (.long W), .second, .val (.int tk), .val (.long ((W / (2 : Int64)) + (W &&& (1 : Int64)))), .second, .val (.int (1 : Int32)), .val (.ref b201a)] []))
      refine own_go (fun t => XS.iconst X203a.here hx rfl (hb hby at_136)) ?_
      show own_Fin p e below s (own_Q0 n0) room_1.cells room_1.slots (T203a.setTop (mkF m 137 #[.val (.long x0), .second, .val (.long x1), .second, .val (.int x2), .val (.int x3), .val (.int sm), .val (.int nr), .val (.long W), .second, .val (.int tk), .val (.long ((W / (2 : Int64)) + (W &&& (1 : Int64)))), .second, .val (.int (1 : Int32)), .val (.ref b201a)] [(.int (1 : Int32))]))
      refine own_go (fun t => XS.goto X203a.here hx rfl (pc0 := 137) (pc' := 141) rfl (hb hby at_137) (by decide) (by decide)) ?_
      show own_Fin p e below s (own_Q0 n0) room_1.cells room_1.slots (T203a.setTop (mkF m 141 #[.val (.long x0), .second, .val (.long x1), .second, .val (.int x2), .val (.int x3), .val (.int sm), .val (.int nr), .val (.long W), .second, .val (.int tk), .val (.long ((W / (2 : Int64)) + (W &&& (1 : Int64)))), .second, .val (.int (1 : Int32)), .val (.ref b201a)] [(.int (1 : Int32))]))
      exact own_ret X203a hlk hx (t := .boolean) hret rfl (Or.inl ⟨rfl, by simp, _, rfl⟩) (hb hby at_141) ⟨rfl, N202a⟩ (by decide) (by decide)
  have J28 : ∀ (sm nr : Int32), own_Fin p e below s (own_Q0 n0) room_1.cells room_1.slots (T.setTop (mkF m 28 #[.val (.long x0), .second, .val (.long x1), .second, .val (.int x2), .val (.int x3), .val (.int sm), .val (.int nr), .unset, .unset, .unset, .unset, .unset, .unset, .unset] [])) := by
    intro sm nr
    show own_Fin p e below s (own_Q0 n0) room_1.cells room_1.slots (T.setTop (mkF m 28 #[.val (.long x0), .second, .val (.long x1), .second, .val (.int x2), .val (.int x3), .val (.int sm), .val (.int nr), .unset, .unset, .unset, .unset, .unset, .unset, .unset] []))
    refine own_go (fun t => XS.iload X.here hx rfl (hb hby at_28) rfl) ?_
    show own_Fin p e below s (own_Q0 n0) room_1.cells room_1.slots (T.setTop (mkF m 30 #[.val (.long x0), .second, .val (.long x1), .second, .val (.int x2), .val (.int x3), .val (.int sm), .val (.int nr), .unset, .unset, .unset, .unset, .unset, .unset, .unset] [(.int sm)]))
    by_cases h30 : sm = (0 : Int32)
    · refine own_go (fun t => XS.ifYes X.here hx rfl (pc0 := 30) (pc' := 43) rfl (hb hby at_30) rfl ((if0 _ _).trans (teq h30).1) (by decide) (by decide)) ?_
      show own_Fin p e below s (own_Q0 n0) room_1.cells room_1.slots (T.setTop (mkF m 43 #[.val (.long x0), .second, .val (.long x1), .second, .val (.int x2), .val (.int x3), .val (.int sm), .val (.int nr), .unset, .unset, .unset, .unset, .unset, .unset, .unset] []))
      refine own_go (fun t => XS.lconst X.here hx rfl (hb hby at_43)) ?_
      show own_Fin p e below s (own_Q0 n0) room_1.cells room_1.slots (T.setTop (mkF m 44 #[.val (.long x0), .second, .val (.long x1), .second, .val (.int x2), .val (.int x3), .val (.int sm), .val (.int nr), .unset, .unset, .unset, .unset, .unset, .unset, .unset] [(.long (1 : Int64))]))
      refine own_go (fun t => XS.lloadN X.here hx rfl (hb hby at_44) rfl) ?_
      show own_Fin p e below s (own_Q0 n0) room_1.cells room_1.slots (T.setTop (mkF m 45 #[.val (.long x0), .second, .val (.long x1), .second, .val (.int x2), .val (.int x3), .val (.int sm), .val (.int nr), .unset, .unset, .unset, .unset, .unset, .unset, .unset] [(.long x1), (.long (1 : Int64))]))
      refine own_go (fun t => X.ldc2Long hx hown (mvT hZ (hw _ (List.mem_of_getElem? (i := 26) rfl))) (g := (mkF m 45 #[.val (.long x0), .second, .val (.long x1), .second, .val (.int x2), .val (.int x3), .val (.int sm), .val (.int nr), .unset, .unset, .unset, .unset, .unset, .unset, .unset] [(.long x1), (.long (1 : Int64))])) rfl (hb hby at_45) t) ?_
      show own_Fin p e below s (own_Q0 n0) room_1.cells room_1.slots (T.setTop (mkF m 48 #[.val (.long x0), .second, .val (.long x1), .second, .val (.int x2), .val (.int x3), .val (.int sm), .val (.int nr), .unset, .unset, .unset, .unset, .unset, .unset, .unset] [(.long (4611686018427387903 : Int64)), (.long x1), (.long (1 : Int64))]))
      refine own_go (fun t => XS.land X.here hx rfl (hb hby at_48) rfl) ?_
      show own_Fin p e below s (own_Q0 n0) room_1.cells room_1.slots (T.setTop (mkF m 49 #[.val (.long x0), .second, .val (.long x1), .second, .val (.int x2), .val (.int x3), .val (.int sm), .val (.int nr), .unset, .unset, .unset, .unset, .unset, .unset, .unset] [(.long (x1 &&& (4611686018427387903 : Int64))), (.long (1 : Int64))]))
      refine own_go (fun t => XS.ladd X.here hx rfl (hb hby at_49) rfl) ?_
      show own_Fin p e below s (own_Q0 n0) room_1.cells room_1.slots (T.setTop (mkF m 50 #[.val (.long x0), .second, .val (.long x1), .second, .val (.int x2), .val (.int x3), .val (.int sm), .val (.int nr), .unset, .unset, .unset, .unset, .unset, .unset, .unset] [(.long ((1 : Int64) + (x1 &&& (4611686018427387903 : Int64))))]))
      refine own_go (fun t => XS.lstore X.here hx rfl (hb hby at_50) rfl (l' := #[.val (.long x0), .second, .val (.long x1), .second, .val (.int x2), .val (.int x3), .val (.int sm), .val (.int nr), .val (.long ((1 : Int64) + (x1 &&& (4611686018427387903 : Int64)))), .second, .unset, .unset, .unset, .unset, .unset]) rfl) ?_
      show own_Fin p e below s (own_Q0 n0) room_1.cells room_1.slots (T.setTop (mkF m 52 #[.val (.long x0), .second, .val (.long x1), .second, .val (.int x2), .val (.int x3), .val (.int sm), .val (.int nr), .val (.long ((1 : Int64) + (x1 &&& (4611686018427387903 : Int64)))), .second, .unset, .unset, .unset, .unset, .unset] []))
      refine own_go (fun t => XS.iload X.here hx rfl (hb hby at_52) rfl) ?_
      show own_Fin p e below s (own_Q0 n0) room_1.cells room_1.slots (T.setTop (mkF m 54 #[.val (.long x0), .second, .val (.long x1), .second, .val (.int x2), .val (.int x3), .val (.int sm), .val (.int nr), .val (.long ((1 : Int64) + (x1 &&& (4611686018427387903 : Int64)))), .second, .unset, .unset, .unset, .unset, .unset] [(.int sm)]))
      refine own_go (fun t => XS.ifYes X.here hx rfl (pc0 := 54) (pc' := 79) rfl (hb hby at_54) rfl ((if0 _ _).trans (teq h30).1) (by decide) (by decide)) ?_
      show own_Fin p e below s (own_Q0 n0) room_1.cells room_1.slots (T.setTop (mkF m 79 #[.val (.long x0), .second, .val (.long x1), .second, .val (.int x2), .val (.int x3), .val (.int sm), .val (.int nr), .val (.long ((1 : Int64) + (x1 &&& (4611686018427387903 : Int64)))), .second, .unset, .unset, .unset, .unset, .unset] []))
      refine own_go (fun t => XS.iload X.here hx rfl (hb hby at_79) rfl) ?_
      show own_Fin p e below s (own_Q0 n0) room_1.cells room_1.slots (T.setTop (mkF m 81 #[.val (.long x0), .second, .val (.long x1), .second, .val (.int x2), .val (.int x3), .val (.int sm), .val (.int nr), .val (.long ((1 : Int64) + (x1 &&& (4611686018427387903 : Int64)))), .second, .unset, .unset, .unset, .unset, .unset] [(.int x2)]))
      refine own_go (fun t => XS.istore X.here hx rfl (hb hby at_81) rfl (l' := #[.val (.long x0), .second, .val (.long x1), .second, .val (.int x2), .val (.int x3), .val (.int sm), .val (.int nr), .val (.long ((1 : Int64) + (x1 &&& (4611686018427387903 : Int64)))), .second, .val (.int x2), .unset, .unset, .unset, .unset]) rfl) ?_
      show own_Fin p e below s (own_Q0 n0) room_1.cells room_1.slots (T.setTop (mkF m 83 #[.val (.long x0), .second, .val (.long x1), .second, .val (.int x2), .val (.int x3), .val (.int sm), .val (.int nr), .val (.long ((1 : Int64) + (x1 &&& (4611686018427387903 : Int64)))), .second, .val (.int x2), .unset, .unset, .unset, .unset] []))
      exact J83 sm nr _ _ (own_w2 x1)
    · refine own_go (fun t => XS.ifNo X.here hx rfl (hb hby at_30) rfl ((if0 _ _).trans (feq h30).1)) ?_
      show own_Fin p e below s (own_Q0 n0) room_1.cells room_1.slots (T.setTop (mkF m 33 #[.val (.long x0), .second, .val (.long x1), .second, .val (.int x2), .val (.int x3), .val (.int sm), .val (.int nr), .unset, .unset, .unset, .unset, .unset, .unset, .unset] []))
      refine own_go (fun t => XS.lconst X.here hx rfl (hb hby at_33)) ?_
      show own_Fin p e below s (own_Q0 n0) room_1.cells room_1.slots (T.setTop (mkF m 34 #[.val (.long x0), .second, .val (.long x1), .second, .val (.int x2), .val (.int x3), .val (.int sm), .val (.int nr), .unset, .unset, .unset, .unset, .unset, .unset, .unset] [(.long (1 : Int64))]))
      refine own_go (fun t => XS.lloadN X.here hx rfl (hb hby at_34) rfl) ?_
      show own_Fin p e below s (own_Q0 n0) room_1.cells room_1.slots (T.setTop (mkF m 35 #[.val (.long x0), .second, .val (.long x1), .second, .val (.int x2), .val (.int x3), .val (.int sm), .val (.int nr), .unset, .unset, .unset, .unset, .unset, .unset, .unset] [(.long x1), (.long (1 : Int64))]))
      refine own_go (fun t => X.ldc2Long hx hown (mvT hZ (hw _ (List.mem_of_getElem? (i := 0) rfl))) (g := (mkF m 35 #[.val (.long x0), .second, .val (.long x1), .second, .val (.int x2), .val (.int x3), .val (.int sm), .val (.int nr), .unset, .unset, .unset, .unset, .unset, .unset, .unset] [(.long x1), (.long (1 : Int64))])) rfl (hb hby at_35) t) ?_
      show own_Fin p e below s (own_Q0 n0) room_1.cells room_1.slots (T.setTop (mkF m 38 #[.val (.long x0), .second, .val (.long x1), .second, .val (.int x2), .val (.int x3), .val (.int sm), .val (.int nr), .unset, .unset, .unset, .unset, .unset, .unset, .unset] [(.long (8191 : Int64)), (.long x1), (.long (1 : Int64))]))
      refine own_go (fun t => XS.land X.here hx rfl (hb hby at_38) rfl) ?_
      show own_Fin p e below s (own_Q0 n0) room_1.cells room_1.slots (T.setTop (mkF m 39 #[.val (.long x0), .second, .val (.long x1), .second, .val (.int x2), .val (.int x3), .val (.int sm), .val (.int nr), .unset, .unset, .unset, .unset, .unset, .unset, .unset] [(.long (x1 &&& (8191 : Int64))), (.long (1 : Int64))]))
      refine own_go (fun t => XS.ladd X.here hx rfl (hb hby at_39) rfl) ?_
      show own_Fin p e below s (own_Q0 n0) room_1.cells room_1.slots (T.setTop (mkF m 40 #[.val (.long x0), .second, .val (.long x1), .second, .val (.int x2), .val (.int x3), .val (.int sm), .val (.int nr), .unset, .unset, .unset, .unset, .unset, .unset, .unset] [(.long ((1 : Int64) + (x1 &&& (8191 : Int64))))]))
      refine own_go (fun t => XS.goto X.here hx rfl (pc0 := 40) (pc' := 50) rfl (hb hby at_40) (by decide) (by decide)) ?_
      show own_Fin p e below s (own_Q0 n0) room_1.cells room_1.slots (T.setTop (mkF m 50 #[.val (.long x0), .second, .val (.long x1), .second, .val (.int x2), .val (.int x3), .val (.int sm), .val (.int nr), .unset, .unset, .unset, .unset, .unset, .unset, .unset] [(.long ((1 : Int64) + (x1 &&& (8191 : Int64))))]))
      refine own_go (fun t => XS.lstore X.here hx rfl (hb hby at_50) rfl (l' := #[.val (.long x0), .second, .val (.long x1), .second, .val (.int x2), .val (.int x3), .val (.int sm), .val (.int nr), .val (.long ((1 : Int64) + (x1 &&& (8191 : Int64)))), .second, .unset, .unset, .unset, .unset, .unset]) rfl) ?_
      show own_Fin p e below s (own_Q0 n0) room_1.cells room_1.slots (T.setTop (mkF m 52 #[.val (.long x0), .second, .val (.long x1), .second, .val (.int x2), .val (.int x3), .val (.int sm), .val (.int nr), .val (.long ((1 : Int64) + (x1 &&& (8191 : Int64)))), .second, .unset, .unset, .unset, .unset, .unset] []))
      refine own_go (fun t => XS.iload X.here hx rfl (hb hby at_52) rfl) ?_
      show own_Fin p e below s (own_Q0 n0) room_1.cells room_1.slots (T.setTop (mkF m 54 #[.val (.long x0), .second, .val (.long x1), .second, .val (.int x2), .val (.int x3), .val (.int sm), .val (.int nr), .val (.long ((1 : Int64) + (x1 &&& (8191 : Int64)))), .second, .unset, .unset, .unset, .unset, .unset] [(.int sm)]))
      refine own_go (fun t => XS.ifNo X.here hx rfl (hb hby at_54) rfl ((if0 _ _).trans (feq h30).1)) ?_
      show own_Fin p e below s (own_Q0 n0) room_1.cells room_1.slots (T.setTop (mkF m 57 #[.val (.long x0), .second, .val (.long x1), .second, .val (.int x2), .val (.int x3), .val (.int sm), .val (.int nr), .val (.long ((1 : Int64) + (x1 &&& (8191 : Int64)))), .second, .unset, .unset, .unset, .unset, .unset] []))
      refine own_go (fun t => XS.iload X.here hx rfl (hb hby at_57) rfl) ?_
      show own_Fin p e below s (own_Q0 n0) room_1.cells room_1.slots (T.setTop (mkF m 59 #[.val (.long x0), .second, .val (.long x1), .second, .val (.int x2), .val (.int x3), .val (.int sm), .val (.int nr), .val (.long ((1 : Int64) + (x1 &&& (8191 : Int64)))), .second, .unset, .unset, .unset, .unset, .unset] [(.int nr)]))
      by_cases h59 : nr = (0 : Int32)
      · refine own_go (fun t => XS.ifYes X.here hx rfl (pc0 := 59) (pc' := 79) rfl (hb hby at_59) rfl ((if0 _ _).trans (teq h59).1) (by decide) (by decide)) ?_
        show own_Fin p e below s (own_Q0 n0) room_1.cells room_1.slots (T.setTop (mkF m 79 #[.val (.long x0), .second, .val (.long x1), .second, .val (.int x2), .val (.int x3), .val (.int sm), .val (.int nr), .val (.long ((1 : Int64) + (x1 &&& (8191 : Int64)))), .second, .unset, .unset, .unset, .unset, .unset] []))
        refine own_go (fun t => XS.iload X.here hx rfl (hb hby at_79) rfl) ?_
        show own_Fin p e below s (own_Q0 n0) room_1.cells room_1.slots (T.setTop (mkF m 81 #[.val (.long x0), .second, .val (.long x1), .second, .val (.int x2), .val (.int x3), .val (.int sm), .val (.int nr), .val (.long ((1 : Int64) + (x1 &&& (8191 : Int64)))), .second, .unset, .unset, .unset, .unset, .unset] [(.int x2)]))
        refine own_go (fun t => XS.istore X.here hx rfl (hb hby at_81) rfl (l' := #[.val (.long x0), .second, .val (.long x1), .second, .val (.int x2), .val (.int x3), .val (.int sm), .val (.int nr), .val (.long ((1 : Int64) + (x1 &&& (8191 : Int64)))), .second, .val (.int x2), .unset, .unset, .unset, .unset]) rfl) ?_
        show own_Fin p e below s (own_Q0 n0) room_1.cells room_1.slots (T.setTop (mkF m 83 #[.val (.long x0), .second, .val (.long x1), .second, .val (.int x2), .val (.int x3), .val (.int sm), .val (.int nr), .val (.long ((1 : Int64) + (x1 &&& (8191 : Int64)))), .second, .val (.int x2), .unset, .unset, .unset, .unset] []))
        exact J83 sm nr _ _ (own_w1 x1)
      · refine own_go (fun t => XS.ifNo X.here hx rfl (hb hby at_59) rfl ((if0 _ _).trans (feq h59).1)) ?_
        show own_Fin p e below s (own_Q0 n0) room_1.cells room_1.slots (T.setTop (mkF m 62 #[.val (.long x0), .second, .val (.long x1), .second, .val (.int x2), .val (.int x3), .val (.int sm), .val (.int nr), .val (.long ((1 : Int64) + (x1 &&& (8191 : Int64)))), .second, .unset, .unset, .unset, .unset, .unset] []))
        refine own_go (fun t => XS.lload X.here hx rfl (hb hby at_62) rfl) ?_
        show own_Fin p e below s (own_Q0 n0) room_1.cells room_1.slots (T.setTop (mkF m 64 #[.val (.long x0), .second, .val (.long x1), .second, .val (.int x2), .val (.int x3), .val (.int sm), .val (.int nr), .val (.long ((1 : Int64) + (x1 &&& (8191 : Int64)))), .second, .unset, .unset, .unset, .unset, .unset] [(.long ((1 : Int64) + (x1 &&& (8191 : Int64))))]))
        refine own_go (fun t => X.ldc2Long hx hown (mvT hZ (hw _ (List.mem_of_getElem? (i := 1) rfl))) (g := (mkF m 64 #[.val (.long x0), .second, .val (.long x1), .second, .val (.int x2), .val (.int x3), .val (.int sm), .val (.int nr), .val (.long ((1 : Int64) + (x1 &&& (8191 : Int64)))), .second, .unset, .unset, .unset, .unset, .unset] [(.long ((1 : Int64) + (x1 &&& (8191 : Int64))))])) rfl (hb hby at_64) t) ?_
        show own_Fin p e below s (own_Q0 n0) room_1.cells room_1.slots (T.setTop (mkF m 67 #[.val (.long x0), .second, .val (.long x1), .second, .val (.int x2), .val (.int x3), .val (.int sm), .val (.int nr), .val (.long ((1 : Int64) + (x1 &&& (8191 : Int64)))), .second, .unset, .unset, .unset, .unset, .unset] [(.long (2 : Int64)), (.long ((1 : Int64) + (x1 &&& (8191 : Int64))))]))
        refine own_go (fun t => XS.ldiv X.here hx rfl (hb hby at_67) rfl (by decide)) ?_
        show own_Fin p e below s (own_Q0 n0) room_1.cells room_1.slots (T.setTop (mkF m 68 #[.val (.long x0), .second, .val (.long x1), .second, .val (.int x2), .val (.int x3), .val (.int sm), .val (.int nr), .val (.long ((1 : Int64) + (x1 &&& (8191 : Int64)))), .second, .unset, .unset, .unset, .unset, .unset] [(.long (((1 : Int64) + (x1 &&& (8191 : Int64))) / (2 : Int64)))]))
        refine own_go (fun t => XS.l2i X.here hx rfl (hb hby at_68) rfl) ?_
        show own_Fin p e below s (own_Q0 n0) room_1.cells room_1.slots (T.setTop (mkF m 69 #[.val (.long x0), .second, .val (.long x1), .second, .val (.int x2), .val (.int x3), .val (.int sm), .val (.int nr), .val (.long ((1 : Int64) + (x1 &&& (8191 : Int64)))), .second, .unset, .unset, .unset, .unset, .unset] [(.int ((((1 : Int64) + (x1 &&& (8191 : Int64))) / (2 : Int64)).toInt32))]))
        refine own_go (fun t => XS.iconst X.here hx rfl (hb hby at_69)) ?_
        show own_Fin p e below s (own_Q0 n0) room_1.cells room_1.slots (T.setTop (mkF m 70 #[.val (.long x0), .second, .val (.long x1), .second, .val (.int x2), .val (.int x3), .val (.int sm), .val (.int nr), .val (.long ((1 : Int64) + (x1 &&& (8191 : Int64)))), .second, .unset, .unset, .unset, .unset, .unset] [(.int (2 : Int32)), (.int ((((1 : Int64) + (x1 &&& (8191 : Int64))) / (2 : Int64)).toInt32))]))
        refine own_go (fun t => XS.isub X.here hx rfl (hb hby at_70) rfl) ?_
        show own_Fin p e below s (own_Q0 n0) room_1.cells room_1.slots (T.setTop (mkF m 71 #[.val (.long x0), .second, .val (.long x1), .second, .val (.int x2), .val (.int x3), .val (.int sm), .val (.int nr), .val (.long ((1 : Int64) + (x1 &&& (8191 : Int64)))), .second, .unset, .unset, .unset, .unset, .unset] [(.int (((((1 : Int64) + (x1 &&& (8191 : Int64))) / (2 : Int64)).toInt32) - (2 : Int32)))]))
        refine own_go (fun t => XS.iload X.here hx rfl (hb hby at_71) rfl) ?_
        show own_Fin p e below s (own_Q0 n0) room_1.cells room_1.slots (T.setTop (mkF m 73 #[.val (.long x0), .second, .val (.long x1), .second, .val (.int x2), .val (.int x3), .val (.int sm), .val (.int nr), .val (.long ((1 : Int64) + (x1 &&& (8191 : Int64)))), .second, .unset, .unset, .unset, .unset, .unset] [(.int x2), (.int (((((1 : Int64) + (x1 &&& (8191 : Int64))) / (2 : Int64)).toInt32) - (2 : Int32)))]))
        refine own_go (fun t => XS.iconst X.here hx rfl (hb hby at_73)) ?_
        show own_Fin p e below s (own_Q0 n0) room_1.cells room_1.slots (T.setTop (mkF m 74 #[.val (.long x0), .second, .val (.long x1), .second, .val (.int x2), .val (.int x3), .val (.int sm), .val (.int nr), .val (.long ((1 : Int64) + (x1 &&& (8191 : Int64)))), .second, .unset, .unset, .unset, .unset, .unset] [(.int (3 : Int32)), (.int x2), (.int (((((1 : Int64) + (x1 &&& (8191 : Int64))) / (2 : Int64)).toInt32) - (2 : Int32)))]))
        refine own_go (fun t => XS.iand X.here hx rfl (hb hby at_74) rfl) ?_
        show own_Fin p e below s (own_Q0 n0) room_1.cells room_1.slots (T.setTop (mkF m 75 #[.val (.long x0), .second, .val (.long x1), .second, .val (.int x2), .val (.int x3), .val (.int sm), .val (.int nr), .val (.long ((1 : Int64) + (x1 &&& (8191 : Int64)))), .second, .unset, .unset, .unset, .unset, .unset] [(.int (x2 &&& (3 : Int32))), (.int (((((1 : Int64) + (x1 &&& (8191 : Int64))) / (2 : Int64)).toInt32) - (2 : Int32)))]))
        refine own_go (fun t => XS.iadd X.here hx rfl (hb hby at_75) rfl) ?_
        show own_Fin p e below s (own_Q0 n0) room_1.cells room_1.slots (T.setTop (mkF m 76 #[.val (.long x0), .second, .val (.long x1), .second, .val (.int x2), .val (.int x3), .val (.int sm), .val (.int nr), .val (.long ((1 : Int64) + (x1 &&& (8191 : Int64)))), .second, .unset, .unset, .unset, .unset, .unset] [(.int ((((((1 : Int64) + (x1 &&& (8191 : Int64))) / (2 : Int64)).toInt32) - (2 : Int32)) + (x2 &&& (3 : Int32))))]))
        refine own_go (fun t => XS.goto X.here hx rfl (pc0 := 76) (pc' := 81) rfl (hb hby at_76) (by decide) (by decide)) ?_
        show own_Fin p e below s (own_Q0 n0) room_1.cells room_1.slots (T.setTop (mkF m 81 #[.val (.long x0), .second, .val (.long x1), .second, .val (.int x2), .val (.int x3), .val (.int sm), .val (.int nr), .val (.long ((1 : Int64) + (x1 &&& (8191 : Int64)))), .second, .unset, .unset, .unset, .unset, .unset] [(.int ((((((1 : Int64) + (x1 &&& (8191 : Int64))) / (2 : Int64)).toInt32) - (2 : Int32)) + (x2 &&& (3 : Int32))))]))
        refine own_go (fun t => XS.istore X.here hx rfl (hb hby at_81) rfl (l' := #[.val (.long x0), .second, .val (.long x1), .second, .val (.int x2), .val (.int x3), .val (.int sm), .val (.int nr), .val (.long ((1 : Int64) + (x1 &&& (8191 : Int64)))), .second, .val (.int ((((((1 : Int64) + (x1 &&& (8191 : Int64))) / (2 : Int64)).toInt32) - (2 : Int32)) + (x2 &&& (3 : Int32)))), .unset, .unset, .unset, .unset]) rfl) ?_
        show own_Fin p e below s (own_Q0 n0) room_1.cells room_1.slots (T.setTop (mkF m 83 #[.val (.long x0), .second, .val (.long x1), .second, .val (.int x2), .val (.int x3), .val (.int sm), .val (.int nr), .val (.long ((1 : Int64) + (x1 &&& (8191 : Int64)))), .second, .val (.int ((((((1 : Int64) + (x1 &&& (8191 : Int64))) / (2 : Int64)).toInt32) - (2 : Int32)) + (x2 &&& (3 : Int32)))), .unset, .unset, .unset, .unset] []))
        exact J83 sm nr _ _ (own_w1 x1)
  have J14 : ∀ (sm : Int32), own_Fin p e below s (own_Q0 n0) room_1.cells room_1.slots (T.setTop (mkF m 14 #[.val (.long x0), .second, .val (.long x1), .second, .val (.int x2), .val (.int x3), .val (.int sm), .unset, .unset, .unset, .unset, .unset, .unset, .unset, .unset] [])) := by
    intro sm
    show own_Fin p e below s (own_Q0 n0) room_1.cells room_1.slots (T.setTop (mkF m 14 #[.val (.long x0), .second, .val (.long x1), .second, .val (.int x2), .val (.int x3), .val (.int sm), .unset, .unset, .unset, .unset, .unset, .unset, .unset, .unset] []))
    refine own_go (fun t => XS.iload X.here hx rfl (hb hby at_14) rfl) ?_
    show own_Fin p e below s (own_Q0 n0) room_1.cells room_1.slots (T.setTop (mkF m 16 #[.val (.long x0), .second, .val (.long x1), .second, .val (.int x2), .val (.int x3), .val (.int sm), .unset, .unset, .unset, .unset, .unset, .unset, .unset, .unset] [(.int x3)]))
    refine own_go (fun t => XS.iconst X.here hx rfl (hb hby at_16)) ?_
    show own_Fin p e below s (own_Q0 n0) room_1.cells room_1.slots (T.setTop (mkF m 17 #[.val (.long x0), .second, .val (.long x1), .second, .val (.int x2), .val (.int x3), .val (.int sm), .unset, .unset, .unset, .unset, .unset, .unset, .unset, .unset] [(.int (2 : Int32)), (.int x3)]))
    refine own_go (fun t => XS.iand X.here hx rfl (hb hby at_17) rfl) ?_
    show own_Fin p e below s (own_Q0 n0) room_1.cells room_1.slots (T.setTop (mkF m 18 #[.val (.long x0), .second, .val (.long x1), .second, .val (.int x2), .val (.int x3), .val (.int sm), .unset, .unset, .unset, .unset, .unset, .unset, .unset, .unset] [(.int (x3 &&& (2 : Int32)))]))
    by_cases h18 : (x3 &&& (2 : Int32)) = (0 : Int32)
    · refine own_go (fun t => XS.ifYes X.here hx rfl (pc0 := 18) (pc' := 25) rfl (hb hby at_18) rfl ((if0 _ _).trans (teq h18).1) (by decide) (by decide)) ?_
      show own_Fin p e below s (own_Q0 n0) room_1.cells room_1.slots (T.setTop (mkF m 25 #[.val (.long x0), .second, .val (.long x1), .second, .val (.int x2), .val (.int x3), .val (.int sm), .unset, .unset, .unset, .unset, .unset, .unset, .unset, .unset] []))
      refine own_go (fun t => XS.iconst X.here hx rfl (hb hby at_25)) ?_
      show own_Fin p e below s (own_Q0 n0) room_1.cells room_1.slots (T.setTop (mkF m 26 #[.val (.long x0), .second, .val (.long x1), .second, .val (.int x2), .val (.int x3), .val (.int sm), .unset, .unset, .unset, .unset, .unset, .unset, .unset, .unset] [(.int (0 : Int32))]))
      refine own_go (fun t => XS.istore X.here hx rfl (hb hby at_26) rfl (l' := #[.val (.long x0), .second, .val (.long x1), .second, .val (.int x2), .val (.int x3), .val (.int sm), .val (.int (0 : Int32)), .unset, .unset, .unset, .unset, .unset, .unset, .unset]) rfl) ?_
      show own_Fin p e below s (own_Q0 n0) room_1.cells room_1.slots (T.setTop (mkF m 28 #[.val (.long x0), .second, .val (.long x1), .second, .val (.int x2), .val (.int x3), .val (.int sm), .val (.int (0 : Int32)), .unset, .unset, .unset, .unset, .unset, .unset, .unset] []))
      exact J28 sm _
    · refine own_go (fun t => XS.ifNo X.here hx rfl (hb hby at_18) rfl ((if0 _ _).trans (feq h18).1)) ?_
      show own_Fin p e below s (own_Q0 n0) room_1.cells room_1.slots (T.setTop (mkF m 21 #[.val (.long x0), .second, .val (.long x1), .second, .val (.int x2), .val (.int x3), .val (.int sm), .unset, .unset, .unset, .unset, .unset, .unset, .unset, .unset] []))
      refine own_go (fun t => XS.iconst X.here hx rfl (hb hby at_21)) ?_
      show own_Fin p e below s (own_Q0 n0) room_1.cells room_1.slots (T.setTop (mkF m 22 #[.val (.long x0), .second, .val (.long x1), .second, .val (.int x2), .val (.int x3), .val (.int sm), .unset, .unset, .unset, .unset, .unset, .unset, .unset, .unset] [(.int (1 : Int32))]))
      refine own_go (fun t => XS.goto X.here hx rfl (pc0 := 22) (pc' := 26) rfl (hb hby at_22) (by decide) (by decide)) ?_
      show own_Fin p e below s (own_Q0 n0) room_1.cells room_1.slots (T.setTop (mkF m 26 #[.val (.long x0), .second, .val (.long x1), .second, .val (.int x2), .val (.int x3), .val (.int sm), .unset, .unset, .unset, .unset, .unset, .unset, .unset, .unset] [(.int (1 : Int32))]))
      refine own_go (fun t => XS.istore X.here hx rfl (hb hby at_26) rfl (l' := #[.val (.long x0), .second, .val (.long x1), .second, .val (.int x2), .val (.int x3), .val (.int sm), .val (.int (1 : Int32)), .unset, .unset, .unset, .unset, .unset, .unset, .unset]) rfl) ?_
      show own_Fin p e below s (own_Q0 n0) room_1.cells room_1.slots (T.setTop (mkF m 28 #[.val (.long x0), .second, .val (.long x1), .second, .val (.int x2), .val (.int x3), .val (.int sm), .val (.int (1 : Int32)), .unset, .unset, .unset, .unset, .unset, .unset, .unset] []))
      exact J28 sm _
  by_cases h4 : (x3 &&& (1 : Int32)) = (0 : Int32)
  · refine own_go (fun t => XS.ifYes X.here hx rfl (pc0 := 4) (pc' := 11) rfl (hb hby at_4) rfl ((if0 _ _).trans (teq h4).1) (by decide) (by decide)) ?_
    show own_Fin p e below s (own_Q0 n0) room_1.cells room_1.slots (T.setTop (mkF m 11 #[.val (.long x0), .second, .val (.long x1), .second, .val (.int x2), .val (.int x3), .unset, .unset, .unset, .unset, .unset, .unset, .unset, .unset, .unset] []))
    refine own_go (fun t => XS.iconst X.here hx rfl (hb hby at_11)) ?_
    show own_Fin p e below s (own_Q0 n0) room_1.cells room_1.slots (T.setTop (mkF m 12 #[.val (.long x0), .second, .val (.long x1), .second, .val (.int x2), .val (.int x3), .unset, .unset, .unset, .unset, .unset, .unset, .unset, .unset, .unset] [(.int (0 : Int32))]))
    refine own_go (fun t => XS.istore X.here hx rfl (hb hby at_12) rfl (l' := #[.val (.long x0), .second, .val (.long x1), .second, .val (.int x2), .val (.int x3), .val (.int (0 : Int32)), .unset, .unset, .unset, .unset, .unset, .unset, .unset, .unset]) rfl) ?_
    show own_Fin p e below s (own_Q0 n0) room_1.cells room_1.slots (T.setTop (mkF m 14 #[.val (.long x0), .second, .val (.long x1), .second, .val (.int x2), .val (.int x3), .val (.int (0 : Int32)), .unset, .unset, .unset, .unset, .unset, .unset, .unset, .unset] []))
    exact J14 _
  · refine own_go (fun t => XS.ifNo X.here hx rfl (hb hby at_4) rfl ((if0 _ _).trans (feq h4).1)) ?_
    show own_Fin p e below s (own_Q0 n0) room_1.cells room_1.slots (T.setTop (mkF m 7 #[.val (.long x0), .second, .val (.long x1), .second, .val (.int x2), .val (.int x3), .unset, .unset, .unset, .unset, .unset, .unset, .unset, .unset, .unset] []))
    refine own_go (fun t => XS.iconst X.here hx rfl (hb hby at_7)) ?_
    show own_Fin p e below s (own_Q0 n0) room_1.cells room_1.slots (T.setTop (mkF m 8 #[.val (.long x0), .second, .val (.long x1), .second, .val (.int x2), .val (.int x3), .unset, .unset, .unset, .unset, .unset, .unset, .unset, .unset, .unset] [(.int (1 : Int32))]))
    refine own_go (fun t => XS.goto X.here hx rfl (pc0 := 8) (pc' := 12) rfl (hb hby at_8) (by decide) (by decide)) ?_
    show own_Fin p e below s (own_Q0 n0) room_1.cells room_1.slots (T.setTop (mkF m 12 #[.val (.long x0), .second, .val (.long x1), .second, .val (.int x2), .val (.int x3), .unset, .unset, .unset, .unset, .unset, .unset, .unset, .unset, .unset] [(.int (1 : Int32))]))
    refine own_go (fun t => XS.istore X.here hx rfl (hb hby at_12) rfl (l' := #[.val (.long x0), .second, .val (.long x1), .second, .val (.int x2), .val (.int x3), .val (.int (1 : Int32)), .unset, .unset, .unset, .unset, .unset, .unset, .unset, .unset]) rfl) ?_
    show own_Fin p e below s (own_Q0 n0) room_1.cells room_1.slots (T.setTop (mkF m 14 #[.val (.long x0), .second, .val (.long x1), .second, .val (.int x2), .val (.int x3), .val (.int (1 : Int32)), .unset, .unset, .unset, .unset, .unset, .unset, .unset, .unset] []))
    exact J14 _
theorem own_pn2 : plainName "com/example/keystripe/keystripe/store/PrefixWindowIsFilledPinLaw" = true := by first | (simp [plainName, overriddenIn]; done) | decide +kernel
theorem own_rm0 (l : Launch) (Z : State) (a0 : Array Value) (hw : ∀ d ∈ tables_1, d.before a0 Z = true) (ws : List Jvm.Cond) (x0 : Int64) (x1 : Int64) (x2 : Int32) (x3 : Int32) (h0 : Heap) (n0 : Nat) (Z0 : n0 ≤ h0.size) : own_Met l Z x code maxLocals ret ws room_1 #[(.long x0), (.long x1), (.int x2), (.int x3)] h0 (own_Q0 n0) :=
  own_enter (plainFor_of_name own_pn2) (own_ef0 x0 x1 x2 x3) hw (fun p e s m below meth c T X C hh => own_law X C hh x0 x1 x2 x3 n0 Z0)
set_option maxRecDepth 65536 in
set_option maxHeartbeats 40000000 in
theorem own_comes {Post : Tables → Env → Array Value → State → Outcome → State → Prop} (hpost : ∀ tb e args s v u, (limb_1_1.after args s (.returned v) u = true ∧ limb_1_2.after args s (.returned v) u = true ∧ True) → FrameEnd s (.returned v) u (Jvm.fieldLocs frame_1_writes args s ++ Jvm.arrayLocs frame_1_arrays args s ++ Jvm.staticLocs frame_1_statics s) 16 128 → Post tb e args s (.returned v) u) :
    ArmFor flags0 classFile x code maxLocals ret World_1 tables_1 room_1 Calls_1 rest_1 Pre_1 Post := by
  intro l hfl _ _ p e ha hc hk s m args below hf hA hF happ hP
  obtain ⟨hcalls, hrest, hpre⟩ := hP
  obtain ⟨-, -, -, hnamed, -, -, -, hat⟩ := (Spec.applies_iff hf).mp happ
  obtain ⟨hg, hn⟩ := and_e (Cond.before_iff.mp (show (Jvm.Cond.and given_1 narrow_1).before args s = true from hpre))
  obtain ⟨g0, r0⟩ := and_e hg
  obtain ⟨g1, r1⟩ := and_e r0
  obtain ⟨g2, r2⟩ := and_e r1
  obtain ⟨g3, r3⟩ := and_e r2
  obtain ⟨w0, w1, w2, w3, rfl⟩ : ∃ w0 w1 w2 w3 : Value, args = #[w0, w1, w2, w3] := by
    have hs : args.size = 4 := by simpa [Cond.value, given_1] using g0
    obtain ⟨L⟩ := args
    match L, hs with
    | [w0, w1, w2, w3], _ => exact ⟨w0, w1, w2, w3, rfl⟩
  have hw := fun d (hd : d ∈ tables_1) => atoms_spec (ws := Jvm.Cond.code x code maxLocals ret :: tables_1) hat d (List.mem_cons_of_mem _ hd)
  obtain ⟨i0, ei0⟩ := isL_v g1
  obtain rfl : w0 = (.long i0) := Option.some.inj ei0
  obtain ⟨i1, ei1⟩ := isL_v g2
  obtain rfl : w1 = (.long i1) := Option.some.inj ei1
  obtain ⟨i2, ei2⟩ := is_v g3
  obtain rfl : w2 = (.int i2) := Option.some.inj ei2
  obtain ⟨i3, ei3⟩ := is_v r3
  obtain rfl : w3 = (.int i3) := Option.some.inj ei3
  obtain ⟨n, o, h1, h2, h3, _, L, rfl, ⟨rfl, N⟩, hq⟩ := own_rm0 l s _ hw tables_1 i0 i1 i2 i3 s.heap s.heap.size (Nat.le_refl _) p e ha hc hk s m _ below hf ((Spec.applies_iff_loose hf).mp happ).1 ⟨rfl, State.Warmed39.refl s, rfl⟩ trivial
  refine ⟨n, _, h1, h2, h3, hpost _ _ _ _ _ _ ⟨Cond.after_iff.mpr rfl, Cond.after_iff.mpr (eq_i res_at (Term.int_eval (1)) rfl), trivial⟩ ⟨hq.1, hq.2.1, (hq.2.2.sift fun y hy => Or.inr (N y hy)).mono (by decide) (by decide)⟩⟩
theorem main_1_1 : Claimed_1_1 := own_comes fun _ _ _ _ _ _ h hF => ⟨h.1, hF⟩
theorem main_1_2 : Claimed_1_2 := own_comes fun _ _ _ _ _ _ h hF => ⟨h.2.1, hF⟩
end Jvm.Pilot.@@N@@
namespace Jvm.Pilot.@@N@@
open Jvm Jvm.ClassFile Sem Op Lib Jvm.Free Jvm.Stand Jvm.Pilot.@@N@@.Jvm.D
/-! MADE BY PROGRAM (witnessworld.py) out of the Statement's table words and the real class files: 10 classes; the members and pool entries that the words name. The judged class is class 1, her method 1. -/
namespace start1
open Jvm.ClassFile
def u (s : String) : CpInfo := .utf8 (stringToUtf16 s)
/-- a pool by its gaps: so many unusable entries, then the entry; so many at the end -/
def gap : Nat → List CpInfo → List CpInfo
  | 0, r => r
  | n + 1, r => .unusable :: gap n r
def poolList (es : List (Nat × CpInfo)) (last : Nat) : List CpInfo := es.foldr (fun e r => gap e.1 (e.2 :: r)) (gap last [])
def pool (es : List (Nat × CpInfo)) (last : Nat) : Array CpInfo := ⟨poolList es last⟩
def fileOf (pool : Array CpInfo) (this : Nat) (attrs : Array Attribute := #[]) (ms : Array MethodInfo := #[]) (fl : Nat := 33) (sup : Nat := 0) (ifs : Array Nat := #[]) (fds : Array FieldInfo := #[]) : ClassFile where
  minorVersion := 0
  majorVersion := 65
  constantPool := pool
  accessFlags := fl
  thisClass := this
  superClass := sup
  interfaces := ifs
  fields := fds
  methods := ms
  attributes := attrs
def plain (name : String) (sup : Option ClassId) : Class where
  name := name
  kind := .ordinary
  loader := none
  accessFlags := 33
  super := sup
  interfaces := #[]
  cf := none
  fields := #[]
  methods := #[]
  instanceTypes := #[]
  staticTypes := #[]
  resolved := #[]
  callSites := []
  init := .initialized
  statics := none
  mirror := none

def pool0 : Array CpInfo := pool [(5, u "<init>"), (0, u "()V"), (1, .class_ 10), (1, u "java/lang/Object")] 113

def k0c0 : Code := { maxStack := 0, maxLocals := 1, code := object_method_1_code, exceptionTable := #[], attributes := #[] }
def k0m0 : Method := { name := "<init>", desc := "()V", sig := { parameters := [], returnType := none }, accessFlags := 1, code := some k0c0 }
/-- java/lang/Object -/
def k0 : Class := { plain "java/lang/Object" none with
  accessFlags := 33
  interfaces := #[]
  cf := some (fileOf pool0 8 #[] #[{ accessFlags := 1, nameIndex := 5, descriptorIndex := 6, attributes := #[] }] 33 0 #[] #[])
  fields := #[]
  methods := #[k0m0]
  instanceTypes := #[]
  staticTypes := #[]
  resolved := Array.replicate 124 none
  statics := none }

def pool1 : Array CpInfo := pool [(2, .class_ 4), (1, u "java/lang/Object"), (0, u "<init>"), (0, u "()V"), (0, .long 8191), (1, .long 4611686018427387903), (1, .long 2), (1, .class_ 14), (0, u "com/example/keystripe/keystripe/store/PrefixWindow"), (0, .methodref 13 16), (0, .nameAndType 5 17), (0, u "(JJ)V"), (0, .methodref 13 19), (0, .nameAndType 20 21), (0, u "isFilled"), (0, u "(I)Z"), (0, .class_ 23), (0, u "com/example/keystripe/keystripe/store/PrefixWindowIsFilledPinLaw"), (2, u "law"), (0, u "(JJII)Z")] 3

def k1m0 : Method := { name := "<init>", desc := "()V", sig := { parameters := [], returnType := none }, accessFlags := 2, code := none }
def k1c1 : Code := { maxStack := 6, maxLocals := 15, code := code, exceptionTable := #[], attributes := #[] }
def k1m1 : Method := { name := "law", desc := "(JJII)Z", sig := { parameters := [.long, .long, .int, .int], returnType := some .boolean }, accessFlags := 9, code := some k1c1 }
/-- com/example/keystripe/keystripe/store/PrefixWindowIsFilledPinLaw -/
def k1 : Class := { plain "com/example/keystripe/keystripe/store/PrefixWindowIsFilledPinLaw" (some 0) with
  accessFlags := 49
  interfaces := #[]
  cf := some (fileOf pool1 22 #[] #[{ accessFlags := 2, nameIndex := 5, descriptorIndex := 6, attributes := #[] }, { accessFlags := 9, nameIndex := 26, descriptorIndex := 27, attributes := #[] }] 49 2 #[] #[])
  fields := #[]
  methods := #[k1m0, k1m1]
  instanceTypes := #[]
  staticTypes := #[]
  resolved := Array.replicate 31 none
  statics := none }

def pool2 : Array CpInfo := pool [(1, .methodref 2 3), (0, .class_ 4), (0, .nameAndType 5 6), (0, u "java/lang/Object"), (0, u "<init>"), (0, u "()V"), (0, .class_ 8), (0, u "java/lang/Record")] 13

def k2c0 : Code := { maxStack := 1, maxLocals := 1, code := jdk_30_method_1_code, exceptionTable := #[], attributes := #[] }
def k2m0 : Method := { name := "<init>", desc := "()V", sig := { parameters := [], returnType := none }, accessFlags := 4, code := some k2c0 }
/-- java/lang/Record -/
def k2 : Class := { plain "java/lang/Record" (some 0) with
  accessFlags := 1057
  interfaces := #[]
  cf := some (fileOf pool2 7 #[] #[{ accessFlags := 4, nameIndex := 5, descriptorIndex := 6, attributes := #[] }] 1057 2 #[] #[])
  fields := #[]
  methods := #[k2m0]
  instanceTypes := #[]
  staticTypes := #[]
  resolved := Array.replicate 22 none
  statics := none }

def pool3 : Array CpInfo := pool [(1, .methodref 2 3), (0, .class_ 4), (0, .nameAndType 5 6), (0, u "java/lang/Record"), (0, u "<init>"), (0, u "()V"), (0, .fieldref 8 9), (0, .class_ 10), (0, .nameAndType 11 12), (0, u "com/example/keystripe/keystripe/store/PrefixWindow"), (0, u "start"), (0, u "J"), (0, .fieldref 8 14), (0, .nameAndType 15 12), (0, u "width"), (16, u "(JJ)V"), (2, u "FIRST"), (0, u "Lcom/example/keystripe/keystripe/store/PrefixWindow;"), (19, .long 2), (45, u "WIDEST"), (6, u "isFilled"), (0, u "(I)Z")] 35

def k3c0 : Code := { maxStack := 3, maxLocals := 5, code := prog_27_method_1_code, exceptionTable := #[], attributes := #[] }
def k3m0 : Method := { name := "<init>", desc := "(JJ)V", sig := { parameters := [.long, .long], returnType := none }, accessFlags := 0, code := some k3c0 }
def k3c1 : Code := { maxStack := 4, maxLocals := 2, code := prog_27_method_6_code, exceptionTable := #[], attributes := #[] }
def k3m1 : Method := { name := "isFilled", desc := "(I)Z", sig := { parameters := [.int], returnType := some .boolean }, accessFlags := 0, code := some k3c1 }
/-- com/example/keystripe/keystripe/store/PrefixWindow -/
def k3 : Class := { plain "com/example/keystripe/keystripe/store/PrefixWindow" (some 2) with
  accessFlags := 48
  interfaces := #[]
  cf := some (fileOf pool3 8 #[] #[{ accessFlags := 0, nameIndex := 5, descriptorIndex := 32, attributes := #[] }, { accessFlags := 0, nameIndex := 109, descriptorIndex := 110, attributes := #[] }] 48 2 #[] #[{ accessFlags := 18, nameIndex := 11, descriptorIndex := 12, attributes := #[] }, { accessFlags := 18, nameIndex := 15, descriptorIndex := 12, attributes := #[] }, { accessFlags := 26, nameIndex := 102, descriptorIndex := 12, attributes := #[] }, { accessFlags := 24, nameIndex := 35, descriptorIndex := 36, attributes := #[] }])
  fields := #[{ name := "start", type := .long, accessFlags := 18, slot := 0, constantValue := 0 }, { name := "width", type := .long, accessFlags := 18, slot := 1, constantValue := 0 }, { name := "WIDEST", type := .long, accessFlags := 26, slot := 0, constantValue := 0 }, { name := "FIRST", type := (.object "com/example/keystripe/keystripe/store/PrefixWindow"), accessFlags := 24, slot := 1, constantValue := 0 }]
  methods := #[k3m0, k3m1]
  instanceTypes := #[.long, .long]
  staticTypes := #[.long, (.object "com/example/keystripe/keystripe/store/PrefixWindow")]
  resolved := Array.replicate 146 none
  statics := none }

def pool4 : Array CpInfo := pool [(1, u "java/lang/Cloneable"), (0, .class_ 1), (0, u "java/lang/Object"), (0, .class_ 3)] 3

/-- java/lang/Cloneable -/
def k4 : Class := { plain "java/lang/Cloneable" (some 0) with
  accessFlags := 1537
  interfaces := #[]
  cf := some (fileOf pool4 2 #[] #[] 1537 4 #[] #[])
  fields := #[]
  methods := #[]
  instanceTypes := #[]
  staticTypes := #[]
  resolved := Array.replicate 8 none
  statics := none }

def pool5 : Array CpInfo := pool [(1, u "java/io/Serializable"), (0, .class_ 1), (0, u "java/lang/Object"), (0, .class_ 3)] 3

/-- java/io/Serializable -/
def k5 : Class := { plain "java/io/Serializable" (some 0) with
  accessFlags := 1537
  interfaces := #[]
  cf := some (fileOf pool5 2 #[] #[] 1537 4 #[] #[])
  fields := #[]
  methods := #[]
  instanceTypes := #[]
  staticTypes := #[]
  resolved := Array.replicate 8 none
  statics := none }

/-- the primitive byte -/
def k6 : Class := { plain "byte" none with kind := .primitive 'B', accessFlags := 0x411 }
/-- [B -/
def k7 : Class := { plain "[B" (some 0) with kind := .array 6 .byte, interfaces := #[4, 5], accessFlags := 1041 }

/-- the primitive int -/
def k8 : Class := { plain "int" none with kind := .primitive 'I', accessFlags := 0x411 }
/-- [I -/
def k9 : Class := { plain "[I" (some 0) with kind := .array 8 .int, interfaces := #[4, 5], accessFlags := 1041 }

def heap : Heap := #[]
def classes : Array Class := #[k0, k1, k2, k3, k4, k5, k6, k7, k8, k9]
def interned : List (Array UInt16 × Addr) := []
def slotsUsed : Nat := 0
def theMethod : MethodId := ⟨1, 1⟩
def args0 : Array Value := #[.long 5, .long 7, .int 3, .int 1]
def aboutOver (below : List Frame) : State where
  vm := { classes := classes, interned := interned.toArray }
  heap := heap
  slotsUsed := slotsUsed
  threads := #[{ frames := .invoking theMethod args0 :: below }]
def below0 : List Frame := [.native { method := ⟨0, 0⟩, args := #[] }]
def about1 : State := aboutOver below0
def p0 : Program := .bare "" "" ""
def e0 : Env := launch0.env 0 0 0
theorem w_frames : about1.frames = Frame.invoking theMethod args0 :: below0 := rfl
set_option maxRecDepth 65536 in
theorem w_args : argsFit about1.vm theMethod args0 = true := by decide +kernel
set_option maxRecDepth 65536 in
theorem w_heap : heapFits about1 = true := by decide +kernel
set_option maxRecDepth 65536 in
theorem w_runnable : about1.curStatus? = some .runnable := by decide +kernel
set_option maxRecDepth 65536 in
theorem w_alone : about1.alone = true := by decide +kernel
set_option maxRecDepth 65536 in
theorem w_named : about1.methodNamed? x = some theMethod := by decide +kernel
set_option maxRecDepth 65536 in
theorem w_hears : about1.hears theMethod below0 = true := by decide +kernel
set_option maxRecDepth 65536 in
theorem w_ripe : about1.ripe theMethod args0 below0 = true := by decide +kernel
theorem w_running : about1.status = .running := rfl
set_option maxRecDepth 65536 in
theorem w_room : about1.hasRoom e0.platform room_1 = true :=
  launch0.hasRoom_least _ room_1 (by decide +kernel) (by decide +kernel) (by decide +kernel) (by decide +kernel) (by decide +kernel) (by decide +kernel)
theorem allAtoms_all (ts : List Jvm.Cond) (a : Array Jvm.Value) (st : Jvm.State) : (allAtoms ts).before a st = ts.all (fun c => c.before a st) := by
  induction ts with
  | nil => rfl
  | cons c t ih =>
    show (Jvm.Cond.and c (allAtoms t)).before a st = _
    rw [Jvm.Cond.before_and, ih, List.all_cons]
def words1 : List Jvm.Cond := Jvm.Cond.code x code maxLocals ret :: tables_1
/-- a 'code' word, met by the world's own term for the bytes: nothing is compared byte by byte -/
theorem code_word {y : MethodName} {bytes : ByteArray} {mx : Nat} {rt : Option FieldType} {a : Array Value} {s : State} {m : MethodId} {meth : Method} {c : Code} (h1 : s.methodNamed? y = some m) (h2 : s.vm.method? m = some meth) (h3 : meth.code = some c) (h4 : c.code = bytes)
    (h5 : (c.maxLocals == mx && c.exceptionTable.isEmpty && decide (c.maxStack ≤ mostOperands) && decide (meth.sig.returnType = rt) && !meth.locks && decide (parseMethodDescriptor y.desc = some meth.sig)) = true) : (Jvm.Cond.code y bytes mx rt).before a s = true := by
  simp only [Bool.and_eq_true, beq_iff_eq, Bool.not_eq_true', decide_eq_true_eq] at h5
  obtain ⟨⟨⟨⟨⟨g1, g2⟩, g3⟩, g4⟩, g5⟩, g6⟩ := h5
  simp [Cond.before, Cond.holds, Cond.value, h1, h2, h3, h4, g1, g2, g3, g4, g5, g6]
def isCode : Jvm.Cond → Bool
  | .code _ _ _ _ => true
  | _ => false
theorem all_split {L : List Jvm.Cond} {P : Jvm.Cond → Bool} (h1 : L.all (fun c => isCode c || P c) = true) (h2 : ∀ c ∈ L.filter isCode, P c = true) : L.all P = true := by
  refine List.all_eq_true.mpr fun c hc => ?_
  have h := List.all_eq_true.mp h1 c hc
  rcases Bool.eq_false_or_eq_true (isCode c) with hi | hi
  · exact h2 c (List.mem_filter.mpr ⟨hc, hi⟩)
  · simpa [hi] using h
set_option maxRecDepth 65536 in
theorem w_c0 : (Jvm.Cond.code x code maxLocals ret).before args0 about1 = true := code_word (m := ⟨1, 1⟩) (meth := k1m1) (c := k1c1) (by decide +kernel) rfl rfl rfl (by decide +kernel)
set_option maxRecDepth 65536 in
theorem w_c1 : (Jvm.Cond.code ({ cls := "com/example/keystripe/keystripe/store/PrefixWindow", name := "<init>", desc := "(JJ)V" } : Jvm.MethodName) prog_27_method_1_code (5 : Nat) (Option.none : Option Jvm.ClassFile.FieldType)).before args0 about1 = true := code_word (m := ⟨3, 0⟩) (meth := k3m0) (c := k3c0) (by decide +kernel) rfl rfl rfl (by decide +kernel)
set_option maxRecDepth 65536 in
theorem w_c2 : (Jvm.Cond.code ({ cls := "java/lang/Record", name := "<init>", desc := "()V" } : Jvm.MethodName) jdk_30_method_1_code (1 : Nat) (Option.none : Option Jvm.ClassFile.FieldType)).before args0 about1 = true := code_word (m := ⟨2, 0⟩) (meth := k2m0) (c := k2c0) (by decide +kernel) rfl rfl rfl (by decide +kernel)
set_option maxRecDepth 65536 in
theorem w_c3 : (Jvm.Cond.code ({ cls := "java/lang/Object", name := "<init>", desc := "()V" } : Jvm.MethodName) object_method_1_code (1 : Nat) (Option.none : Option Jvm.ClassFile.FieldType)).before args0 about1 = true := code_word (m := ⟨0, 0⟩) (meth := k0m0) (c := k0c0) (by decide +kernel) rfl rfl rfl (by decide +kernel)
set_option maxRecDepth 65536 in
theorem w_c4 : (Jvm.Cond.code ({ cls := "com/example/keystripe/keystripe/store/PrefixWindow", name := "isFilled", desc := "(I)Z" } : Jvm.MethodName) prog_27_method_6_code (2 : Nat) (Option.some Jvm.ClassFile.FieldType.boolean)).before args0 about1 = true := code_word (m := ⟨3, 1⟩) (meth := k3m1) (c := k3c1) (by decide +kernel) rfl rfl rfl (by decide +kernel)
def codes1 : List Jvm.Cond := [Jvm.Cond.code x code maxLocals ret, Jvm.Cond.code ({ cls := "com/example/keystripe/keystripe/store/PrefixWindow", name := "<init>", desc := "(JJ)V" } : Jvm.MethodName) prog_27_method_1_code (5 : Nat) (Option.none : Option Jvm.ClassFile.FieldType), Jvm.Cond.code ({ cls := "java/lang/Record", name := "<init>", desc := "()V" } : Jvm.MethodName) jdk_30_method_1_code (1 : Nat) (Option.none : Option Jvm.ClassFile.FieldType), Jvm.Cond.code ({ cls := "java/lang/Object", name := "<init>", desc := "()V" } : Jvm.MethodName) object_method_1_code (1 : Nat) (Option.none : Option Jvm.ClassFile.FieldType), Jvm.Cond.code ({ cls := "com/example/keystripe/keystripe/store/PrefixWindow", name := "isFilled", desc := "(I)Z" } : Jvm.MethodName) prog_27_method_6_code (2 : Nat) (Option.some Jvm.ClassFile.FieldType.boolean)]
set_option maxRecDepth 65536 in
theorem codes_eq : words1.filter isCode = codes1 := rfl
theorem w_codes : ∀ c ∈ words1.filter isCode, c.before args0 about1 = true := by
  rw [codes_eq]
  intro c hc
  simp only [codes1, List.mem_cons, List.not_mem_nil, or_false] at hc
  rcases hc with rfl | rfl | rfl | rfl | rfl
  · exact w_c0
  · exact w_c1
  · exact w_c2
  · exact w_c3
  · exact w_c4
set_option maxRecDepth 65536 in
theorem w_t1 : (words1.take 24).all (fun c => isCode c || c.before args0 about1) = true := by decide +kernel
set_option maxRecDepth 65536 in
theorem w_t2 : (words1.drop 24).all (fun c => isCode c || c.before args0 about1) = true := by decide +kernel
theorem w_tables : (allAtoms (Jvm.Cond.code x code maxLocals ret :: tables_1)).before args0 about1 = true := by
  rw [allAtoms_all]
  show words1.all (fun c => c.before args0 about1) = true
  refine all_split ?_ w_codes
  rw [← List.take_append_drop 24 words1, List.all_append, w_t1, w_t2]
  rfl
set_option maxRecDepth 65536 in
theorem w_case : (Jvm.Cond.and given_1 narrow_1).before args0 about1 = true := by decide +kernel
theorem w_applies : (headSpec (Jvm.Cond.code x code maxLocals ret :: tables_1) room_1).applies x e0.platform about1 = true :=
  (Spec.applies_iff w_frames).mpr ⟨w_running, w_runnable, w_alone, w_named, w_hears, w_ripe, w_room, w_tables⟩
theorem atStart : AtStart classFile x code maxLocals ret World_1 tables_1 room_1 Calls_1 rest_1 Pre_1 launch0 p0 e0 about1 theMethod args0 below0 :=
  ⟨lists_1, trivial, launch0.admits_env _ _ _, launch0.least_env, fairChoices_fair.cas, fairChoices_fair.clock, w_frames, w_args, w_heap, w_applies, trivial, trivial, w_case⟩
end start1
theorem witness_1 : WitnessClaimed_1 := ⟨start1.p0, start1.e0, start1.about1, start1.theMethod, start1.args0, start1.below0, start1.atStart⟩
end Jvm.Pilot.@@N@@
