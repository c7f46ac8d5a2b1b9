import JvmDerived
import JvmDerived.Pilot.@@N@@Statement
import JvmDerived.Pilot.@@N@@Code
set_option linter.unusedVariables false
set_option linter.unusedSimpArgs false
namespace Jvm.RoadKit
open Sem ClassFile Op Lib Jvm.Stand Jvm.Free Jvm.LawKit
section OwnKit
variable {p : Program} {l : Launch} {e : Env} {R : Room} {s : State} {m : MethodId} {args : Array Value} {below : List Frame} {meth : Method} {c : Code} {T : State} {locs : List Loc} {cells slots : Nat} {Z : State} {a0 : Array Value} {Q : Option Value → Heap → List Loc → Prop} {kc ks : Nat}
/-- the run from A ends, returns, and leaves what Q says -/
def own_Fin (p : Program) (e : Env) (below : List Frame) (s : State) (Q : Option Value → Heap → List Loc → Prop) (kc ks : Nat) (A : State) : Prop :=
  ∃ s₂ o, Steps p.tables e below A s₂ ∧ s₂.status = .running ∧ Ended s₂ below o ∧ ∃ v L, o = .returned v ∧ Q v s₂.heap L ∧ FrameEnd s o s₂ L kc ks
theorem own_go {A A' : State} (h : ∀ t, Steps p.tables e below A' t → Steps p.tables e below A t) (k : own_Fin p e below s Q kc ks A') : own_Fin p e below s Q kc ks A := by
  obtain ⟨s₂, o, h1, r⟩ := k
  exact ⟨s₂, o, h _ h1, r⟩
theorem own_to {A A' : State} (h : Steps p.tables e below A A') (k : own_Fin p e below s Q kc ks A') : own_Fin p e below s Q kc ks A := own_go (fun _ q => h.trans q) k
theorem own_mono {A : State} {Q' : Option Value → Heap → List Loc → Prop} (k : own_Fin p e below s Q kc ks A) (q : ∀ v h L, Q v h L → Q' v h L) : own_Fin p e below s Q' kc ks A := by
  obtain ⟨s₂, o, h1, h2, h3, v, L, h4, h5, h6⟩ := k
  exact ⟨s₂, o, h1, h2, h3, v, L, h4, q _ _ _ h5, h6⟩
/-- what a body knows of itself -/
def own_Ctx (p : Program) (s : State) (m : MethodId) (meth : Method) (c : Code) (Z : State) (a0 : Array Value) (tb : List Cond) (y : MethodName) (bytes : ByteArray) (maxL : Nat) (ret : Option FieldType) : Prop :=
  p.tables.exec = Jvm.exec ∧ c.code = bytes ∧ c.maxLocals = maxL ∧ Z.Warmed39 s.vm ∧ s.vm.findClass y.cls = some m.cls ∧ meth.name = y.name ∧ meth.sig.returnType = ret ∧ meth.locks = false ∧ (∀ d ∈ tb, d.before a0 Z = true)
/-- a contract -/
def own_Met (l : Launch) (Z : State) (y : MethodName) (bytes : ByteArray) (maxL : Nat) (ret : Option FieldType) (ws : List Cond) (rm : Room) (as' : Array Value) (h0 : Heap) (Q : Option Value → Heap → List Loc → Prop) : Prop :=
  MetFree l y (head1 (Cond.code y bytes maxL ret :: ws) rm) (fun a U => a = as' ∧ Z.Warmed39 U.vm ∧ U.heap = h0) (fun _ _ _ _ _ => True) (fun _ U o U' => ∃ v L, o = .returned v ∧ Q v U'.heap L ∧ FrameEnd U o U' L rm.cells rm.slots)
theorem own_enter {y : MethodName} {bytes : ByteArray} {maxL : Nat} {ret : Option FieldType} {rm : Room} {as' : Array Value} {h0 : Heap} {ws tb : List Cond} {Ls : Array Slot} (hp : plainFor y = true) (hef : ∀ m, entryFrame m as' maxL = mkF m 0 Ls []) (hw : ∀ d ∈ tb, d.before a0 Z = true)
    (body : ∀ (p : Program) (e : Env) (s : State) (m : MethodId) (below : List Frame) (meth : Method) (c : Code) (T : State), Stand p l e rm s m as' below meth c T [] 0 0 → own_Ctx p s m meth c Z a0 tb y bytes maxL ret → T.heap = h0 → own_Fin p e below s Q rm.cells rm.slots (T.setTop (mkF m 0 Ls []))) :
    own_Met l Z y bytes maxL ret ws rm as' h0 Q := by
  refine MetFree.of_bodySF hp hisR ?_
  intro p e s m args below meth c s₁ Bd hml0 hP hK
  obtain ⟨rfl, hZ, hh⟩ := hP
  have e0 : s₁.heap = h0 := by rw [← hh, Bd.state]; rfl
  obtain ⟨s₂, o, h1, r⟩ := body p e s m below meth c s₁ (Stand.of_body Bd) ⟨Bd.exec, Bd.bytes, hml0, hZ, findClass_of_methodNamed Bd.named, (name_of_methodNamed Bd.named Bd.method).1, Bd.returns, Bd.notSynchronized, hw⟩ e0
  exact ⟨s₂, o, castTop (hef m) h1, r⟩
/-- a return of a value -/
theorem own_ret (X : Stand p l e R s m args below meth c T locs cells slots) (hlk : meth.locks = false) (hx : p.tables.exec = Jvm.exec) {pc : Nat} {Ls : Array Slot} {w : Value} {t : FieldType} {i : Instr} {rest : List Value} (hret : meth.sig.returnType = some t) (hn : narrow t w = w)
    (hi : (i = .ireturn ∧ (t = .int ∨ t = .boolean ∨ t = .byte ∨ t = .char ∨ t = .short) ∧ ∃ z, w = .int z) ∨ (i = .lreturn ∧ t = .long ∧ ∃ z, w = .long z) ∨ (i = .dreturn ∧ t = .double ∧ ∃ z, w = .double z) ∨ (i = .freturn ∧ t = .float ∧ ∃ z, w = .float z) ∨ (i = .areturn ∧ t.isReference = true ∧ w.isRef = true))
    (hd : decode c.code pc = .ok (i, 1)) (hq : Q (some w) T.heap locs) (hc : cells ≤ kc) (hs : slots ≤ ks) : own_Fin p e below s Q kc ks (T.setTop (mkF m pc Ls (w :: rest))) := by
  obtain ⟨fs, hr, hrun, hended, hW, hsame⟩ := X.leave (v := some w) (fun h => by rw [hret] at h; cases h) hlk
  exact ⟨_, _, retOut X hx hret hn hi hd hr, hrun, hended, _, _, rfl, hq, ⟨_, rfl⟩, hW, hsame.mono hc hs⟩
/-- a return of a boolean, byte, char, short that may be narrowed -/
theorem own_retN (X : Stand p l e R s m args below meth c T locs cells slots) (hlk : meth.locks = false) (hx : p.tables.exec = Jvm.exec) {pc : Nat} {Ls : Array Slot} {z : Int32} {t : FieldType} {rest : List Value} (hret : meth.sig.returnType = some t) (ht : t = .boolean ∨ t = .byte ∨ t = .char ∨ t = .short)
    (hd : decode c.code pc = .ok (.ireturn, 1)) (hq : Q (some (.int (nar t z))) T.heap locs) (hc : cells ≤ kc) (hs : slots ≤ ks) : own_Fin p e below s Q kc ks (T.setTop (mkF m pc Ls (.int z :: rest))) := by
  obtain ⟨fs, hr, hrun, hended, hW, hsame⟩ := X.leave (v := some (.int (nar t z))) (fun h => by rw [hret] at h; cases h) hlk
  exact ⟨_, _, retN X hx hret ht hd hr, hrun, hended, _, _, rfl, hq, ⟨_, rfl⟩, hW, hsame.mono hc hs⟩
/-- a return of nothing -/
theorem own_ret0 (X : Stand p l e R s m args below meth c T locs cells slots) (hlk : meth.locks = false) (hx : p.tables.exec = Jvm.exec) {pc : Nat} {Ls : Array Slot} (hret : meth.sig.returnType = none)
    (hd : decode c.code pc = .ok (.return_, 1)) (hq : Q none T.heap locs) (hc : cells ≤ kc) (hs : slots ≤ ks) : own_Fin p e below s Q kc ks (T.setTop (mkF m pc Ls [])) := by
  obtain ⟨fs, hr, hrun, hended, hW, hsame⟩ := X.leave (v := none) (fun _ => rfl) hlk
  exact ⟨_, _, X.returnOut hx hret hd hr, hrun, hended, _, _, rfl, hq, ⟨_, rfl⟩, hW, hsame.mono hc hs⟩
/-- calls by contract -/
theorem own_callS (X : Stand p l e R s m args below meth c T locs cells slots) (hx : p.tables.exec = Jvm.exec) (hZ : Z.Warmed39 s.vm) {h : Heap} (eT : T.heap = h) {own : String} {index : Nat} {y : MethodName} {bytes : ByteArray} {maxL : Nat} {ret : Option FieldType} (hown : s.vm.findClass own = some m.cls)
    (w1 : (Cond.methodLink own index y).before a0 Z = true) (w2 : (Cond.static y).before a0 Z = true) (w3 : (Cond.initialized y.cls).before a0 Z = true) (w4 : (Cond.code y bytes maxL ret).before a0 Z = true) (hy : y.cls ≠ "java/lang/invoke/MethodHandle" ∧ y.cls ≠ "java/lang/invoke/VarHandle")
    {rm : Room} {argsL rest : List Value} (hM : own_Met l Z y bytes maxL ret [] rm argsL.toArray h Q) (hf : rm.frames + 1 ≤ R.frames) (W : Nat) (hl : W + (maxL + 11) + rm.locals ≤ R.locals) (hcR : cells + rm.cells ≤ R.cells) (hsR : slots + rm.slots ≤ R.slots)
    {g : JFrame} (hg : g.method = m) (hsize : g.locals.size = c.maxLocals) (hlen : ∀ sig, parseMethodDescriptor y.desc = some sig → argsL.length = sig.parameters.length) (hstack : g.stack = argsL.reverse ++ rest) (hW : 2 * g.monitorRoom + (rest.map fun v => v.category).sum ≤ W) (hdg : decode c.code g.pc = .ok (.invokestatic index, 3)) :
    ∃ v T' L, Stand p l e R s m args below meth c T' (locs ++ L) (cells + rm.cells) (slots + rm.slots) ∧ Q v T'.heap L ∧ ∀ target, Steps p.tables e below (T'.setTop { g with pc := g.pc + 3, stack := v.toList ++ rest }) target → Steps p.tables e below (T.setTop g) target := by
  obtain ⟨v, _, ⟨T', L', k', n'⟩, -, X', ⟨L, hQ, l1, y1, z1⟩, st⟩ := Jvm.LawKit.callS X hx hown (mvT hZ w1) (mvT hZ w2) (mvT hZ w3) (mvT hZ w4) hy (backOf (W := W) hM hZ w4 w3 hf hl) hg hsize hlen hstack hW hdg (fun _ _ => ⟨rfl, eT, hcR, hsR⟩)
  dsimp only [Pt.U, Pt.locs, Pt.cells, Pt.slots] at X' l1 y1 z1 st hQ
  subst l1 y1 z1
  exact ⟨v, T', L, X', hQ, st⟩
/-- a result, and nothing else -/
def own_QP (r : Option Value) (h0 : Heap) (v : Option Value) (h : Heap) (L : List Loc) : Prop := v = r ∧ L = [] ∧ h = h0
theorem own_callP (X : Stand p l e R s m args below meth c T locs cells slots) (hx : p.tables.exec = Jvm.exec) (hZ : Z.Warmed39 s.vm) {h : Heap} (eT : T.heap = h) {own : String} {index : Nat} {y : MethodName} {bytes : ByteArray} {maxL : Nat} {ret : Option FieldType} (hown : s.vm.findClass own = some m.cls)
    (w1 : (Cond.methodLink own index y).before a0 Z = true) (w2 : (Cond.static y).before a0 Z = true) (w3 : (Cond.initialized y.cls).before a0 Z = true) (w4 : (Cond.code y bytes maxL ret).before a0 Z = true) (hy : y.cls ≠ "java/lang/invoke/MethodHandle" ∧ y.cls ≠ "java/lang/invoke/VarHandle")
    {fr lo : Nat} {r : Option Value} {argsL rest : List Value} (hM : own_Met l Z y bytes maxL ret [] { frames := fr, cells := 0, slots := 0, locals := lo } argsL.toArray h (own_QP r h)) (hf : fr + 1 ≤ R.frames) (W : Nat) (hl : W + (maxL + 11) + lo ≤ R.locals) (hcR : cells ≤ R.cells) (hsR : slots ≤ R.slots)
    {g : JFrame} (hg : g.method = m) (hsize : g.locals.size = c.maxLocals) (hlen : ∀ sig, parseMethodDescriptor y.desc = some sig → argsL.length = sig.parameters.length) (hstack : g.stack = argsL.reverse ++ rest) (hW : 2 * g.monitorRoom + (rest.map fun v => v.category).sum ≤ W) (hdg : decode c.code g.pc = .ok (.invokestatic index, 3)) :
    ∃ T', Stand p l e R s m args below meth c T' locs cells slots ∧ T'.heap = h ∧ ∀ target, Steps p.tables e below (T'.setTop { g with pc := g.pc + 3, stack := r.toList ++ rest }) target → Steps p.tables e below (T.setTop g) target := by
  obtain ⟨v, T', L, X', ⟨rfl, rfl, e1⟩, st⟩ := own_callS X hx hZ eT hown w1 w2 w3 w4 hy hM hf W hl hcR hsR hg hsize hlen hstack hW hdg
  rw [List.append_nil] at X'
  exact ⟨T', X', e1, st⟩
theorem own_callI (X : Stand p l e R s m args below meth c T locs cells slots) (hx : p.tables.exec = Jvm.exec) (hZ : Z.Warmed39 s.vm) {h : Heap} (eT : T.heap = h) {own : String} {index : Nat} {y : MethodName} {bytes : ByteArray} {maxL : Nat} (hy1 : y.name = "<init>") (hown : s.vm.findClass own = some m.cls)
    (w1 : (Cond.methodLink own index y).before a0 Z = true) (w2 : (Cond.instanceMethod y).before a0 Z = true) (w3 : (Cond.initialized y.cls).before a0 Z = true) (w4 : (Cond.code y bytes maxL none).before a0 Z = true) (hy : y.cls ≠ "java/lang/invoke/MethodHandle" ∧ y.cls ≠ "java/lang/invoke/VarHandle")
    {rm : Room} {a : Addr} {argsL rest : List Value} (hM : own_Met l Z y bytes maxL none [] rm (.ref a :: argsL).toArray h Q) (hf : rm.frames + 1 ≤ R.frames) (W : Nat) (hl : W + (maxL + 11) + rm.locals ≤ R.locals) (hcR : cells + rm.cells ≤ R.cells) (hsR : slots + rm.slots ≤ R.slots)
    {g : JFrame} (hg : g.method = m) (hsize : g.locals.size = c.maxLocals) (hlen : ∀ sig, parseMethodDescriptor y.desc = some sig → argsL.length = sig.parameters.length) (hstack : g.stack = argsL.reverse ++ .ref a :: rest) (hW : 2 * g.monitorRoom + (rest.map fun v => v.category).sum ≤ W) (hdg : decode c.code g.pc = .ok (.invokespecial index, 3)) :
    ∃ v T' L, Stand p l e R s m args below meth c T' (locs ++ L) (cells + rm.cells) (slots + rm.slots) ∧ Q v T'.heap L ∧ ∀ target, Steps p.tables e below (T'.setTop { g with pc := g.pc + 3, stack := v.toList ++ rest }) target → Steps p.tables e below (T.setTop g) target := by
  obtain ⟨v, _, ⟨T', L', k', n'⟩, -, X', ⟨L, hQ, l1, y1, z1⟩, st⟩ := X.specialBack hx hy1 hown (mvT hZ w1) (mvT hZ w2) (mvT hZ w4) hy (backOf (W := W) hM hZ w4 w3 hf hl) hg hsize (Steps.refl _) hlen hstack hW hdg (fun _ _ => ⟨rfl, eT, hcR, hsR⟩)
  dsimp only [Pt.U, Pt.locs, Pt.cells, Pt.slots] at X' l1 y1 z1 st hQ
  subst l1 y1 z1
  exact ⟨v, T', L, X', hQ, fun _ q => st.trans q⟩
theorem own_callIP (X : Stand p l e R s m args below meth c T locs cells slots) (hx : p.tables.exec = Jvm.exec) (hZ : Z.Warmed39 s.vm) {h : Heap} (eT : T.heap = h) {own : String} {index : Nat} {y : MethodName} {bytes : ByteArray} {maxL : Nat} (hy1 : y.name = "<init>") (hown : s.vm.findClass own = some m.cls)
    (w1 : (Cond.methodLink own index y).before a0 Z = true) (w2 : (Cond.instanceMethod y).before a0 Z = true) (w3 : (Cond.initialized y.cls).before a0 Z = true) (w4 : (Cond.code y bytes maxL none).before a0 Z = true) (hy : y.cls ≠ "java/lang/invoke/MethodHandle" ∧ y.cls ≠ "java/lang/invoke/VarHandle")
    {fr lo : Nat} {a : Addr} {argsL rest : List Value} (hM : own_Met l Z y bytes maxL none [] { frames := fr, cells := 0, slots := 0, locals := lo } (.ref a :: argsL).toArray h (own_QP none h)) (hf : fr + 1 ≤ R.frames) (W : Nat) (hl : W + (maxL + 11) + lo ≤ R.locals) (hcR : cells ≤ R.cells) (hsR : slots ≤ R.slots)
    {g : JFrame} (hg : g.method = m) (hsize : g.locals.size = c.maxLocals) (hlen : ∀ sig, parseMethodDescriptor y.desc = some sig → argsL.length = sig.parameters.length) (hstack : g.stack = argsL.reverse ++ .ref a :: rest) (hW : 2 * g.monitorRoom + (rest.map fun v => v.category).sum ≤ W) (hdg : decode c.code g.pc = .ok (.invokespecial index, 3)) :
    ∃ T', Stand p l e R s m args below meth c T' locs cells slots ∧ T'.heap = h ∧ ∀ target, Steps p.tables e below (T'.setTop { g with pc := g.pc + 3, stack := rest }) target → Steps p.tables e below (T.setTop g) target := by
  obtain ⟨v, T', L, X', ⟨rfl, rfl, e1⟩, st⟩ := own_callI X hx hZ eT hy1 hown w1 w2 w3 w4 hy hM hf W hl hcR hsR hg hsize hlen hstack hW hdg
  rw [List.append_nil] at X'
  exact ⟨T', X', e1, st⟩
theorem own_callV (X : Stand p l e R s m args below meth c T locs cells slots) (hx : p.tables.exec = Jvm.exec) (hZ : Z.Warmed39 s.vm) {h : Heap} (eT : T.heap = h) {own C : String} {index : Nat} {y : MethodName} {bytes : ByteArray} {maxL : Nat} {ret : Option FieldType} (hown : s.vm.findClass own = some m.cls)
    (w1 : (Cond.methodLink own index y).before a0 Z = true) (wd : (Cond.declares y).before a0 Z = true) (ws : (Cond.selects C y y).before a0 Z = true) (w2 : (Cond.instanceMethod y).before a0 Z = true) (w3 : (Cond.initialized y.cls).before a0 Z = true) (w4 : (Cond.code y bytes maxL ret).before a0 Z = true) (hy : y.cls ≠ "java/lang/invoke/MethodHandle" ∧ y.cls ≠ "java/lang/invoke/VarHandle")
    {rm : Room} {a : Addr} (hE : Exa Z h a C) {argsL rest : List Value} (hM : own_Met l Z y bytes maxL ret [] rm (.ref a :: argsL).toArray h Q) (hf : rm.frames + 1 ≤ R.frames) (W : Nat) (hl : W + (maxL + 11) + rm.locals ≤ R.locals) (hcR : cells + rm.cells ≤ R.cells) (hsR : slots + rm.slots ≤ R.slots)
    {g : JFrame} (hg : g.method = m) (hsize : g.locals.size = c.maxLocals) (hlen : ∀ sig, parseMethodDescriptor y.desc = some sig → argsL.length = sig.parameters.length) (hstack : g.stack = argsL.reverse ++ .ref a :: rest) (hW : 2 * g.monitorRoom + (rest.map fun v => v.category).sum ≤ W) (hdg : decode c.code g.pc = .ok (.invokevirtual index, 3)) :
    ∃ v T' L, Stand p l e R s m args below meth c T' (locs ++ L) (cells + rm.cells) (slots + rm.slots) ∧ Q v T'.heap L ∧ ∀ target, Steps p.tables e below (T'.setTop { g with pc := g.pc + 3, stack := v.toList ++ rest }) target → Steps p.tables e below (T.setTop g) target := by
  obtain ⟨cq, kq, qa, qb, qc⟩ := isOf hZ eT hE
  obtain ⟨v, _, ⟨T', L', k', n'⟩, -, X', ⟨L, hQ, l1, y1, z1⟩, st⟩ := X.virtualBack hx hown (mvT hZ w1) (mvT hZ wd) (notFace_of_selects (args := #[]) (mvT hZ ws)) (mvT hZ ws) (mvT hZ w2) hy (backOf (W := W) hM hZ w4 w3 hf hl) qa qc hg hsize (Steps.refl _) hlen hstack hW hdg (fun _ _ => ⟨rfl, eT, hcR, hsR⟩)
  dsimp only [Pt.U, Pt.locs, Pt.cells, Pt.slots] at X' l1 y1 z1 st hQ
  subst l1 y1 z1
  exact ⟨v, T', L, X', hQ, fun _ q => st.trans q⟩
/-- a virtual call that only reads -/
theorem own_callVP (X : Stand p l e R s m args below meth c T locs cells slots) (hx : p.tables.exec = Jvm.exec) (hZ : Z.Warmed39 s.vm) {h : Heap} (eT : T.heap = h) {own C : String} {index : Nat} {y : MethodName} {bytes : ByteArray} {maxL : Nat} {ret : Option FieldType} (hown : s.vm.findClass own = some m.cls)
    (w1 : (Cond.methodLink own index y).before a0 Z = true) (wd : (Cond.declares y).before a0 Z = true) (ws : (Cond.selects C y y).before a0 Z = true) (w2 : (Cond.instanceMethod y).before a0 Z = true) (w3 : (Cond.initialized y.cls).before a0 Z = true) (w4 : (Cond.code y bytes maxL ret).before a0 Z = true) (hy : y.cls ≠ "java/lang/invoke/MethodHandle" ∧ y.cls ≠ "java/lang/invoke/VarHandle")
    {fr lo : Nat} {r : Option Value} {a : Addr} (hE : Exa Z h a C) {argsL rest : List Value} (hM : own_Met l Z y bytes maxL ret [] { frames := fr, cells := 0, slots := 0, locals := lo } (.ref a :: argsL).toArray h (own_QP r h)) (hf : fr + 1 ≤ R.frames) (W : Nat) (hl : W + (maxL + 11) + lo ≤ R.locals) (hcR : cells ≤ R.cells) (hsR : slots ≤ R.slots)
    {g : JFrame} (hg : g.method = m) (hsize : g.locals.size = c.maxLocals) (hlen : ∀ sig, parseMethodDescriptor y.desc = some sig → argsL.length = sig.parameters.length) (hstack : g.stack = argsL.reverse ++ .ref a :: rest) (hW : 2 * g.monitorRoom + (rest.map fun v => v.category).sum ≤ W) (hdg : decode c.code g.pc = .ok (.invokevirtual index, 3)) :
    ∃ T', Stand p l e R s m args below meth c T' locs cells slots ∧ T'.heap = h ∧ ∀ target, Steps p.tables e below (T'.setTop { g with pc := g.pc + 3, stack := r.toList ++ rest }) target → Steps p.tables e below (T.setTop g) target := by
  obtain ⟨v, T', L, X', ⟨rfl, rfl, e1⟩, st⟩ := own_callV X hx hZ eT hown w1 wd ws w2 w3 w4 hy hE hM hf W hl hcR hsR hg hsize hlen hstack hW hdg
  rw [List.append_nil] at X'
  exact ⟨T', X', e1, st⟩
/-- an array of ints or bytes, its elements by a function -/
def own_A (Z : State) (h : Heap) (a : Addr) (ty : FieldType) (z : Int32) (f : Int32 → Int32) : Prop :=
  ∃ cl : Cell, Arr Z h a cl ty ∧ cl.slots.size = z.toNatClampNeg ∧ ¬ z < 0 ∧ ∀ j : Int32, ¬ j < 0 → j < z → cl.slots[j.toNatClampNeg]? = some (.int (f j))
section A
variable {h h' : Heap} {a b : Addr} {ty : FieldType} {z : Int32} {f : Int32 → Int32} {ws : List Addr} {sl : Nat} {v : Value}
theorem own_A.lt (F : own_A Z h a ty z f) : a < h.size := by obtain ⟨cl, A, -⟩ := F; exact A.lt
theorem own_A.ext (F : own_A Z h a ty z f) (E : Ext h h') : own_A Z h' a ty z f := by obtain ⟨cl, A, r⟩ := F; exact ⟨cl, A.ext E, r⟩
theorem own_A.other (F : own_A Z h a ty z f) (W : Wr h h' b sl v) (q : a ≠ b) : own_A Z h' a ty z f := by obtain ⟨cl, A, r⟩ := F; exact ⟨cl, A.other W q, r⟩
theorem own_A.keep (F : own_A Z h a ty z f) (K : Keep h h' ws) (q : a ∉ ws) : own_A Z h' a ty z f := by obtain ⟨cl, A, r⟩ := F; exact ⟨cl, ⟨K.2.1 a cl A.1 q, A.2⟩, r⟩
theorem own_A.cong (F : own_A Z h a ty z f) {f' : Int32 → Int32} (q : ∀ j : Int32, ¬ j < 0 → j < z → f j = f' j) : own_A Z h a ty z f' := by
  obtain ⟨cl, A, S, n, H⟩ := F
  exact ⟨cl, A, S, n, fun j h1 h2 => by rw [← q j h1 h2]; exact H j h1 h2⟩
theorem own_A.set (F : own_A Z h a ty z f) {j w : Int32} (h0 : ¬ j < 0) (hj : j < z) (W : Wr h h' a j.toNatClampNeg (.int w)) : own_A Z h' a ty z (fun i => if i = j then w else f i) := by
  obtain ⟨cl, A, S, n, H⟩ := F
  refine ⟨_, A.same W, by rw [sz_set]; exact S, n, fun i h1 h2 => ?_⟩
  by_cases q : i = j
  · rw [get_hit (inb_of S ⟨h0, hj⟩) q]; show _ = some (Value.int (if i = j then w else f i)); rw [if_pos q]
  · rw [get_miss h0 h1 q, H i h1 h2]; show _ = some (Value.int (if i = j then w else f i)); rw [if_neg q]
theorem own_A.new {k : ClassId} (A : Arr Z h a (newA k ty z) ty) (q : ¬ z < 0) (d : defaultValue ty = .int 0) : own_A Z h a ty z (fun _ => 0) :=
  ⟨_, A, sz_new _ _ _, q, fun j h1 h2 => by rw [get_new (by have := inb_of (sz_new k ty z) ⟨h1, h2⟩; rw [sz_new] at this; exact this), d]⟩
theorem own_A.nn (F : own_A Z h a ty z f) : ¬ z < 0 := by obtain ⟨cl, A, S, n, H⟩ := F; exact n
end A
theorem own_newI (X : Stand p l e R s m args below meth c T locs cells slots) (hx : p.tables.exec = Jvm.exec) (hZ : Z.Warmed39 s.vm) {h : Heap} (eT : T.heap = h) (w : (Cond.arrayClass .int).before a0 Z = true) {g : JFrame} (hg : g.method = m) (hd : decode c.code g.pc = .ok (.newarray .int, 2)) {n : Int32} {rest : List Value} (hs : g.stack = .int n :: rest)
    (hn : ¬ n < 0) (cap : Nat) (hcap : n.toNatClampNeg ≤ cap) (hb : cap * 8 ≤ 536870912) (hc : cells + 1 ≤ R.cells) (hl : slots + cap ≤ R.slots) :
    ∃ T' a, Stand p l e R s m args below meth c T' locs (cells + 1) (slots + cap) ∧ Ext h T'.heap ∧ a = h.size ∧ own_A Z T'.heap a .int n (fun _ => 0) ∧ ∀ target, Steps p.tables e below (T'.setTop { g with pc := g.pc + 2, stack := .ref a :: rest }) target → Steps p.tables e below (T.setTop g) target := by
  obtain ⟨T', h', cA, X', e1, E, A, st⟩ := newP (aty := .int) X hx hZ w eT hg hd hs hn hcap hb hc hl
  subst e1
  exact ⟨T', _, X', E, rfl, own_A.new A hn rfl, st⟩
theorem own_newB (X : Stand p l e R s m args below meth c T locs cells slots) (hx : p.tables.exec = Jvm.exec) (hZ : Z.Warmed39 s.vm) {h : Heap} (eT : T.heap = h) (w : (Cond.arrayClass .byte).before a0 Z = true) {g : JFrame} (hg : g.method = m) (hd : decode c.code g.pc = .ok (.newarray .byte, 2)) {n : Int32} {rest : List Value} (hs : g.stack = .int n :: rest)
    (hn : ¬ n < 0) (cap : Nat) (hcap : n.toNatClampNeg ≤ cap) (hb : cap * 8 ≤ 536870912) (hc : cells + 1 ≤ R.cells) (hl : slots + cap ≤ R.slots) :
    ∃ T' a, Stand p l e R s m args below meth c T' locs (cells + 1) (slots + cap) ∧ Ext h T'.heap ∧ a = h.size ∧ own_A Z T'.heap a .byte n (fun _ => 0) ∧ ∀ target, Steps p.tables e below (T'.setTop { g with pc := g.pc + 2, stack := .ref a :: rest }) target → Steps p.tables e below (T.setTop g) target := by
  obtain ⟨T', h', cA, X', e1, E, A, st⟩ := newP (aty := .byte) X hx hZ w eT hg hd hs hn hcap hb hc hl
  subst e1
  exact ⟨T', _, X', E, rfl, own_A.new A hn rfl, st⟩
theorem own_stI (X : Stand p l e R s m args below meth c T locs cells slots) (hx : p.tables.exec = Jvm.exec) (hZ : Z.Warmed39 s.vm) {h : Heap} (eT : T.heap = h) {a : Addr} {z : Int32} {f : Int32 → Int32} (F : own_A Z h a .int z f) {j x : Int32} (h0 : ¬ j < 0) (hj : j < z) {g : JFrame} (hg : g.method = m) {rest : List Value} (hs : g.stack = .int x :: .int j :: .ref a :: rest) (hd : decode c.code g.pc = .ok (.iastore, 1)) :
    ∃ T', Stand p l e R s m args below meth c T' (locs ++ [⟨a, j.toNatClampNeg⟩]) cells slots ∧ Wr h T'.heap a j.toNatClampNeg (.int x) ∧ own_A Z T'.heap a .int z (fun i => if i = j then x else f i) ∧ ∀ target, Steps p.tables e below (T'.setTop { g with pc := g.pc + 1, stack := rest }) target → Steps p.tables e below (T.setTop g) target := by
  obtain ⟨cl, A, S, n, H⟩ := id F
  obtain ⟨T', h', X', e1, W, st⟩ := stI X hx hZ eT A (inb_of S ⟨h0, hj⟩) hg hs hd
  subst e1
  exact ⟨T', X', W, F.set h0 hj W, st⟩
theorem own_stB (X : Stand p l e R s m args below meth c T locs cells slots) (hx : p.tables.exec = Jvm.exec) (hZ : Z.Warmed39 s.vm) {h : Heap} (eT : T.heap = h) {a : Addr} {z : Int32} {f : Int32 → Int32} (F : own_A Z h a .byte z f) {j x : Int32} (h0 : ¬ j < 0) (hj : j < z) {g : JFrame} (hg : g.method = m) {rest : List Value} (hs : g.stack = .int x :: .int j :: .ref a :: rest) (hd : decode c.code g.pc = .ok (.bastore, 1)) :
    ∃ T', Stand p l e R s m args below meth c T' (locs ++ [⟨a, j.toNatClampNeg⟩]) cells slots ∧ Wr h T'.heap a j.toNatClampNeg (.int x.toInt8.toInt32) ∧ own_A Z T'.heap a .byte z (fun i => if i = j then x.toInt8.toInt32 else f i) ∧ ∀ target, Steps p.tables e below (T'.setTop { g with pc := g.pc + 1, stack := rest }) target → Steps p.tables e below (T.setTop g) target := by
  obtain ⟨cl, A, S, n, H⟩ := id F
  obtain ⟨T', h', X', e1, W, st⟩ := stB X hx hZ eT A (inb_of S ⟨h0, hj⟩) hg hs hd
  subst e1
  exact ⟨T', X', W, F.set h0 hj W, st⟩
theorem own_ldI (X : Stand p l e R s m args below meth c T locs cells slots) (hx : p.tables.exec = Jvm.exec) (hZ : Z.Warmed39 s.vm) {h : Heap} (eT : T.heap = h) {a : Addr} {z : Int32} {f : Int32 → Int32} (F : own_A Z h a .int z f) {j : Int32} (h0 : ¬ j < 0) (hj : j < z) {g : JFrame} (hg : g.method = m) {rest : List Value} (hs : g.stack = .int j :: .ref a :: rest) (hd : decode c.code g.pc = .ok (.iaload, 1)) :
    ∀ target, Steps p.tables e below (T.setTop { g with pc := g.pc + 1, stack := .int (f j) :: rest }) target → Steps p.tables e below (T.setTop g) target := by
  obtain ⟨cl, A, S, n, H⟩ := id F
  exact fun target q => X.iaload hx (by rw [eT]; exact A.1) (State.isArrayOf_alike hZ.alike A.2.1) A.2.2 (inb_of S ⟨h0, hj⟩) (H j h0 hj) hg hs hd target q
theorem own_ldB (X : Stand p l e R s m args below meth c T locs cells slots) (hx : p.tables.exec = Jvm.exec) (hZ : Z.Warmed39 s.vm) {h : Heap} (eT : T.heap = h) {a : Addr} {z : Int32} {f : Int32 → Int32} (F : own_A Z h a .byte z f) {j : Int32} (h0 : ¬ j < 0) (hj : j < z) {g : JFrame} (hg : g.method = m) {rest : List Value} (hs : g.stack = .int j :: .ref a :: rest) (hd : decode c.code g.pc = .ok (.baload, 1)) :
    ∀ target, Steps p.tables e below (T.setTop { g with pc := g.pc + 1, stack := .int (f j) :: rest }) target → Steps p.tables e below (T.setTop g) target := by
  obtain ⟨cl, A, S, n, H⟩ := id F
  exact fun target q => X.baloadBytes hx (by rw [eT]; exact A.1) (State.isArrayOf_alike hZ.alike A.2.1) A.2.2 (inb_of S ⟨h0, hj⟩) (H j h0 hj) hg hs hd target q
theorem own_len (X : Stand p l e R s m args below meth c T locs cells slots) (hx : p.tables.exec = Jvm.exec) (hZ : Z.Warmed39 s.vm) {h : Heap} (eT : T.heap = h) {a : Addr} {ty : FieldType} {z : Int32} {f : Int32 → Int32} (F : own_A Z h a ty z f) {g : JFrame} (hg : g.method = m) {rest : List Value} (hs : g.stack = .ref a :: rest) (hd : decode c.code g.pc = .ok (.arraylength, 1)) :
    ∀ target, Steps p.tables e below (T.setTop { g with pc := g.pc + 1, stack := .int z :: rest }) target → Steps p.tables e below (T.setTop g) target := by
  obtain ⟨cl, A, S, n, H⟩ := id F
  exact fun target q => X.arraylength hx (by rw [eT]; exact A.1) (State.isArrayOf_alike hZ.alike A.2.1) hg hs hd target (by rw [len_of S n]; exact q)
/-- fields -/
theorem own_getF (X : Stand p l e R s m args below meth c T locs cells slots) (hx : p.tables.exec = Jvm.exec) (hZ : Z.Warmed39 s.vm) {h : Heap} (eT : T.heap = h) {own O n d : String} {index : Nat} (hown : s.vm.findClass own = some m.cls) (w : (Cond.fieldLink own index O n d).before a0 Z = true)
    {a : Addr} {v : Value} (F : Fld Z h a O n d v) {g : JFrame} (hg : g.method = m) {rest : List Value} (hs : g.stack = .ref a :: rest) (hd : decode c.code g.pc = .ok (.getfield index, 3)) :
    ∃ T', Stand p l e R s m args below meth c T' locs cells slots ∧ T'.heap = h ∧ ∀ target, Steps p.tables e below (T'.setTop { g with pc := g.pc + 3, stack := v :: rest }) target → Steps p.tables e below (T.setTop g) target :=
  getF X hx hZ hown (host := "") (Or.inl w) Via.refl eT F hg hs hd
theorem own_putF (X : Stand p l e R s m args below meth c T locs cells slots) (hx : p.tables.exec = Jvm.exec) (hZ : Z.Warmed39 s.vm) {h : Heap} (eT : T.heap = h) {own O n d C : String} {index kk : Nat} {ty : FieldType} (hown : s.vm.findClass own = some m.cls) (w : (Cond.fieldLink own index O n d).before a0 Z = true)
    {a : Addr} {v old : Value} (F : Fld Z h a O n d old) (E : Exa Z h a C) (L : (Cond.lays C O n d).before a0 Z = true ∨ ((Cond.laysFinal C O n d).before a0 Z = true ∧ own = O ∧ meth.name = "<init>")) (wi : (Cond.instantiable C kk).before a0 Z = true)
    (hty : parseFieldDescriptor d = some ty) (hn : narrow ty v = v) (hf : fits ty v = true) {g : JFrame} (hg : g.method = m) {rest : List Value} (hs : g.stack = v :: .ref a :: rest) (hd : decode c.code g.pc = .ok (.putfield index, 3)) :
    ∃ T', Stand p l e R s m args below meth c T' (locs ++ [⟨a, slotOf Z O n d⟩]) cells slots ∧ Wr h T'.heap a (slotOf Z O n d) v ∧ ∀ target, Steps p.tables e below (T'.setTop { g with pc := g.pc + 3, stack := rest }) target → Steps p.tables e below (T.setTop g) target := by
  obtain ⟨T', h', X', e1, W, st⟩ := putF X hx hZ hown (host := "") (Or.inl w) Via.refl eT F E L wi hty hn hf hg hs hd
  subst e1
  exact ⟨T', X', W, st⟩
/-- comparisons with literals, through Int -/
theorem own_lt {x k : Int32} (K : Int) (hk : k.toInt = K) (h : x.toInt < K) : x < k := by rw [Int32.lt_iff_toInt_lt, hk]; exact h
theorem own_nlt {x k : Int32} (K : Int) (hk : k.toInt = K) (h : K ≤ x.toInt) : ¬ x < k := by rw [Int32.lt_iff_toInt_lt, hk]; omega
theorem own_gt {x k : Int32} (K : Int) (hk : k.toInt = K) (h : K < x.toInt) : k < x := by rw [Int32.lt_iff_toInt_lt, hk]; exact h
theorem own_ngt {x k : Int32} (K : Int) (hk : k.toInt = K) (h : x.toInt ≤ K) : ¬ k < x := by rw [Int32.lt_iff_toInt_lt, hk]; omega
theorem own_ieq {x k : Int32} (K : Int) (hk : k.toInt = K) (h : x.toInt = K) : x = k := Int32.toInt_inj.mp (by rw [hk]; exact h)
theorem own_ineq {x k : Int32} (K : Int) (hk : k.toInt = K) (h : x.toInt < K ∨ K < x.toInt) : ¬ x = k := fun q => by subst q; omega
end OwnKit
end Jvm.RoadKit
namespace Jvm.RoadKit
open Sem ClassFile Op Lib Jvm.Stand Jvm.Free Jvm.LawKit
theorem own_mask31 (b : Int32) : 0 ≤ (b &&& 2147483647).toInt := by
  have h := c_mask b 2147483647 31 (by decide) (by decide)
  rw [h]; exact Int.emod_nonneg _ (by decide)
theorem own_modpos (b k : Int32) (K : Int) (hk : k.toInt = K) (h0 : 0 < K) : 0 ≤ ((b &&& 2147483647) % k).toInt ∧ ((b &&& 2147483647) % k).toInt < K := by
  rw [(c_irem (b &&& 2147483647) k K hk).1 (own_mask31 b)]
  exact ⟨Int.emod_nonneg _ (by omega), Int.emod_lt_of_pos _ h0⟩
theorem own_maskpos (b m : Int32) (k : Nat) (hk : k ≤ 31) (hm : m.toBitVec.toNat = 2 ^ k - 1) (K : Int) (hK : K = ((2 ^ k : Nat) : Int)) (h0 : 0 < K) : 0 ≤ (b &&& m).toInt ∧ (b &&& m).toInt < K := by
  rw [c_mask b m k hk hm, ← hK]
  exact ⟨Int.emod_nonneg _ (by omega), Int.emod_lt_of_pos _ h0⟩
end Jvm.RoadKit
namespace Jvm.RoadKit
open Sem ClassFile Op Lib Jvm.Stand Jvm.Free Jvm.LawKit
theorem own_clamp (n : Int32) (k : Nat) (h : n.toInt ≤ k) : n.toNatClampNeg ≤ k := by
  show n.toInt.toNat ≤ k
  omega
theorem own_bb (x : Int32) : x.toInt8.toInt32.toInt8.toInt32 = x.toInt8.toInt32 := by rw [Int8.toInt8_toInt32]
theorem own_ltT {x y : Int32} (h : x < y) : x.toInt < y.toInt := Int32.lt_iff_toInt_lt.mp h
theorem own_nltT {x y : Int32} (h : ¬ x < y) : y.toInt ≤ x.toInt := by rw [Int32.lt_iff_toInt_lt] at h; omega
theorem own_Tlt {x y : Int32} (h : x.toInt < y.toInt) : x < y := Int32.lt_iff_toInt_lt.mpr h
theorem own_Tnlt {x y : Int32} (h : y.toInt ≤ x.toInt) : ¬ x < y := by rw [Int32.lt_iff_toInt_lt]; omega
theorem own_neT {x y : Int32} (h : ¬ x = y) : ¬ x.toInt = y.toInt := fun q => h (Int32.toInt_inj.mp q)
end Jvm.RoadKit
namespace Jvm.Pilot.@@N@@
open Jvm Jvm.ClassFile Sem Op Lib Jvm.Free Jvm.Stand Jvm.LawKit Jvm.RoadKit Bundle Jvm.Pilot.@@N@@.Jvm.D
theorem own_d2_0 : decode jdk_30_method_1_code 0 = .ok (.aload_n 0, 1) := by decide +kernel
theorem own_d2_1 : decode jdk_30_method_1_code 1 = .ok (.invokespecial 1, 3) := by decide +kernel
theorem own_d2_4 : decode jdk_30_method_1_code 4 = .ok (.return_, 1) := by decide +kernel
theorem own_pd0 : parseMethodDescriptor "()V" = some ⟨[], none⟩ := by decide +kernel
theorem own_ef2 (x0 : Addr) : ∀ m, entryFrame m #[(.ref x0)] 1 = mkF m 0 #[.val (.ref x0)] [] := fun m => by first | (simp [entryFrame, mkF, argsToLocals, Value.category]; done) | rfl
set_option maxRecDepth 65536 in
set_option maxHeartbeats 40000000 in
theorem own_rec_w {l : Launch} {p : Program} {e : Env} {below : List Frame} {s : State} {m : MethodId} {meth : Method} {c : Code} {Z : State} {a0 args : Array Value} {T : State} {h0 : Heap} (X : Stand p l e ({ frames := 1, cells := 0, slots := 0, locals := 12 } : Room) s m args below meth c T [] 0 0) (C : own_Ctx p s m meth c Z a0 tables_1 (⟨"java/lang/Record", "<init>", "()V"⟩ : MethodName) jdk_30_method_1_code 1 none) (hh : T.heap = h0) (x0 : Addr)  (n0 : Nat) (Z0 : n0 ≤ h0.size)  :
    own_Fin p e below s (own_QP none h0) 0 0 (T.setTop (mkF m 0 #[.val (.ref x0)] [])) := by
  obtain ⟨hx, hby, hml, hZ, hown, hnm, hret, hlk, hw⟩ := id C
  show own_Fin p e below s (own_QP none h0) 0 0 (T.setTop (mkF m 0 #[.val (.ref x0)] []))
  refine own_go (fun tgt => XS.aloadN X.here hx rfl (hb hby own_d2_0) rfl rfl) ?_
  show own_Fin p e below s (own_QP none h0) 0 0 (T.setTop (mkF m 1 #[.val (.ref x0)] [(.ref x0)]))
  obtain ⟨T1, X1, e1, st1⟩ := initO X hx hZ hown (hw _ (List.mem_of_getElem? (i := 12) rfl)) (hw _ (List.mem_of_getElem? (i := 13) rfl)) (hw _ (List.mem_of_getElem? (i := 14) rfl)) hh (g := (mkF m 1 #[.val (.ref x0)] [(.ref x0)])) rfl (by rw [hml]; rfl) rfl (hb hby own_d2_1) (by decide) (W := 0) (by show 2 * 0 + _ ≤ _; exact Nat.le_of_eq rfl) (by decide)
  refine own_go st1 ?_
  show own_Fin p e below s (own_QP none h0) 0 0 (T1.setTop (mkF m 4 #[.val (.ref x0)] []))
  exact own_ret0 X1 hlk hx hret (hb hby own_d2_4) ⟨rfl, rfl, e1⟩ (by decide) (by decide)
theorem own_pn0 : plainName "java/lang/Record" = true := by first | (simp [plainName, overriddenIn]; done) | decide +kernel
theorem own_rec (l : Launch) (Z : State) (a0 : Array Value) (hw : ∀ d ∈ tables_1, d.before a0 Z = true) (x0 : Addr)  (h0 : Heap) (n0 : Nat) (Z0 : n0 ≤ h0.size)  : own_Met l Z (⟨"java/lang/Record", "<init>", "()V"⟩ : MethodName) jdk_30_method_1_code 1 none [] ({ frames := 1, cells := 0, slots := 0, locals := 12 } : Room) #[(.ref x0)] h0 (own_QP none h0) :=
  own_enter (plainFor_of_name own_pn0) (own_ef2 x0) hw (fun p e s m below meth c T X C hh => own_rec_w X C hh x0  n0 Z0 )
theorem own_d6_0 : decode jdk_33_method_47_code 0 = .ok (.iload_n 0, 1) := by decide +kernel
theorem own_d6_1 : decode jdk_33_method_47_code 1 = .ok (.ifCond .gt 14, 3) := by decide +kernel
theorem own_d6_4 : decode jdk_33_method_47_code 4 = .ok (.iload_n 0, 1) := by decide +kernel
theorem own_d6_5 : decode jdk_33_method_47_code 5 = .ok (.ifCond .ne 8, 3) := by decide +kernel
theorem own_d6_8 : decode jdk_33_method_47_code 8 = .ok (.bipush 32, 2) := by decide +kernel
theorem own_d6_10 : decode jdk_33_method_47_code 10 = .ok (.goto 4, 3) := by decide +kernel
theorem own_d6_13 : decode jdk_33_method_47_code 13 = .ok (.iconst 0, 1) := by decide +kernel
theorem own_d6_14 : decode jdk_33_method_47_code 14 = .ok (.ireturn, 1) := by decide +kernel
theorem own_d6_15 : decode jdk_33_method_47_code 15 = .ok (.bipush 31, 2) := by decide +kernel
theorem own_d6_17 : decode jdk_33_method_47_code 17 = .ok (.istore_n 1, 1) := by decide +kernel
theorem own_d6_18 : decode jdk_33_method_47_code 18 = .ok (.iload_n 0, 1) := by decide +kernel
theorem own_d6_19 : decode jdk_33_method_47_code 19 = .ok (.ldc_w 264, 3) := by decide +kernel
theorem own_d6_22 : decode jdk_33_method_47_code 22 = .ok (.if_icmp .lt 11, 3) := by decide +kernel
theorem own_d6_25 : decode jdk_33_method_47_code 25 = .ok (.iinc 1 (-16), 3) := by decide +kernel
theorem own_d6_28 : decode jdk_33_method_47_code 28 = .ok (.iload_n 0, 1) := by decide +kernel
theorem own_d6_29 : decode jdk_33_method_47_code 29 = .ok (.bipush 16, 2) := by decide +kernel
theorem own_d6_31 : decode jdk_33_method_47_code 31 = .ok (.iushr, 1) := by decide +kernel
theorem own_d6_32 : decode jdk_33_method_47_code 32 = .ok (.istore_n 0, 1) := by decide +kernel
theorem own_d6_33 : decode jdk_33_method_47_code 33 = .ok (.iload_n 0, 1) := by decide +kernel
theorem own_d6_34 : decode jdk_33_method_47_code 34 = .ok (.sipush 256, 3) := by decide +kernel
theorem own_d6_37 : decode jdk_33_method_47_code 37 = .ok (.if_icmp .lt 11, 3) := by decide +kernel
theorem own_d6_40 : decode jdk_33_method_47_code 40 = .ok (.iinc 1 (-8), 3) := by decide +kernel
theorem own_d6_43 : decode jdk_33_method_47_code 43 = .ok (.iload_n 0, 1) := by decide +kernel
theorem own_d6_44 : decode jdk_33_method_47_code 44 = .ok (.bipush 8, 2) := by decide +kernel
theorem own_d6_46 : decode jdk_33_method_47_code 46 = .ok (.iushr, 1) := by decide +kernel
theorem own_d6_47 : decode jdk_33_method_47_code 47 = .ok (.istore_n 0, 1) := by decide +kernel
theorem own_d6_48 : decode jdk_33_method_47_code 48 = .ok (.iload_n 0, 1) := by decide +kernel
theorem own_d6_49 : decode jdk_33_method_47_code 49 = .ok (.bipush 16, 2) := by decide +kernel
theorem own_d6_51 : decode jdk_33_method_47_code 51 = .ok (.if_icmp .lt 10, 3) := by decide +kernel
theorem own_d6_54 : decode jdk_33_method_47_code 54 = .ok (.iinc 1 (-4), 3) := by decide +kernel
theorem own_d6_57 : decode jdk_33_method_47_code 57 = .ok (.iload_n 0, 1) := by decide +kernel
theorem own_d6_58 : decode jdk_33_method_47_code 58 = .ok (.iconst 4, 1) := by decide +kernel
theorem own_d6_59 : decode jdk_33_method_47_code 59 = .ok (.iushr, 1) := by decide +kernel
theorem own_d6_60 : decode jdk_33_method_47_code 60 = .ok (.istore_n 0, 1) := by decide +kernel
theorem own_d6_61 : decode jdk_33_method_47_code 61 = .ok (.iload_n 0, 1) := by decide +kernel
theorem own_d6_62 : decode jdk_33_method_47_code 62 = .ok (.iconst 4, 1) := by decide +kernel
theorem own_d6_63 : decode jdk_33_method_47_code 63 = .ok (.if_icmp .lt 10, 3) := by decide +kernel
theorem own_d6_66 : decode jdk_33_method_47_code 66 = .ok (.iinc 1 (-2), 3) := by decide +kernel
theorem own_d6_69 : decode jdk_33_method_47_code 69 = .ok (.iload_n 0, 1) := by decide +kernel
theorem own_d6_70 : decode jdk_33_method_47_code 70 = .ok (.iconst 2, 1) := by decide +kernel
theorem own_d6_71 : decode jdk_33_method_47_code 71 = .ok (.iushr, 1) := by decide +kernel
theorem own_d6_72 : decode jdk_33_method_47_code 72 = .ok (.istore_n 0, 1) := by decide +kernel
theorem own_d6_73 : decode jdk_33_method_47_code 73 = .ok (.iload_n 1, 1) := by decide +kernel
theorem own_d6_74 : decode jdk_33_method_47_code 74 = .ok (.iload_n 0, 1) := by decide +kernel
theorem own_d6_75 : decode jdk_33_method_47_code 75 = .ok (.iconst 1, 1) := by decide +kernel
theorem own_d6_76 : decode jdk_33_method_47_code 76 = .ok (.iushr, 1) := by decide +kernel
theorem own_d6_77 : decode jdk_33_method_47_code 77 = .ok (.isub, 1) := by decide +kernel
theorem own_d6_78 : decode jdk_33_method_47_code 78 = .ok (.ireturn, 1) := by decide +kernel
theorem own_ef6 (x0 : Int32) : ∀ m, entryFrame m #[(.int x0)] 2 = mkF m 0 #[.val (.int x0), .unset] [] := fun m => by first | (simp [entryFrame, mkF, argsToLocals, Value.category]; done) | rfl
def own_f6_73 (v0 : Int32) (v1 : Int32) : Int32 := (v1 - ((v0.toUInt32 >>> ((1 : Int32) &&& 31).toUInt32).toInt32))
set_option maxRecDepth 65536 in
theorem own_b6_73 {l : Launch} {p : Program} {e : Env} {below : List Frame} {s : State} {m : MethodId} {meth : Method} {c : Code} {Z : State} {a0 args : Array Value} {T : State} {h0 : Heap} (X : Stand p l e ({ frames := 0, cells := 0, slots := 0, locals := 0 } : Room) s m args below meth c T [] 0 0) (C : own_Ctx p s m meth c Z a0 tables_1 (⟨"java/lang/Integer", "numberOfLeadingZeros", "(I)I"⟩ : MethodName) jdk_33_method_47_code 2 (some .int)) (hh : T.heap = h0) (v0 : Int32) (v1 : Int32) :
    own_Fin p e below s (own_QP (some (.int (own_f6_73 v0 v1))) h0) 0 0 (T.setTop (mkF m 73 #[.val (.int v0), .val (.int v1)] [])) := by
  obtain ⟨hx, hby, hml, hZ, hown, hnm, hret, hlk, hw⟩ := id C
  refine own_go (fun tgt => XS.iloadN X.here hx rfl (hb hby own_d6_73) rfl) ?_
  show own_Fin p e below s (own_QP (some (.int (own_f6_73 v0 v1))) h0) 0 0 (T.setTop (mkF m 74 #[.val (.int v0), .val (.int v1)] [(.int v1)]))
  refine own_go (fun tgt => XS.iloadN X.here hx rfl (hb hby own_d6_74) rfl) ?_
  show own_Fin p e below s (own_QP (some (.int (own_f6_73 v0 v1))) h0) 0 0 (T.setTop (mkF m 75 #[.val (.int v0), .val (.int v1)] [(.int v0), (.int v1)]))
  refine own_go (fun tgt => XS.iconst X.here hx rfl (hb hby own_d6_75)) ?_
  show own_Fin p e below s (own_QP (some (.int (own_f6_73 v0 v1))) h0) 0 0 (T.setTop (mkF m 76 #[.val (.int v0), .val (.int v1)] [(.int (1 : Int32)), (.int v0), (.int v1)]))
  refine own_go (fun tgt => XS.iushr X.here hx rfl (hb hby own_d6_76) rfl) ?_
  show own_Fin p e below s (own_QP (some (.int (own_f6_73 v0 v1))) h0) 0 0 (T.setTop (mkF m 77 #[.val (.int v0), .val (.int v1)] [(.int ((v0.toUInt32 >>> ((1 : Int32) &&& 31).toUInt32).toInt32)), (.int v1)]))
  refine own_go (fun tgt => XS.isub X.here hx rfl (hb hby own_d6_77) rfl) ?_
  show own_Fin p e below s (own_QP (some (.int (own_f6_73 v0 v1))) h0) 0 0 (T.setTop (mkF m 78 #[.val (.int v0), .val (.int v1)] [(.int (v1 - ((v0.toUInt32 >>> ((1 : Int32) &&& 31).toUInt32).toInt32)))]))
  exact own_ret X hlk hx (t := .int) hret rfl (Or.inl ⟨rfl, by simp, _, rfl⟩) (hb hby own_d6_78) ⟨rfl, rfl, hh⟩ (by decide) (by decide)
def own_f6_66 (v0 : Int32) (v1 : Int32) : Int32 := (own_f6_73 ((v0.toUInt32 >>> ((2 : Int32) &&& 31).toUInt32).toInt32) (v1 + (-2 : Int32)))
set_option maxRecDepth 65536 in
theorem own_b6_66 {l : Launch} {p : Program} {e : Env} {below : List Frame} {s : State} {m : MethodId} {meth : Method} {c : Code} {Z : State} {a0 args : Array Value} {T : State} {h0 : Heap} (X : Stand p l e ({ frames := 0, cells := 0, slots := 0, locals := 0 } : Room) s m args below meth c T [] 0 0) (C : own_Ctx p s m meth c Z a0 tables_1 (⟨"java/lang/Integer", "numberOfLeadingZeros", "(I)I"⟩ : MethodName) jdk_33_method_47_code 2 (some .int)) (hh : T.heap = h0) (v0 : Int32) (v1 : Int32) :
    own_Fin p e below s (own_QP (some (.int (own_f6_66 v0 v1))) h0) 0 0 (T.setTop (mkF m 66 #[.val (.int v0), .val (.int v1)] [])) := by
  obtain ⟨hx, hby, hml, hZ, hown, hnm, hret, hlk, hw⟩ := id C
  refine own_go (fun tgt => XS.iinc X.here hx rfl (hb hby own_d6_66) rfl (l' := #[.val (.int v0), .val (.int (v1 + (-2 : Int32)))]) rfl) ?_
  show own_Fin p e below s (own_QP (some (.int (own_f6_66 v0 v1))) h0) 0 0 (T.setTop (mkF m 69 #[.val (.int v0), .val (.int (v1 + (-2 : Int32)))] []))
  refine own_go (fun tgt => XS.iloadN X.here hx rfl (hb hby own_d6_69) rfl) ?_
  show own_Fin p e below s (own_QP (some (.int (own_f6_66 v0 v1))) h0) 0 0 (T.setTop (mkF m 70 #[.val (.int v0), .val (.int (v1 + (-2 : Int32)))] [(.int v0)]))
  refine own_go (fun tgt => XS.iconst X.here hx rfl (hb hby own_d6_70)) ?_
  show own_Fin p e below s (own_QP (some (.int (own_f6_66 v0 v1))) h0) 0 0 (T.setTop (mkF m 71 #[.val (.int v0), .val (.int (v1 + (-2 : Int32)))] [(.int (2 : Int32)), (.int v0)]))
  refine own_go (fun tgt => XS.iushr X.here hx rfl (hb hby own_d6_71) rfl) ?_
  show own_Fin p e below s (own_QP (some (.int (own_f6_66 v0 v1))) h0) 0 0 (T.setTop (mkF m 72 #[.val (.int v0), .val (.int (v1 + (-2 : Int32)))] [(.int ((v0.toUInt32 >>> ((2 : Int32) &&& 31).toUInt32).toInt32))]))
  refine own_go (fun tgt => XS.istoreN X.here hx rfl (hb hby own_d6_72) rfl (l' := #[.val (.int ((v0.toUInt32 >>> ((2 : Int32) &&& 31).toUInt32).toInt32)), .val (.int (v1 + (-2 : Int32)))]) rfl) ?_
  show own_Fin p e below s (own_QP (some (.int (own_f6_66 v0 v1))) h0) 0 0 (T.setTop (mkF m 73 #[.val (.int ((v0.toUInt32 >>> ((2 : Int32) &&& 31).toUInt32).toInt32)), .val (.int (v1 + (-2 : Int32)))] []))
  exact own_b6_73 X C hh ((v0.toUInt32 >>> ((2 : Int32) &&& 31).toUInt32).toInt32) (v1 + (-2 : Int32))
def own_f6_61 (v0 : Int32) (v1 : Int32) : Int32 := if v0 < (4 : Int32) then (own_f6_73 v0 v1) else (own_f6_66 v0 v1)
set_option maxRecDepth 65536 in
theorem own_b6_61 {l : Launch} {p : Program} {e : Env} {below : List Frame} {s : State} {m : MethodId} {meth : Method} {c : Code} {Z : State} {a0 args : Array Value} {T : State} {h0 : Heap} (X : Stand p l e ({ frames := 0, cells := 0, slots := 0, locals := 0 } : Room) s m args below meth c T [] 0 0) (C : own_Ctx p s m meth c Z a0 tables_1 (⟨"java/lang/Integer", "numberOfLeadingZeros", "(I)I"⟩ : MethodName) jdk_33_method_47_code 2 (some .int)) (hh : T.heap = h0) (v0 : Int32) (v1 : Int32) :
    own_Fin p e below s (own_QP (some (.int (own_f6_61 v0 v1))) h0) 0 0 (T.setTop (mkF m 61 #[.val (.int v0), .val (.int v1)] [])) := by
  obtain ⟨hx, hby, hml, hZ, hown, hnm, hret, hlk, hw⟩ := id C
  refine own_go (fun tgt => XS.iloadN X.here hx rfl (hb hby own_d6_61) rfl) ?_
  show own_Fin p e below s (own_QP (some (.int (own_f6_61 v0 v1))) h0) 0 0 (T.setTop (mkF m 62 #[.val (.int v0), .val (.int v1)] [(.int v0)]))
  refine own_go (fun tgt => XS.iconst X.here hx rfl (hb hby own_d6_62)) ?_
  show own_Fin p e below s (own_QP (some (.int (own_f6_61 v0 v1))) h0) 0 0 (T.setTop (mkF m 63 #[.val (.int v0), .val (.int v1)] [(.int (4 : Int32)), (.int v0)]))
  by_cases hq : v0 < (4 : Int32)
  · show own_Fin p e below s (own_QP (some (.int (own_f6_61 v0 v1))) h0) 0 0 _
    rw [show (own_f6_61 v0 v1) = (own_f6_73 v0 v1) from if_pos hq]
    refine own_go (fun tgt => XS.icmpYes X.here hx rfl (pc0 := 63) (pc' := 73) rfl (hb hby own_d6_63) rfl (tlt hq).1 (by decide) (by decide)) ?_
    show own_Fin p e below s (own_QP (some (.int (own_f6_73 v0 v1))) h0) 0 0 (T.setTop (mkF m 73 #[.val (.int v0), .val (.int v1)] []))
    exact own_b6_73 X C hh v0 v1
  · show own_Fin p e below s (own_QP (some (.int (own_f6_61 v0 v1))) h0) 0 0 _
    rw [show (own_f6_61 v0 v1) = (own_f6_66 v0 v1) from if_neg hq]
    refine own_go (fun tgt => XS.icmpNo X.here hx rfl (hb hby own_d6_63) rfl (flt hq).1) ?_
    show own_Fin p e below s (own_QP (some (.int (own_f6_66 v0 v1))) h0) 0 0 (T.setTop (mkF m 66 #[.val (.int v0), .val (.int v1)] []))
    exact own_b6_66 X C hh v0 v1
def own_f6_54 (v0 : Int32) (v1 : Int32) : Int32 := (own_f6_61 ((v0.toUInt32 >>> ((4 : Int32) &&& 31).toUInt32).toInt32) (v1 + (-4 : Int32)))
set_option maxRecDepth 65536 in
theorem own_b6_54 {l : Launch} {p : Program} {e : Env} {below : List Frame} {s : State} {m : MethodId} {meth : Method} {c : Code} {Z : State} {a0 args : Array Value} {T : State} {h0 : Heap} (X : Stand p l e ({ frames := 0, cells := 0, slots := 0, locals := 0 } : Room) s m args below meth c T [] 0 0) (C : own_Ctx p s m meth c Z a0 tables_1 (⟨"java/lang/Integer", "numberOfLeadingZeros", "(I)I"⟩ : MethodName) jdk_33_method_47_code 2 (some .int)) (hh : T.heap = h0) (v0 : Int32) (v1 : Int32) :
    own_Fin p e below s (own_QP (some (.int (own_f6_54 v0 v1))) h0) 0 0 (T.setTop (mkF m 54 #[.val (.int v0), .val (.int v1)] [])) := by
  obtain ⟨hx, hby, hml, hZ, hown, hnm, hret, hlk, hw⟩ := id C
  refine own_go (fun tgt => XS.iinc X.here hx rfl (hb hby own_d6_54) rfl (l' := #[.val (.int v0), .val (.int (v1 + (-4 : Int32)))]) rfl) ?_
  show own_Fin p e below s (own_QP (some (.int (own_f6_54 v0 v1))) h0) 0 0 (T.setTop (mkF m 57 #[.val (.int v0), .val (.int (v1 + (-4 : Int32)))] []))
  refine own_go (fun tgt => XS.iloadN X.here hx rfl (hb hby own_d6_57) rfl) ?_
  show own_Fin p e below s (own_QP (some (.int (own_f6_54 v0 v1))) h0) 0 0 (T.setTop (mkF m 58 #[.val (.int v0), .val (.int (v1 + (-4 : Int32)))] [(.int v0)]))
  refine own_go (fun tgt => XS.iconst X.here hx rfl (hb hby own_d6_58)) ?_
  show own_Fin p e below s (own_QP (some (.int (own_f6_54 v0 v1))) h0) 0 0 (T.setTop (mkF m 59 #[.val (.int v0), .val (.int (v1 + (-4 : Int32)))] [(.int (4 : Int32)), (.int v0)]))
  refine own_go (fun tgt => XS.iushr X.here hx rfl (hb hby own_d6_59) rfl) ?_
  show own_Fin p e below s (own_QP (some (.int (own_f6_54 v0 v1))) h0) 0 0 (T.setTop (mkF m 60 #[.val (.int v0), .val (.int (v1 + (-4 : Int32)))] [(.int ((v0.toUInt32 >>> ((4 : Int32) &&& 31).toUInt32).toInt32))]))
  refine own_go (fun tgt => XS.istoreN X.here hx rfl (hb hby own_d6_60) rfl (l' := #[.val (.int ((v0.toUInt32 >>> ((4 : Int32) &&& 31).toUInt32).toInt32)), .val (.int (v1 + (-4 : Int32)))]) rfl) ?_
  show own_Fin p e below s (own_QP (some (.int (own_f6_54 v0 v1))) h0) 0 0 (T.setTop (mkF m 61 #[.val (.int ((v0.toUInt32 >>> ((4 : Int32) &&& 31).toUInt32).toInt32)), .val (.int (v1 + (-4 : Int32)))] []))
  exact own_b6_61 X C hh ((v0.toUInt32 >>> ((4 : Int32) &&& 31).toUInt32).toInt32) (v1 + (-4 : Int32))
def own_f6_48 (v0 : Int32) (v1 : Int32) : Int32 := if v0 < (16 : Int32) then (own_f6_61 v0 v1) else (own_f6_54 v0 v1)
set_option maxRecDepth 65536 in
theorem own_b6_48 {l : Launch} {p : Program} {e : Env} {below : List Frame} {s : State} {m : MethodId} {meth : Method} {c : Code} {Z : State} {a0 args : Array Value} {T : State} {h0 : Heap} (X : Stand p l e ({ frames := 0, cells := 0, slots := 0, locals := 0 } : Room) s m args below meth c T [] 0 0) (C : own_Ctx p s m meth c Z a0 tables_1 (⟨"java/lang/Integer", "numberOfLeadingZeros", "(I)I"⟩ : MethodName) jdk_33_method_47_code 2 (some .int)) (hh : T.heap = h0) (v0 : Int32) (v1 : Int32) :
    own_Fin p e below s (own_QP (some (.int (own_f6_48 v0 v1))) h0) 0 0 (T.setTop (mkF m 48 #[.val (.int v0), .val (.int v1)] [])) := by
  obtain ⟨hx, hby, hml, hZ, hown, hnm, hret, hlk, hw⟩ := id C
  refine own_go (fun tgt => XS.iloadN X.here hx rfl (hb hby own_d6_48) rfl) ?_
  show own_Fin p e below s (own_QP (some (.int (own_f6_48 v0 v1))) h0) 0 0 (T.setTop (mkF m 49 #[.val (.int v0), .val (.int v1)] [(.int v0)]))
  refine own_go (fun tgt => XS.bipush X.here hx rfl (hb hby own_d6_49)) ?_
  show own_Fin p e below s (own_QP (some (.int (own_f6_48 v0 v1))) h0) 0 0 (T.setTop (mkF m 51 #[.val (.int v0), .val (.int v1)] [(.int (16 : Int32)), (.int v0)]))
  by_cases hq : v0 < (16 : Int32)
  · show own_Fin p e below s (own_QP (some (.int (own_f6_48 v0 v1))) h0) 0 0 _
    rw [show (own_f6_48 v0 v1) = (own_f6_61 v0 v1) from if_pos hq]
    refine own_go (fun tgt => XS.icmpYes X.here hx rfl (pc0 := 51) (pc' := 61) rfl (hb hby own_d6_51) rfl (tlt hq).1 (by decide) (by decide)) ?_
    show own_Fin p e below s (own_QP (some (.int (own_f6_61 v0 v1))) h0) 0 0 (T.setTop (mkF m 61 #[.val (.int v0), .val (.int v1)] []))
    exact own_b6_61 X C hh v0 v1
  · show own_Fin p e below s (own_QP (some (.int (own_f6_48 v0 v1))) h0) 0 0 _
    rw [show (own_f6_48 v0 v1) = (own_f6_54 v0 v1) from if_neg hq]
    refine own_go (fun tgt => XS.icmpNo X.here hx rfl (hb hby own_d6_51) rfl (flt hq).1) ?_
    show own_Fin p e below s (own_QP (some (.int (own_f6_54 v0 v1))) h0) 0 0 (T.setTop (mkF m 54 #[.val (.int v0), .val (.int v1)] []))
    exact own_b6_54 X C hh v0 v1
def own_f6_40 (v0 : Int32) (v1 : Int32) : Int32 := (own_f6_48 ((v0.toUInt32 >>> ((8 : Int32) &&& 31).toUInt32).toInt32) (v1 + (-8 : Int32)))
set_option maxRecDepth 65536 in
theorem own_b6_40 {l : Launch} {p : Program} {e : Env} {below : List Frame} {s : State} {m : MethodId} {meth : Method} {c : Code} {Z : State} {a0 args : Array Value} {T : State} {h0 : Heap} (X : Stand p l e ({ frames := 0, cells := 0, slots := 0, locals := 0 } : Room) s m args below meth c T [] 0 0) (C : own_Ctx p s m meth c Z a0 tables_1 (⟨"java/lang/Integer", "numberOfLeadingZeros", "(I)I"⟩ : MethodName) jdk_33_method_47_code 2 (some .int)) (hh : T.heap = h0) (v0 : Int32) (v1 : Int32) :
    own_Fin p e below s (own_QP (some (.int (own_f6_40 v0 v1))) h0) 0 0 (T.setTop (mkF m 40 #[.val (.int v0), .val (.int v1)] [])) := by
  obtain ⟨hx, hby, hml, hZ, hown, hnm, hret, hlk, hw⟩ := id C
  refine own_go (fun tgt => XS.iinc X.here hx rfl (hb hby own_d6_40) rfl (l' := #[.val (.int v0), .val (.int (v1 + (-8 : Int32)))]) rfl) ?_
  show own_Fin p e below s (own_QP (some (.int (own_f6_40 v0 v1))) h0) 0 0 (T.setTop (mkF m 43 #[.val (.int v0), .val (.int (v1 + (-8 : Int32)))] []))
  refine own_go (fun tgt => XS.iloadN X.here hx rfl (hb hby own_d6_43) rfl) ?_
  show own_Fin p e below s (own_QP (some (.int (own_f6_40 v0 v1))) h0) 0 0 (T.setTop (mkF m 44 #[.val (.int v0), .val (.int (v1 + (-8 : Int32)))] [(.int v0)]))
  refine own_go (fun tgt => XS.bipush X.here hx rfl (hb hby own_d6_44)) ?_
  show own_Fin p e below s (own_QP (some (.int (own_f6_40 v0 v1))) h0) 0 0 (T.setTop (mkF m 46 #[.val (.int v0), .val (.int (v1 + (-8 : Int32)))] [(.int (8 : Int32)), (.int v0)]))
  refine own_go (fun tgt => XS.iushr X.here hx rfl (hb hby own_d6_46) rfl) ?_
  show own_Fin p e below s (own_QP (some (.int (own_f6_40 v0 v1))) h0) 0 0 (T.setTop (mkF m 47 #[.val (.int v0), .val (.int (v1 + (-8 : Int32)))] [(.int ((v0.toUInt32 >>> ((8 : Int32) &&& 31).toUInt32).toInt32))]))
  refine own_go (fun tgt => XS.istoreN X.here hx rfl (hb hby own_d6_47) rfl (l' := #[.val (.int ((v0.toUInt32 >>> ((8 : Int32) &&& 31).toUInt32).toInt32)), .val (.int (v1 + (-8 : Int32)))]) rfl) ?_
  show own_Fin p e below s (own_QP (some (.int (own_f6_40 v0 v1))) h0) 0 0 (T.setTop (mkF m 48 #[.val (.int ((v0.toUInt32 >>> ((8 : Int32) &&& 31).toUInt32).toInt32)), .val (.int (v1 + (-8 : Int32)))] []))
  exact own_b6_48 X C hh ((v0.toUInt32 >>> ((8 : Int32) &&& 31).toUInt32).toInt32) (v1 + (-8 : Int32))
def own_f6_33 (v0 : Int32) (v1 : Int32) : Int32 := if v0 < (256 : Int32) then (own_f6_48 v0 v1) else (own_f6_40 v0 v1)
set_option maxRecDepth 65536 in
theorem own_b6_33 {l : Launch} {p : Program} {e : Env} {below : List Frame} {s : State} {m : MethodId} {meth : Method} {c : Code} {Z : State} {a0 args : Array Value} {T : State} {h0 : Heap} (X : Stand p l e ({ frames := 0, cells := 0, slots := 0, locals := 0 } : Room) s m args below meth c T [] 0 0) (C : own_Ctx p s m meth c Z a0 tables_1 (⟨"java/lang/Integer", "numberOfLeadingZeros", "(I)I"⟩ : MethodName) jdk_33_method_47_code 2 (some .int)) (hh : T.heap = h0) (v0 : Int32) (v1 : Int32) :
    own_Fin p e below s (own_QP (some (.int (own_f6_33 v0 v1))) h0) 0 0 (T.setTop (mkF m 33 #[.val (.int v0), .val (.int v1)] [])) := by
  obtain ⟨hx, hby, hml, hZ, hown, hnm, hret, hlk, hw⟩ := id C
  refine own_go (fun tgt => XS.iloadN X.here hx rfl (hb hby own_d6_33) rfl) ?_
  show own_Fin p e below s (own_QP (some (.int (own_f6_33 v0 v1))) h0) 0 0 (T.setTop (mkF m 34 #[.val (.int v0), .val (.int v1)] [(.int v0)]))
  refine own_go (fun tgt => XS.sipush X.here hx rfl (hb hby own_d6_34)) ?_
  show own_Fin p e below s (own_QP (some (.int (own_f6_33 v0 v1))) h0) 0 0 (T.setTop (mkF m 37 #[.val (.int v0), .val (.int v1)] [(.int (256 : Int32)), (.int v0)]))
  by_cases hq : v0 < (256 : Int32)
  · show own_Fin p e below s (own_QP (some (.int (own_f6_33 v0 v1))) h0) 0 0 _
    rw [show (own_f6_33 v0 v1) = (own_f6_48 v0 v1) from if_pos hq]
    refine own_go (fun tgt => XS.icmpYes X.here hx rfl (pc0 := 37) (pc' := 48) rfl (hb hby own_d6_37) rfl (tlt hq).1 (by decide) (by decide)) ?_
    show own_Fin p e below s (own_QP (some (.int (own_f6_48 v0 v1))) h0) 0 0 (T.setTop (mkF m 48 #[.val (.int v0), .val (.int v1)] []))
    exact own_b6_48 X C hh v0 v1
  · show own_Fin p e below s (own_QP (some (.int (own_f6_33 v0 v1))) h0) 0 0 _
    rw [show (own_f6_33 v0 v1) = (own_f6_40 v0 v1) from if_neg hq]
    refine own_go (fun tgt => XS.icmpNo X.here hx rfl (hb hby own_d6_37) rfl (flt hq).1) ?_
    show own_Fin p e below s (own_QP (some (.int (own_f6_40 v0 v1))) h0) 0 0 (T.setTop (mkF m 40 #[.val (.int v0), .val (.int v1)] []))
    exact own_b6_40 X C hh v0 v1
def own_f6_25 (v0 : Int32) (v1 : Int32) : Int32 := (own_f6_33 ((v0.toUInt32 >>> ((16 : Int32) &&& 31).toUInt32).toInt32) (v1 + (-16 : Int32)))
set_option maxRecDepth 65536 in
theorem own_b6_25 {l : Launch} {p : Program} {e : Env} {below : List Frame} {s : State} {m : MethodId} {meth : Method} {c : Code} {Z : State} {a0 args : Array Value} {T : State} {h0 : Heap} (X : Stand p l e ({ frames := 0, cells := 0, slots := 0, locals := 0 } : Room) s m args below meth c T [] 0 0) (C : own_Ctx p s m meth c Z a0 tables_1 (⟨"java/lang/Integer", "numberOfLeadingZeros", "(I)I"⟩ : MethodName) jdk_33_method_47_code 2 (some .int)) (hh : T.heap = h0) (v0 : Int32) (v1 : Int32) :
    own_Fin p e below s (own_QP (some (.int (own_f6_25 v0 v1))) h0) 0 0 (T.setTop (mkF m 25 #[.val (.int v0), .val (.int v1)] [])) := by
  obtain ⟨hx, hby, hml, hZ, hown, hnm, hret, hlk, hw⟩ := id C
  refine own_go (fun tgt => XS.iinc X.here hx rfl (hb hby own_d6_25) rfl (l' := #[.val (.int v0), .val (.int (v1 + (-16 : Int32)))]) rfl) ?_
  show own_Fin p e below s (own_QP (some (.int (own_f6_25 v0 v1))) h0) 0 0 (T.setTop (mkF m 28 #[.val (.int v0), .val (.int (v1 + (-16 : Int32)))] []))
  refine own_go (fun tgt => XS.iloadN X.here hx rfl (hb hby own_d6_28) rfl) ?_
  show own_Fin p e below s (own_QP (some (.int (own_f6_25 v0 v1))) h0) 0 0 (T.setTop (mkF m 29 #[.val (.int v0), .val (.int (v1 + (-16 : Int32)))] [(.int v0)]))
  refine own_go (fun tgt => XS.bipush X.here hx rfl (hb hby own_d6_29)) ?_
  show own_Fin p e below s (own_QP (some (.int (own_f6_25 v0 v1))) h0) 0 0 (T.setTop (mkF m 31 #[.val (.int v0), .val (.int (v1 + (-16 : Int32)))] [(.int (16 : Int32)), (.int v0)]))
  refine own_go (fun tgt => XS.iushr X.here hx rfl (hb hby own_d6_31) rfl) ?_
  show own_Fin p e below s (own_QP (some (.int (own_f6_25 v0 v1))) h0) 0 0 (T.setTop (mkF m 32 #[.val (.int v0), .val (.int (v1 + (-16 : Int32)))] [(.int ((v0.toUInt32 >>> ((16 : Int32) &&& 31).toUInt32).toInt32))]))
  refine own_go (fun tgt => XS.istoreN X.here hx rfl (hb hby own_d6_32) rfl (l' := #[.val (.int ((v0.toUInt32 >>> ((16 : Int32) &&& 31).toUInt32).toInt32)), .val (.int (v1 + (-16 : Int32)))]) rfl) ?_
  show own_Fin p e below s (own_QP (some (.int (own_f6_25 v0 v1))) h0) 0 0 (T.setTop (mkF m 33 #[.val (.int ((v0.toUInt32 >>> ((16 : Int32) &&& 31).toUInt32).toInt32)), .val (.int (v1 + (-16 : Int32)))] []))
  exact own_b6_33 X C hh ((v0.toUInt32 >>> ((16 : Int32) &&& 31).toUInt32).toInt32) (v1 + (-16 : Int32))
def own_f6_15 (v0 : Int32) : Int32 := if v0 < (65536 : Int32) then (own_f6_33 v0 (31 : Int32)) else (own_f6_25 v0 (31 : Int32))
set_option maxRecDepth 65536 in
theorem own_b6_15 {l : Launch} {p : Program} {e : Env} {below : List Frame} {s : State} {m : MethodId} {meth : Method} {c : Code} {Z : State} {a0 args : Array Value} {T : State} {h0 : Heap} (X : Stand p l e ({ frames := 0, cells := 0, slots := 0, locals := 0 } : Room) s m args below meth c T [] 0 0) (C : own_Ctx p s m meth c Z a0 tables_1 (⟨"java/lang/Integer", "numberOfLeadingZeros", "(I)I"⟩ : MethodName) jdk_33_method_47_code 2 (some .int)) (hh : T.heap = h0) (v0 : Int32) :
    own_Fin p e below s (own_QP (some (.int (own_f6_15 v0))) h0) 0 0 (T.setTop (mkF m 15 #[.val (.int v0), .unset] [])) := by
  obtain ⟨hx, hby, hml, hZ, hown, hnm, hret, hlk, hw⟩ := id C
  refine own_go (fun tgt => XS.bipush X.here hx rfl (hb hby own_d6_15)) ?_
  show own_Fin p e below s (own_QP (some (.int (own_f6_15 v0))) h0) 0 0 (T.setTop (mkF m 17 #[.val (.int v0), .unset] [(.int (31 : Int32))]))
  refine own_go (fun tgt => XS.istoreN X.here hx rfl (hb hby own_d6_17) rfl (l' := #[.val (.int v0), .val (.int (31 : Int32))]) rfl) ?_
  show own_Fin p e below s (own_QP (some (.int (own_f6_15 v0))) h0) 0 0 (T.setTop (mkF m 18 #[.val (.int v0), .val (.int (31 : Int32))] []))
  refine own_go (fun tgt => XS.iloadN X.here hx rfl (hb hby own_d6_18) rfl) ?_
  show own_Fin p e below s (own_QP (some (.int (own_f6_15 v0))) h0) 0 0 (T.setTop (mkF m 19 #[.val (.int v0), .val (.int (31 : Int32))] [(.int v0)]))
  refine own_go (fun tgt => X.ldcwInt hx hown (mvT hZ (hw _ (List.mem_of_getElem? (i := 44) rfl))) (g := (mkF m 19 #[.val (.int v0), .val (.int (31 : Int32))] [(.int v0)])) rfl (hb hby own_d6_19) tgt) ?_
  show own_Fin p e below s (own_QP (some (.int (own_f6_15 v0))) h0) 0 0 (T.setTop (mkF m 22 #[.val (.int v0), .val (.int (31 : Int32))] [(.int (65536 : Int32)), (.int v0)]))
  by_cases hq : v0 < (65536 : Int32)
  · show own_Fin p e below s (own_QP (some (.int (own_f6_15 v0))) h0) 0 0 _
    rw [show (own_f6_15 v0) = (own_f6_33 v0 (31 : Int32)) from if_pos hq]
    refine own_go (fun tgt => XS.icmpYes X.here hx rfl (pc0 := 22) (pc' := 33) rfl (hb hby own_d6_22) rfl (tlt hq).1 (by decide) (by decide)) ?_
    show own_Fin p e below s (own_QP (some (.int (own_f6_33 v0 (31 : Int32)))) h0) 0 0 (T.setTop (mkF m 33 #[.val (.int v0), .val (.int (31 : Int32))] []))
    exact own_b6_33 X C hh v0 (31 : Int32)
  · show own_Fin p e below s (own_QP (some (.int (own_f6_15 v0))) h0) 0 0 _
    rw [show (own_f6_15 v0) = (own_f6_25 v0 (31 : Int32)) from if_neg hq]
    refine own_go (fun tgt => XS.icmpNo X.here hx rfl (hb hby own_d6_22) rfl (flt hq).1) ?_
    show own_Fin p e below s (own_QP (some (.int (own_f6_25 v0 (31 : Int32)))) h0) 0 0 (T.setTop (mkF m 25 #[.val (.int v0), .val (.int (31 : Int32))] []))
    exact own_b6_25 X C hh v0 (31 : Int32)
def own_f6_13 (v0 : Int32) : Int32 := (0 : Int32)
set_option maxRecDepth 65536 in
theorem own_b6_13 {l : Launch} {p : Program} {e : Env} {below : List Frame} {s : State} {m : MethodId} {meth : Method} {c : Code} {Z : State} {a0 args : Array Value} {T : State} {h0 : Heap} (X : Stand p l e ({ frames := 0, cells := 0, slots := 0, locals := 0 } : Room) s m args below meth c T [] 0 0) (C : own_Ctx p s m meth c Z a0 tables_1 (⟨"java/lang/Integer", "numberOfLeadingZeros", "(I)I"⟩ : MethodName) jdk_33_method_47_code 2 (some .int)) (hh : T.heap = h0) (v0 : Int32) :
    own_Fin p e below s (own_QP (some (.int (own_f6_13 v0))) h0) 0 0 (T.setTop (mkF m 13 #[.val (.int v0), .unset] [])) := by
  obtain ⟨hx, hby, hml, hZ, hown, hnm, hret, hlk, hw⟩ := id C
  refine own_go (fun tgt => XS.iconst X.here hx rfl (hb hby own_d6_13)) ?_
  show own_Fin p e below s (own_QP (some (.int (own_f6_13 v0))) h0) 0 0 (T.setTop (mkF m 14 #[.val (.int v0), .unset] [(.int (0 : Int32))]))
  exact own_ret X hlk hx (t := .int) hret rfl (Or.inl ⟨rfl, by simp, _, rfl⟩) (hb hby own_d6_14) ⟨rfl, rfl, hh⟩ (by decide) (by decide)
def own_f6_8 (v0 : Int32) : Int32 := (32 : Int32)
set_option maxRecDepth 65536 in
theorem own_b6_8 {l : Launch} {p : Program} {e : Env} {below : List Frame} {s : State} {m : MethodId} {meth : Method} {c : Code} {Z : State} {a0 args : Array Value} {T : State} {h0 : Heap} (X : Stand p l e ({ frames := 0, cells := 0, slots := 0, locals := 0 } : Room) s m args below meth c T [] 0 0) (C : own_Ctx p s m meth c Z a0 tables_1 (⟨"java/lang/Integer", "numberOfLeadingZeros", "(I)I"⟩ : MethodName) jdk_33_method_47_code 2 (some .int)) (hh : T.heap = h0) (v0 : Int32) :
    own_Fin p e below s (own_QP (some (.int (own_f6_8 v0))) h0) 0 0 (T.setTop (mkF m 8 #[.val (.int v0), .unset] [])) := by
  obtain ⟨hx, hby, hml, hZ, hown, hnm, hret, hlk, hw⟩ := id C
  refine own_go (fun tgt => XS.bipush X.here hx rfl (hb hby own_d6_8)) ?_
  show own_Fin p e below s (own_QP (some (.int (own_f6_8 v0))) h0) 0 0 (T.setTop (mkF m 10 #[.val (.int v0), .unset] [(.int (32 : Int32))]))
  refine own_go (fun tgt => XS.goto X.here hx rfl (pc0 := 10) (pc' := 14) rfl (hb hby own_d6_10) (by decide) (by decide)) ?_
  show own_Fin p e below s (own_QP (some (.int (own_f6_8 v0))) h0) 0 0 (T.setTop (mkF m 14 #[.val (.int v0), .unset] [(.int (32 : Int32))]))
  exact own_ret X hlk hx (t := .int) hret rfl (Or.inl ⟨rfl, by simp, _, rfl⟩) (hb hby own_d6_14) ⟨rfl, rfl, hh⟩ (by decide) (by decide)
def own_f6_4 (v0 : Int32) : Int32 := if v0 = (0 : Int32) then (own_f6_8 v0) else (own_f6_13 v0)
set_option maxRecDepth 65536 in
theorem own_b6_4 {l : Launch} {p : Program} {e : Env} {below : List Frame} {s : State} {m : MethodId} {meth : Method} {c : Code} {Z : State} {a0 args : Array Value} {T : State} {h0 : Heap} (X : Stand p l e ({ frames := 0, cells := 0, slots := 0, locals := 0 } : Room) s m args below meth c T [] 0 0) (C : own_Ctx p s m meth c Z a0 tables_1 (⟨"java/lang/Integer", "numberOfLeadingZeros", "(I)I"⟩ : MethodName) jdk_33_method_47_code 2 (some .int)) (hh : T.heap = h0) (v0 : Int32) :
    own_Fin p e below s (own_QP (some (.int (own_f6_4 v0))) h0) 0 0 (T.setTop (mkF m 4 #[.val (.int v0), .unset] [])) := by
  obtain ⟨hx, hby, hml, hZ, hown, hnm, hret, hlk, hw⟩ := id C
  refine own_go (fun tgt => XS.iloadN X.here hx rfl (hb hby own_d6_4) rfl) ?_
  show own_Fin p e below s (own_QP (some (.int (own_f6_4 v0))) h0) 0 0 (T.setTop (mkF m 5 #[.val (.int v0), .unset] [(.int v0)]))
  by_cases hq : v0 = (0 : Int32)
  · show own_Fin p e below s (own_QP (some (.int (own_f6_4 v0))) h0) 0 0 _
    rw [show (own_f6_4 v0) = (own_f6_8 v0) from if_pos hq]
    refine own_go (fun tgt => XS.ifNo X.here hx rfl (hb hby own_d6_5) rfl ((if0 _ _).trans (teq hq).2)) ?_
    show own_Fin p e below s (own_QP (some (.int (own_f6_8 v0))) h0) 0 0 (T.setTop (mkF m 8 #[.val (.int v0), .unset] []))
    exact own_b6_8 X C hh v0
  · show own_Fin p e below s (own_QP (some (.int (own_f6_4 v0))) h0) 0 0 _
    rw [show (own_f6_4 v0) = (own_f6_13 v0) from if_neg hq]
    refine own_go (fun tgt => XS.ifYes X.here hx rfl (pc0 := 5) (pc' := 13) rfl (hb hby own_d6_5) rfl ((if0 _ _).trans (feq hq).2) (by decide) (by decide)) ?_
    show own_Fin p e below s (own_QP (some (.int (own_f6_13 v0))) h0) 0 0 (T.setTop (mkF m 13 #[.val (.int v0), .unset] []))
    exact own_b6_13 X C hh v0
def own_f6_0 (v0 : Int32) : Int32 := if (0 : Int32) < v0 then (own_f6_15 v0) else (own_f6_4 v0)
set_option maxRecDepth 65536 in
theorem own_b6_0 {l : Launch} {p : Program} {e : Env} {below : List Frame} {s : State} {m : MethodId} {meth : Method} {c : Code} {Z : State} {a0 args : Array Value} {T : State} {h0 : Heap} (X : Stand p l e ({ frames := 0, cells := 0, slots := 0, locals := 0 } : Room) s m args below meth c T [] 0 0) (C : own_Ctx p s m meth c Z a0 tables_1 (⟨"java/lang/Integer", "numberOfLeadingZeros", "(I)I"⟩ : MethodName) jdk_33_method_47_code 2 (some .int)) (hh : T.heap = h0) (v0 : Int32) :
    own_Fin p e below s (own_QP (some (.int (own_f6_0 v0))) h0) 0 0 (T.setTop (mkF m 0 #[.val (.int v0), .unset] [])) := by
  obtain ⟨hx, hby, hml, hZ, hown, hnm, hret, hlk, hw⟩ := id C
  refine own_go (fun tgt => XS.iloadN X.here hx rfl (hb hby own_d6_0) rfl) ?_
  show own_Fin p e below s (own_QP (some (.int (own_f6_0 v0))) h0) 0 0 (T.setTop (mkF m 1 #[.val (.int v0), .unset] [(.int v0)]))
  by_cases hq : (0 : Int32) < v0
  · show own_Fin p e below s (own_QP (some (.int (own_f6_0 v0))) h0) 0 0 _
    rw [show (own_f6_0 v0) = (own_f6_15 v0) from if_pos hq]
    refine own_go (fun tgt => XS.ifYes X.here hx rfl (pc0 := 1) (pc' := 15) rfl (hb hby own_d6_1) rfl ((if0 _ _).trans (tlt hq).2.2.1) (by decide) (by decide)) ?_
    show own_Fin p e below s (own_QP (some (.int (own_f6_15 v0))) h0) 0 0 (T.setTop (mkF m 15 #[.val (.int v0), .unset] []))
    exact own_b6_15 X C hh v0
  · show own_Fin p e below s (own_QP (some (.int (own_f6_0 v0))) h0) 0 0 _
    rw [show (own_f6_0 v0) = (own_f6_4 v0) from if_neg hq]
    refine own_go (fun tgt => XS.ifNo X.here hx rfl (hb hby own_d6_1) rfl ((if0 _ _).trans (flt hq).2.2.1)) ?_
    show own_Fin p e below s (own_QP (some (.int (own_f6_4 v0))) h0) 0 0 (T.setTop (mkF m 4 #[.val (.int v0), .unset] []))
    exact own_b6_4 X C hh v0
theorem own_pn1 : plainName "java/lang/Integer" = true := by first | (simp [plainName, overriddenIn]; done) | decide +kernel
theorem own_c6 (l : Launch) (Z : State) (a0 : Array Value) (hw : ∀ d ∈ tables_1, d.before a0 Z = true) (x0 : Int32) (h0 : Heap) : own_Met l Z (⟨"java/lang/Integer", "numberOfLeadingZeros", "(I)I"⟩ : MethodName) jdk_33_method_47_code 2 (some .int) [] ({ frames := 0, cells := 0, slots := 0, locals := 0 } : Room) #[(.int x0)] h0 (own_QP (some (.int (own_f6_0 x0))) h0) :=
  own_enter (plainFor_of_name own_pn1) (own_ef6 x0) hw (fun p e s m below meth c T X C hh => own_b6_0 X C hh x0)
theorem own_d5_0 : decode jdk_35_method_48_code 0 = .ok (.lload_n 0, 1) := by decide +kernel
theorem own_d5_1 : decode jdk_35_method_48_code 1 = .ok (.bipush 32, 2) := by decide +kernel
theorem own_d5_3 : decode jdk_35_method_48_code 3 = .ok (.lushr, 1) := by decide +kernel
theorem own_d5_4 : decode jdk_35_method_48_code 4 = .ok (.l2i, 1) := by decide +kernel
theorem own_d5_5 : decode jdk_35_method_48_code 5 = .ok (.istore_n 2, 1) := by decide +kernel
theorem own_d5_6 : decode jdk_35_method_48_code 6 = .ok (.iload_n 2, 1) := by decide +kernel
theorem own_d5_7 : decode jdk_35_method_48_code 7 = .ok (.ifCond .ne 14, 3) := by decide +kernel
theorem own_d5_10 : decode jdk_35_method_48_code 10 = .ok (.bipush 32, 2) := by decide +kernel
theorem own_d5_12 : decode jdk_35_method_48_code 12 = .ok (.lload_n 0, 1) := by decide +kernel
theorem own_d5_13 : decode jdk_35_method_48_code 13 = .ok (.l2i, 1) := by decide +kernel
theorem own_d5_14 : decode jdk_35_method_48_code 14 = .ok (.invokestatic 308, 3) := by decide +kernel
theorem own_d5_17 : decode jdk_35_method_48_code 17 = .ok (.iadd, 1) := by decide +kernel
theorem own_d5_18 : decode jdk_35_method_48_code 18 = .ok (.goto 7, 3) := by decide +kernel
theorem own_d5_21 : decode jdk_35_method_48_code 21 = .ok (.iload_n 2, 1) := by decide +kernel
theorem own_d5_22 : decode jdk_35_method_48_code 22 = .ok (.invokestatic 308, 3) := by decide +kernel
theorem own_d5_25 : decode jdk_35_method_48_code 25 = .ok (.ireturn, 1) := by decide +kernel
theorem own_pd1 : parseMethodDescriptor "(I)I" = some ⟨[.int], some .int⟩ := by decide +kernel
theorem own_ef5 (x0 : Int64) : ∀ m, entryFrame m #[(.long x0)] 3 = mkF m 0 #[.val (.long x0), .second, .unset] [] := fun m => by first | (simp [entryFrame, mkF, argsToLocals, Value.category]; done) | rfl
def own_f5_21 (v0 : Int64) (v2 : Int32) : Int32 := (own_f6_0 v2)
set_option maxRecDepth 65536 in
theorem own_b5_21 {l : Launch} {p : Program} {e : Env} {below : List Frame} {s : State} {m : MethodId} {meth : Method} {c : Code} {Z : State} {a0 args : Array Value} {T : State} {h0 : Heap} (X : Stand p l e ({ frames := 1, cells := 0, slots := 0, locals := 16 } : Room) s m args below meth c T [] 0 0) (C : own_Ctx p s m meth c Z a0 tables_1 (⟨"java/lang/Long", "numberOfLeadingZeros", "(J)I"⟩ : MethodName) jdk_35_method_48_code 3 (some .int)) (hh : T.heap = h0) (v0 : Int64) (v2 : Int32) :
    own_Fin p e below s (own_QP (some (.int (own_f5_21 v0 v2))) h0) 0 0 (T.setTop (mkF m 21 #[.val (.long v0), .second, .val (.int v2)] [])) := by
  obtain ⟨hx, hby, hml, hZ, hown, hnm, hret, hlk, hw⟩ := id C
  refine own_go (fun tgt => XS.iloadN X.here hx rfl (hb hby own_d5_21) rfl) ?_
  show own_Fin p e below s (own_QP (some (.int (own_f5_21 v0 v2))) h0) 0 0 (T.setTop (mkF m 22 #[.val (.long v0), .second, .val (.int v2)] [(.int v2)]))
  obtain ⟨T1, X1, e1, st1⟩ := own_callP X hx hZ hh (y := (⟨"java/lang/Integer", "numberOfLeadingZeros", "(I)I"⟩ : MethodName)) hown (hw _ (List.mem_of_getElem? (i := 26) rfl)) (hw _ (List.mem_of_getElem? (i := 27) rfl)) (hw _ (List.mem_of_getElem? (i := 28) rfl)) (hw _ (List.mem_of_getElem? (i := 29) rfl)) (by decide) (argsL := [(.int v2)]) (rest := []) (own_c6 l Z a0 hw v2 _) (by decide) 0 (by decide) (by decide) (by decide) (g := (mkF m 22 #[.val (.long v0), .second, .val (.int v2)] [(.int v2)])) rfl (by rw [hml]; rfl) (lenOf own_pd1 rfl) rfl (by show 2 * 0 + _ ≤ _; exact Nat.le_of_eq rfl) (hb hby own_d5_22)
  refine own_go st1 ?_
  show own_Fin p e below s (own_QP (some (.int (own_f5_21 v0 v2))) h0) 0 0 (T1.setTop (mkF m 25 #[.val (.long v0), .second, .val (.int v2)] [(.int (own_f6_0 v2))]))
  exact own_ret X1 hlk hx (t := .int) hret rfl (Or.inl ⟨rfl, by simp, _, rfl⟩) (hb hby own_d5_25) ⟨rfl, rfl, e1⟩ (by decide) (by decide)
def own_f5_10 (v0 : Int64) (v2 : Int32) : Int32 := ((32 : Int32) + (own_f6_0 (v0.toInt32)))
set_option maxRecDepth 65536 in
theorem own_b5_10 {l : Launch} {p : Program} {e : Env} {below : List Frame} {s : State} {m : MethodId} {meth : Method} {c : Code} {Z : State} {a0 args : Array Value} {T : State} {h0 : Heap} (X : Stand p l e ({ frames := 1, cells := 0, slots := 0, locals := 16 } : Room) s m args below meth c T [] 0 0) (C : own_Ctx p s m meth c Z a0 tables_1 (⟨"java/lang/Long", "numberOfLeadingZeros", "(J)I"⟩ : MethodName) jdk_35_method_48_code 3 (some .int)) (hh : T.heap = h0) (v0 : Int64) (v2 : Int32) :
    own_Fin p e below s (own_QP (some (.int (own_f5_10 v0 v2))) h0) 0 0 (T.setTop (mkF m 10 #[.val (.long v0), .second, .val (.int v2)] [])) := by
  obtain ⟨hx, hby, hml, hZ, hown, hnm, hret, hlk, hw⟩ := id C
  refine own_go (fun tgt => XS.bipush X.here hx rfl (hb hby own_d5_10)) ?_
  show own_Fin p e below s (own_QP (some (.int (own_f5_10 v0 v2))) h0) 0 0 (T.setTop (mkF m 12 #[.val (.long v0), .second, .val (.int v2)] [(.int (32 : Int32))]))
  refine own_go (fun tgt => XS.lloadN X.here hx rfl (hb hby own_d5_12) rfl) ?_
  show own_Fin p e below s (own_QP (some (.int (own_f5_10 v0 v2))) h0) 0 0 (T.setTop (mkF m 13 #[.val (.long v0), .second, .val (.int v2)] [(.long v0), (.int (32 : Int32))]))
  refine own_go (fun tgt => XS.l2i X.here hx rfl (hb hby own_d5_13) rfl) ?_
  show own_Fin p e below s (own_QP (some (.int (own_f5_10 v0 v2))) h0) 0 0 (T.setTop (mkF m 14 #[.val (.long v0), .second, .val (.int v2)] [(.int (v0.toInt32)), (.int (32 : Int32))]))
  obtain ⟨T1, X1, e1, st1⟩ := own_callP X hx hZ hh (y := (⟨"java/lang/Integer", "numberOfLeadingZeros", "(I)I"⟩ : MethodName)) hown (hw _ (List.mem_of_getElem? (i := 26) rfl)) (hw _ (List.mem_of_getElem? (i := 27) rfl)) (hw _ (List.mem_of_getElem? (i := 28) rfl)) (hw _ (List.mem_of_getElem? (i := 29) rfl)) (by decide) (argsL := [(.int (v0.toInt32))]) (rest := [(.int (32 : Int32))]) (own_c6 l Z a0 hw (v0.toInt32) _) (by decide) 1 (by decide) (by decide) (by decide) (g := (mkF m 14 #[.val (.long v0), .second, .val (.int v2)] [(.int (v0.toInt32)), (.int (32 : Int32))])) rfl (by rw [hml]; rfl) (lenOf own_pd1 rfl) rfl (by show 2 * 0 + _ ≤ _; exact Nat.le_of_eq rfl) (hb hby own_d5_14)
  refine own_go st1 ?_
  show own_Fin p e below s (own_QP (some (.int (own_f5_10 v0 v2))) h0) 0 0 (T1.setTop (mkF m 17 #[.val (.long v0), .second, .val (.int v2)] [(.int (own_f6_0 (v0.toInt32))), (.int (32 : Int32))]))
  refine own_go (fun tgt => XS.iadd X1.here hx rfl (hb hby own_d5_17) rfl) ?_
  show own_Fin p e below s (own_QP (some (.int (own_f5_10 v0 v2))) h0) 0 0 (T1.setTop (mkF m 18 #[.val (.long v0), .second, .val (.int v2)] [(.int ((32 : Int32) + (own_f6_0 (v0.toInt32))))]))
  refine own_go (fun tgt => XS.goto X1.here hx rfl (pc0 := 18) (pc' := 25) rfl (hb hby own_d5_18) (by decide) (by decide)) ?_
  show own_Fin p e below s (own_QP (some (.int (own_f5_10 v0 v2))) h0) 0 0 (T1.setTop (mkF m 25 #[.val (.long v0), .second, .val (.int v2)] [(.int ((32 : Int32) + (own_f6_0 (v0.toInt32))))]))
  exact own_ret X1 hlk hx (t := .int) hret rfl (Or.inl ⟨rfl, by simp, _, rfl⟩) (hb hby own_d5_25) ⟨rfl, rfl, e1⟩ (by decide) (by decide)
def own_f5_0 (v0 : Int64) : Int32 := if (((v0.toUInt64 >>> ((32 : Int32) &&& 0x3f).toInt64.toUInt64).toInt64).toInt32) = (0 : Int32) then (own_f5_10 v0 (((v0.toUInt64 >>> ((32 : Int32) &&& 0x3f).toInt64.toUInt64).toInt64).toInt32)) else (own_f5_21 v0 (((v0.toUInt64 >>> ((32 : Int32) &&& 0x3f).toInt64.toUInt64).toInt64).toInt32))
set_option maxRecDepth 65536 in
theorem own_b5_0 {l : Launch} {p : Program} {e : Env} {below : List Frame} {s : State} {m : MethodId} {meth : Method} {c : Code} {Z : State} {a0 args : Array Value} {T : State} {h0 : Heap} (X : Stand p l e ({ frames := 1, cells := 0, slots := 0, locals := 16 } : Room) s m args below meth c T [] 0 0) (C : own_Ctx p s m meth c Z a0 tables_1 (⟨"java/lang/Long", "numberOfLeadingZeros", "(J)I"⟩ : MethodName) jdk_35_method_48_code 3 (some .int)) (hh : T.heap = h0) (v0 : Int64) :
    own_Fin p e below s (own_QP (some (.int (own_f5_0 v0))) h0) 0 0 (T.setTop (mkF m 0 #[.val (.long v0), .second, .unset] [])) := by
  obtain ⟨hx, hby, hml, hZ, hown, hnm, hret, hlk, hw⟩ := id C
  refine own_go (fun tgt => XS.lloadN X.here hx rfl (hb hby own_d5_0) rfl) ?_
  show own_Fin p e below s (own_QP (some (.int (own_f5_0 v0))) h0) 0 0 (T.setTop (mkF m 1 #[.val (.long v0), .second, .unset] [(.long v0)]))
  refine own_go (fun tgt => XS.bipush X.here hx rfl (hb hby own_d5_1)) ?_
  show own_Fin p e below s (own_QP (some (.int (own_f5_0 v0))) h0) 0 0 (T.setTop (mkF m 3 #[.val (.long v0), .second, .unset] [(.int (32 : Int32)), (.long v0)]))
  refine own_go (fun tgt => XS.lushr X.here hx rfl (hb hby own_d5_3) rfl) ?_
  show own_Fin p e below s (own_QP (some (.int (own_f5_0 v0))) h0) 0 0 (T.setTop (mkF m 4 #[.val (.long v0), .second, .unset] [(.long ((v0.toUInt64 >>> ((32 : Int32) &&& 0x3f).toInt64.toUInt64).toInt64))]))
  refine own_go (fun tgt => XS.l2i X.here hx rfl (hb hby own_d5_4) rfl) ?_
  show own_Fin p e below s (own_QP (some (.int (own_f5_0 v0))) h0) 0 0 (T.setTop (mkF m 5 #[.val (.long v0), .second, .unset] [(.int (((v0.toUInt64 >>> ((32 : Int32) &&& 0x3f).toInt64.toUInt64).toInt64).toInt32))]))
  refine own_go (fun tgt => XS.istoreN X.here hx rfl (hb hby own_d5_5) rfl (l' := #[.val (.long v0), .second, .val (.int (((v0.toUInt64 >>> ((32 : Int32) &&& 0x3f).toInt64.toUInt64).toInt64).toInt32))]) rfl) ?_
  show own_Fin p e below s (own_QP (some (.int (own_f5_0 v0))) h0) 0 0 (T.setTop (mkF m 6 #[.val (.long v0), .second, .val (.int (((v0.toUInt64 >>> ((32 : Int32) &&& 0x3f).toInt64.toUInt64).toInt64).toInt32))] []))
  refine own_go (fun tgt => XS.iloadN X.here hx rfl (hb hby own_d5_6) rfl) ?_
  show own_Fin p e below s (own_QP (some (.int (own_f5_0 v0))) h0) 0 0 (T.setTop (mkF m 7 #[.val (.long v0), .second, .val (.int (((v0.toUInt64 >>> ((32 : Int32) &&& 0x3f).toInt64.toUInt64).toInt64).toInt32))] [(.int (((v0.toUInt64 >>> ((32 : Int32) &&& 0x3f).toInt64.toUInt64).toInt64).toInt32))]))
  by_cases hq : (((v0.toUInt64 >>> ((32 : Int32) &&& 0x3f).toInt64.toUInt64).toInt64).toInt32) = (0 : Int32)
  · show own_Fin p e below s (own_QP (some (.int (own_f5_0 v0))) h0) 0 0 _
    rw [show (own_f5_0 v0) = (own_f5_10 v0 (((v0.toUInt64 >>> ((32 : Int32) &&& 0x3f).toInt64.toUInt64).toInt64).toInt32)) from if_pos hq]
    refine own_go (fun tgt => XS.ifNo X.here hx rfl (hb hby own_d5_7) rfl ((if0 _ _).trans (teq hq).2)) ?_
    show own_Fin p e below s (own_QP (some (.int (own_f5_10 v0 (((v0.toUInt64 >>> ((32 : Int32) &&& 0x3f).toInt64.toUInt64).toInt64).toInt32)))) h0) 0 0 (T.setTop (mkF m 10 #[.val (.long v0), .second, .val (.int (((v0.toUInt64 >>> ((32 : Int32) &&& 0x3f).toInt64.toUInt64).toInt64).toInt32))] []))
    exact own_b5_10 X C hh v0 (((v0.toUInt64 >>> ((32 : Int32) &&& 0x3f).toInt64.toUInt64).toInt64).toInt32)
  · show own_Fin p e below s (own_QP (some (.int (own_f5_0 v0))) h0) 0 0 _
    rw [show (own_f5_0 v0) = (own_f5_21 v0 (((v0.toUInt64 >>> ((32 : Int32) &&& 0x3f).toInt64.toUInt64).toInt64).toInt32)) from if_neg hq]
    refine own_go (fun tgt => XS.ifYes X.here hx rfl (pc0 := 7) (pc' := 21) rfl (hb hby own_d5_7) rfl ((if0 _ _).trans (feq hq).2) (by decide) (by decide)) ?_
    show own_Fin p e below s (own_QP (some (.int (own_f5_21 v0 (((v0.toUInt64 >>> ((32 : Int32) &&& 0x3f).toInt64.toUInt64).toInt64).toInt32)))) h0) 0 0 (T.setTop (mkF m 21 #[.val (.long v0), .second, .val (.int (((v0.toUInt64 >>> ((32 : Int32) &&& 0x3f).toInt64.toUInt64).toInt64).toInt32))] []))
    exact own_b5_21 X C hh v0 (((v0.toUInt64 >>> ((32 : Int32) &&& 0x3f).toInt64.toUInt64).toInt64).toInt32)
theorem own_pn2 : plainName "java/lang/Long" = true := by first | (simp [plainName, overriddenIn]; done) | decide +kernel
theorem own_c5 (l : Launch) (Z : State) (a0 : Array Value) (hw : ∀ d ∈ tables_1, d.before a0 Z = true) (x0 : Int64) (h0 : Heap) : own_Met l Z (⟨"java/lang/Long", "numberOfLeadingZeros", "(J)I"⟩ : MethodName) jdk_35_method_48_code 3 (some .int) [] ({ frames := 1, cells := 0, slots := 0, locals := 16 } : Room) #[(.long x0)] h0 (own_QP (some (.int (own_f5_0 x0))) h0) :=
  own_enter (plainFor_of_name own_pn2) (own_ef5 x0) hw (fun p e s m below meth c T X C hh => own_b5_0 X C hh x0)
theorem own_d7_0 : decode jdk_29_method_65_code 0 = .ok (.iload_n 0, 1) := by decide +kernel
theorem own_d7_1 : decode jdk_29_method_65_code 1 = .ok (.iload_n 1, 1) := by decide +kernel
theorem own_d7_2 : decode jdk_29_method_65_code 2 = .ok (.if_icmp .lt 7, 3) := by decide +kernel
theorem own_d7_5 : decode jdk_29_method_65_code 5 = .ok (.iload_n 0, 1) := by decide +kernel
theorem own_d7_6 : decode jdk_29_method_65_code 6 = .ok (.goto 4, 3) := by decide +kernel
theorem own_d7_9 : decode jdk_29_method_65_code 9 = .ok (.iload_n 1, 1) := by decide +kernel
theorem own_d7_10 : decode jdk_29_method_65_code 10 = .ok (.ireturn, 1) := by decide +kernel
theorem own_ef7 (x0 : Int32) (x1 : Int32) : ∀ m, entryFrame m #[(.int x0), (.int x1)] 2 = mkF m 0 #[.val (.int x0), .val (.int x1)] [] := fun m => by first | (simp [entryFrame, mkF, argsToLocals, Value.category]; done) | rfl
def own_f7_9 (v0 : Int32) (v1 : Int32) : Int32 := v1
set_option maxRecDepth 65536 in
theorem own_b7_9 {l : Launch} {p : Program} {e : Env} {below : List Frame} {s : State} {m : MethodId} {meth : Method} {c : Code} {Z : State} {a0 args : Array Value} {T : State} {h0 : Heap} (X : Stand p l e ({ frames := 0, cells := 0, slots := 0, locals := 0 } : Room) s m args below meth c T [] 0 0) (C : own_Ctx p s m meth c Z a0 tables_1 (⟨"java/lang/Math", "max", "(II)I"⟩ : MethodName) jdk_29_method_65_code 2 (some .int)) (hh : T.heap = h0) (v0 : Int32) (v1 : Int32) :
    own_Fin p e below s (own_QP (some (.int (own_f7_9 v0 v1))) h0) 0 0 (T.setTop (mkF m 9 #[.val (.int v0), .val (.int v1)] [])) := by
  obtain ⟨hx, hby, hml, hZ, hown, hnm, hret, hlk, hw⟩ := id C
  refine own_go (fun tgt => XS.iloadN X.here hx rfl (hb hby own_d7_9) rfl) ?_
  show own_Fin p e below s (own_QP (some (.int (own_f7_9 v0 v1))) h0) 0 0 (T.setTop (mkF m 10 #[.val (.int v0), .val (.int v1)] [(.int v1)]))
  exact own_ret X hlk hx (t := .int) hret rfl (Or.inl ⟨rfl, by simp, _, rfl⟩) (hb hby own_d7_10) ⟨rfl, rfl, hh⟩ (by decide) (by decide)
def own_f7_5 (v0 : Int32) (v1 : Int32) : Int32 := v0
set_option maxRecDepth 65536 in
theorem own_b7_5 {l : Launch} {p : Program} {e : Env} {below : List Frame} {s : State} {m : MethodId} {meth : Method} {c : Code} {Z : State} {a0 args : Array Value} {T : State} {h0 : Heap} (X : Stand p l e ({ frames := 0, cells := 0, slots := 0, locals := 0 } : Room) s m args below meth c T [] 0 0) (C : own_Ctx p s m meth c Z a0 tables_1 (⟨"java/lang/Math", "max", "(II)I"⟩ : MethodName) jdk_29_method_65_code 2 (some .int)) (hh : T.heap = h0) (v0 : Int32) (v1 : Int32) :
    own_Fin p e below s (own_QP (some (.int (own_f7_5 v0 v1))) h0) 0 0 (T.setTop (mkF m 5 #[.val (.int v0), .val (.int v1)] [])) := by
  obtain ⟨hx, hby, hml, hZ, hown, hnm, hret, hlk, hw⟩ := id C
  refine own_go (fun tgt => XS.iloadN X.here hx rfl (hb hby own_d7_5) rfl) ?_
  show own_Fin p e below s (own_QP (some (.int (own_f7_5 v0 v1))) h0) 0 0 (T.setTop (mkF m 6 #[.val (.int v0), .val (.int v1)] [(.int v0)]))
  refine own_go (fun tgt => XS.goto X.here hx rfl (pc0 := 6) (pc' := 10) rfl (hb hby own_d7_6) (by decide) (by decide)) ?_
  show own_Fin p e below s (own_QP (some (.int (own_f7_5 v0 v1))) h0) 0 0 (T.setTop (mkF m 10 #[.val (.int v0), .val (.int v1)] [(.int v0)]))
  exact own_ret X hlk hx (t := .int) hret rfl (Or.inl ⟨rfl, by simp, _, rfl⟩) (hb hby own_d7_10) ⟨rfl, rfl, hh⟩ (by decide) (by decide)
def own_f7_0 (v0 : Int32) (v1 : Int32) : Int32 := if v0 < v1 then (own_f7_9 v0 v1) else (own_f7_5 v0 v1)
set_option maxRecDepth 65536 in
theorem own_b7_0 {l : Launch} {p : Program} {e : Env} {below : List Frame} {s : State} {m : MethodId} {meth : Method} {c : Code} {Z : State} {a0 args : Array Value} {T : State} {h0 : Heap} (X : Stand p l e ({ frames := 0, cells := 0, slots := 0, locals := 0 } : Room) s m args below meth c T [] 0 0) (C : own_Ctx p s m meth c Z a0 tables_1 (⟨"java/lang/Math", "max", "(II)I"⟩ : MethodName) jdk_29_method_65_code 2 (some .int)) (hh : T.heap = h0) (v0 : Int32) (v1 : Int32) :
    own_Fin p e below s (own_QP (some (.int (own_f7_0 v0 v1))) h0) 0 0 (T.setTop (mkF m 0 #[.val (.int v0), .val (.int v1)] [])) := by
  obtain ⟨hx, hby, hml, hZ, hown, hnm, hret, hlk, hw⟩ := id C
  refine own_go (fun tgt => XS.iloadN X.here hx rfl (hb hby own_d7_0) rfl) ?_
  show own_Fin p e below s (own_QP (some (.int (own_f7_0 v0 v1))) h0) 0 0 (T.setTop (mkF m 1 #[.val (.int v0), .val (.int v1)] [(.int v0)]))
  refine own_go (fun tgt => XS.iloadN X.here hx rfl (hb hby own_d7_1) rfl) ?_
  show own_Fin p e below s (own_QP (some (.int (own_f7_0 v0 v1))) h0) 0 0 (T.setTop (mkF m 2 #[.val (.int v0), .val (.int v1)] [(.int v1), (.int v0)]))
  by_cases hq : v0 < v1
  · show own_Fin p e below s (own_QP (some (.int (own_f7_0 v0 v1))) h0) 0 0 _
    rw [show (own_f7_0 v0 v1) = (own_f7_9 v0 v1) from if_pos hq]
    refine own_go (fun tgt => XS.icmpYes X.here hx rfl (pc0 := 2) (pc' := 9) rfl (hb hby own_d7_2) rfl (tlt hq).1 (by decide) (by decide)) ?_
    show own_Fin p e below s (own_QP (some (.int (own_f7_9 v0 v1))) h0) 0 0 (T.setTop (mkF m 9 #[.val (.int v0), .val (.int v1)] []))
    exact own_b7_9 X C hh v0 v1
  · show own_Fin p e below s (own_QP (some (.int (own_f7_0 v0 v1))) h0) 0 0 _
    rw [show (own_f7_0 v0 v1) = (own_f7_5 v0 v1) from if_neg hq]
    refine own_go (fun tgt => XS.icmpNo X.here hx rfl (hb hby own_d7_2) rfl (flt hq).1) ?_
    show own_Fin p e below s (own_QP (some (.int (own_f7_5 v0 v1))) h0) 0 0 (T.setTop (mkF m 5 #[.val (.int v0), .val (.int v1)] []))
    exact own_b7_5 X C hh v0 v1
theorem own_c7 (l : Launch) (Z : State) (a0 : Array Value) (hw : ∀ d ∈ tables_1, d.before a0 Z = true) (x0 : Int32) (x1 : Int32) (h0 : Heap) : own_Met l Z (⟨"java/lang/Math", "max", "(II)I"⟩ : MethodName) jdk_29_method_65_code 2 (some .int) [] ({ frames := 0, cells := 0, slots := 0, locals := 0 } : Room) #[(.int x0), (.int x1)] h0 (own_QP (some (.int (own_f7_0 x0 x1))) h0) :=
  own_enter (Jvm.Free.JP.mathPlain rfl (by decide +kernel)) (own_ef7 x0 x1) hw (fun p e s m below meth c T X C hh => own_b7_0 X C hh x0 x1)
theorem own_d8_0 : decode method_4_code 0 = .ok (.lload_n 0, 1) := by decide +kernel
theorem own_d8_1 : decode method_4_code 1 = .ok (.ldc2_w 32, 3) := by decide +kernel
theorem own_d8_4 : decode method_4_code 4 = .ok (.lcmp, 1) := by decide +kernel
theorem own_d8_5 : decode method_4_code 5 = .ok (.ifCond .ge 5, 3) := by decide +kernel
theorem own_d8_8 : decode method_4_code 8 = .ok (.iconst 1, 1) := by decide +kernel
theorem own_d8_9 : decode method_4_code 9 = .ok (.ireturn, 1) := by decide +kernel
theorem own_d8_10 : decode method_4_code 10 = .ok (.lload_n 0, 1) := by decide +kernel
theorem own_d8_11 : decode method_4_code 11 = .ok (.ldc2_w 34, 3) := by decide +kernel
theorem own_d8_14 : decode method_4_code 14 = .ok (.lcmp, 1) := by decide +kernel
theorem own_d8_15 : decode method_4_code 15 = .ok (.ifCond .ge 5, 3) := by decide +kernel
theorem own_d8_18 : decode method_4_code 18 = .ok (.iconst 2, 1) := by decide +kernel
theorem own_d8_19 : decode method_4_code 19 = .ok (.ireturn, 1) := by decide +kernel
theorem own_d8_20 : decode method_4_code 20 = .ok (.lload_n 0, 1) := by decide +kernel
theorem own_d8_21 : decode method_4_code 21 = .ok (.ldc2_w 36, 3) := by decide +kernel
theorem own_d8_24 : decode method_4_code 24 = .ok (.lcmp, 1) := by decide +kernel
theorem own_d8_25 : decode method_4_code 25 = .ok (.ifCond .ge 5, 3) := by decide +kernel
theorem own_d8_28 : decode method_4_code 28 = .ok (.iconst 3, 1) := by decide +kernel
theorem own_d8_29 : decode method_4_code 29 = .ok (.ireturn, 1) := by decide +kernel
theorem own_d8_30 : decode method_4_code 30 = .ok (.lload_n 0, 1) := by decide +kernel
theorem own_d8_31 : decode method_4_code 31 = .ok (.ldc2_w 38, 3) := by decide +kernel
theorem own_d8_34 : decode method_4_code 34 = .ok (.lcmp, 1) := by decide +kernel
theorem own_d8_35 : decode method_4_code 35 = .ok (.ifCond .ge 5, 3) := by decide +kernel
theorem own_d8_38 : decode method_4_code 38 = .ok (.iconst 4, 1) := by decide +kernel
theorem own_d8_39 : decode method_4_code 39 = .ok (.ireturn, 1) := by decide +kernel
theorem own_d8_40 : decode method_4_code 40 = .ok (.lload_n 0, 1) := by decide +kernel
theorem own_d8_41 : decode method_4_code 41 = .ok (.ldc2_w 40, 3) := by decide +kernel
theorem own_d8_44 : decode method_4_code 44 = .ok (.lcmp, 1) := by decide +kernel
theorem own_d8_45 : decode method_4_code 45 = .ok (.ifCond .ge 5, 3) := by decide +kernel
theorem own_d8_48 : decode method_4_code 48 = .ok (.iconst 5, 1) := by decide +kernel
theorem own_d8_49 : decode method_4_code 49 = .ok (.ireturn, 1) := by decide +kernel
theorem own_d8_50 : decode method_4_code 50 = .ok (.lload_n 0, 1) := by decide +kernel
theorem own_d8_51 : decode method_4_code 51 = .ok (.ldc2_w 42, 3) := by decide +kernel
theorem own_d8_54 : decode method_4_code 54 = .ok (.lcmp, 1) := by decide +kernel
theorem own_d8_55 : decode method_4_code 55 = .ok (.ifCond .ge 6, 3) := by decide +kernel
theorem own_d8_58 : decode method_4_code 58 = .ok (.bipush 6, 2) := by decide +kernel
theorem own_d8_60 : decode method_4_code 60 = .ok (.ireturn, 1) := by decide +kernel
theorem own_d8_61 : decode method_4_code 61 = .ok (.lload_n 0, 1) := by decide +kernel
theorem own_d8_62 : decode method_4_code 62 = .ok (.ldc2_w 44, 3) := by decide +kernel
theorem own_d8_65 : decode method_4_code 65 = .ok (.lcmp, 1) := by decide +kernel
theorem own_d8_66 : decode method_4_code 66 = .ok (.ifCond .ge 6, 3) := by decide +kernel
theorem own_d8_69 : decode method_4_code 69 = .ok (.bipush 7, 2) := by decide +kernel
theorem own_d8_71 : decode method_4_code 71 = .ok (.ireturn, 1) := by decide +kernel
theorem own_d8_72 : decode method_4_code 72 = .ok (.bipush 8, 2) := by decide +kernel
theorem own_d8_74 : decode method_4_code 74 = .ok (.ireturn, 1) := by decide +kernel
theorem own_ef8 (x0 : Int64) : ∀ m, entryFrame m #[(.long x0)] 2 = mkF m 0 #[.val (.long x0), .second] [] := fun m => by first | (simp [entryFrame, mkF, argsToLocals, Value.category]; done) | rfl
def own_f8_72 (v0 : Int64) : Int32 := (8 : Int32)
set_option maxRecDepth 65536 in
theorem own_b8_72 {l : Launch} {p : Program} {e : Env} {below : List Frame} {s : State} {m : MethodId} {meth : Method} {c : Code} {Z : State} {a0 args : Array Value} {T : State} {h0 : Heap} (X : Stand p l e ({ frames := 0, cells := 0, slots := 0, locals := 0 } : Room) s m args below meth c T [] 0 0) (C : own_Ctx p s m meth c Z a0 tables_1 (⟨"com/example/keystripe/keystripe/model/PrefixBytesPinLaw", "refLength", "(J)I"⟩ : MethodName) method_4_code 2 (some .int)) (hh : T.heap = h0) (v0 : Int64) :
    own_Fin p e below s (own_QP (some (.int (own_f8_72 v0))) h0) 0 0 (T.setTop (mkF m 72 #[.val (.long v0), .second] [])) := by
  obtain ⟨hx, hby, hml, hZ, hown, hnm, hret, hlk, hw⟩ := id C
  refine own_go (fun tgt => XS.bipush X.here hx rfl (hb hby own_d8_72)) ?_
  show own_Fin p e below s (own_QP (some (.int (own_f8_72 v0))) h0) 0 0 (T.setTop (mkF m 74 #[.val (.long v0), .second] [(.int (8 : Int32))]))
  exact own_ret X hlk hx (t := .int) hret rfl (Or.inl ⟨rfl, by simp, _, rfl⟩) (hb hby own_d8_74) ⟨rfl, rfl, hh⟩ (by decide) (by decide)
def own_f8_69 (v0 : Int64) : Int32 := (7 : Int32)
set_option maxRecDepth 65536 in
theorem own_b8_69 {l : Launch} {p : Program} {e : Env} {below : List Frame} {s : State} {m : MethodId} {meth : Method} {c : Code} {Z : State} {a0 args : Array Value} {T : State} {h0 : Heap} (X : Stand p l e ({ frames := 0, cells := 0, slots := 0, locals := 0 } : Room) s m args below meth c T [] 0 0) (C : own_Ctx p s m meth c Z a0 tables_1 (⟨"com/example/keystripe/keystripe/model/PrefixBytesPinLaw", "refLength", "(J)I"⟩ : MethodName) method_4_code 2 (some .int)) (hh : T.heap = h0) (v0 : Int64) :
    own_Fin p e below s (own_QP (some (.int (own_f8_69 v0))) h0) 0 0 (T.setTop (mkF m 69 #[.val (.long v0), .second] [])) := by
  obtain ⟨hx, hby, hml, hZ, hown, hnm, hret, hlk, hw⟩ := id C
  refine own_go (fun tgt => XS.bipush X.here hx rfl (hb hby own_d8_69)) ?_
  show own_Fin p e below s (own_QP (some (.int (own_f8_69 v0))) h0) 0 0 (T.setTop (mkF m 71 #[.val (.long v0), .second] [(.int (7 : Int32))]))
  exact own_ret X hlk hx (t := .int) hret rfl (Or.inl ⟨rfl, by simp, _, rfl⟩) (hb hby own_d8_71) ⟨rfl, rfl, hh⟩ (by decide) (by decide)
def own_f8_61 (v0 : Int64) : Int32 := if v0 < (72057594037927936 : Int64) then (own_f8_69 v0) else (own_f8_72 v0)
set_option maxRecDepth 65536 in
theorem own_b8_61 {l : Launch} {p : Program} {e : Env} {below : List Frame} {s : State} {m : MethodId} {meth : Method} {c : Code} {Z : State} {a0 args : Array Value} {T : State} {h0 : Heap} (X : Stand p l e ({ frames := 0, cells := 0, slots := 0, locals := 0 } : Room) s m args below meth c T [] 0 0) (C : own_Ctx p s m meth c Z a0 tables_1 (⟨"com/example/keystripe/keystripe/model/PrefixBytesPinLaw", "refLength", "(J)I"⟩ : MethodName) method_4_code 2 (some .int)) (hh : T.heap = h0) (v0 : Int64) :
    own_Fin p e below s (own_QP (some (.int (own_f8_61 v0))) h0) 0 0 (T.setTop (mkF m 61 #[.val (.long v0), .second] [])) := by
  obtain ⟨hx, hby, hml, hZ, hown, hnm, hret, hlk, hw⟩ := id C
  refine own_go (fun tgt => XS.lloadN X.here hx rfl (hb hby own_d8_61) rfl) ?_
  show own_Fin p e below s (own_QP (some (.int (own_f8_61 v0))) h0) 0 0 (T.setTop (mkF m 62 #[.val (.long v0), .second] [(.long v0)]))
  refine own_go (fun tgt => X.ldc2Long hx hown (mvT hZ (hw _ (List.mem_of_getElem? (i := 50) rfl))) (g := (mkF m 62 #[.val (.long v0), .second] [(.long v0)])) rfl (hb hby own_d8_62) tgt) ?_
  show own_Fin p e below s (own_QP (some (.int (own_f8_61 v0))) h0) 0 0 (T.setTop (mkF m 65 #[.val (.long v0), .second] [(.long (72057594037927936 : Int64)), (.long v0)]))
  refine own_go (fun tgt => XS.lcmp X.here hx rfl (hb hby own_d8_65) rfl) ?_
  show own_Fin p e below s (own_QP (some (.int (own_f8_61 v0))) h0) 0 0 (T.setTop (mkF m 66 #[.val (.long v0), .second] [(.int (lcmpW v0 (72057594037927936 : Int64)))]))
  by_cases hq : v0 < (72057594037927936 : Int64)
  · show own_Fin p e below s (own_QP (some (.int (own_f8_61 v0))) h0) 0 0 _
    rw [show (own_f8_61 v0) = (own_f8_69 v0) from if_pos hq]
    refine own_go (fun tgt => XS.ifNo X.here hx rfl (hb hby own_d8_66) rfl ((if0 _ _).trans (tlt ((lw_lt v0 (72057594037927936 : Int64)).mpr hq)).2.1)) ?_
    show own_Fin p e below s (own_QP (some (.int (own_f8_69 v0))) h0) 0 0 (T.setTop (mkF m 69 #[.val (.long v0), .second] []))
    exact own_b8_69 X C hh v0
  · show own_Fin p e below s (own_QP (some (.int (own_f8_61 v0))) h0) 0 0 _
    rw [show (own_f8_61 v0) = (own_f8_72 v0) from if_neg hq]
    refine own_go (fun tgt => XS.ifYes X.here hx rfl (pc0 := 66) (pc' := 72) rfl (hb hby own_d8_66) rfl ((if0 _ _).trans (flt (fun q => hq ((lw_lt v0 (72057594037927936 : Int64)).mp q))).2.1) (by decide) (by decide)) ?_
    show own_Fin p e below s (own_QP (some (.int (own_f8_72 v0))) h0) 0 0 (T.setTop (mkF m 72 #[.val (.long v0), .second] []))
    exact own_b8_72 X C hh v0
def own_f8_58 (v0 : Int64) : Int32 := (6 : Int32)
set_option maxRecDepth 65536 in
theorem own_b8_58 {l : Launch} {p : Program} {e : Env} {below : List Frame} {s : State} {m : MethodId} {meth : Method} {c : Code} {Z : State} {a0 args : Array Value} {T : State} {h0 : Heap} (X : Stand p l e ({ frames := 0, cells := 0, slots := 0, locals := 0 } : Room) s m args below meth c T [] 0 0) (C : own_Ctx p s m meth c Z a0 tables_1 (⟨"com/example/keystripe/keystripe/model/PrefixBytesPinLaw", "refLength", "(J)I"⟩ : MethodName) method_4_code 2 (some .int)) (hh : T.heap = h0) (v0 : Int64) :
    own_Fin p e below s (own_QP (some (.int (own_f8_58 v0))) h0) 0 0 (T.setTop (mkF m 58 #[.val (.long v0), .second] [])) := by
  obtain ⟨hx, hby, hml, hZ, hown, hnm, hret, hlk, hw⟩ := id C
  refine own_go (fun tgt => XS.bipush X.here hx rfl (hb hby own_d8_58)) ?_
  show own_Fin p e below s (own_QP (some (.int (own_f8_58 v0))) h0) 0 0 (T.setTop (mkF m 60 #[.val (.long v0), .second] [(.int (6 : Int32))]))
  exact own_ret X hlk hx (t := .int) hret rfl (Or.inl ⟨rfl, by simp, _, rfl⟩) (hb hby own_d8_60) ⟨rfl, rfl, hh⟩ (by decide) (by decide)
def own_f8_50 (v0 : Int64) : Int32 := if v0 < (281474976710656 : Int64) then (own_f8_58 v0) else (own_f8_61 v0)
set_option maxRecDepth 65536 in
theorem own_b8_50 {l : Launch} {p : Program} {e : Env} {below : List Frame} {s : State} {m : MethodId} {meth : Method} {c : Code} {Z : State} {a0 args : Array Value} {T : State} {h0 : Heap} (X : Stand p l e ({ frames := 0, cells := 0, slots := 0, locals := 0 } : Room) s m args below meth c T [] 0 0) (C : own_Ctx p s m meth c Z a0 tables_1 (⟨"com/example/keystripe/keystripe/model/PrefixBytesPinLaw", "refLength", "(J)I"⟩ : MethodName) method_4_code 2 (some .int)) (hh : T.heap = h0) (v0 : Int64) :
    own_Fin p e below s (own_QP (some (.int (own_f8_50 v0))) h0) 0 0 (T.setTop (mkF m 50 #[.val (.long v0), .second] [])) := by
  obtain ⟨hx, hby, hml, hZ, hown, hnm, hret, hlk, hw⟩ := id C
  refine own_go (fun tgt => XS.lloadN X.here hx rfl (hb hby own_d8_50) rfl) ?_
  show own_Fin p e below s (own_QP (some (.int (own_f8_50 v0))) h0) 0 0 (T.setTop (mkF m 51 #[.val (.long v0), .second] [(.long v0)]))
  refine own_go (fun tgt => X.ldc2Long hx hown (mvT hZ (hw _ (List.mem_of_getElem? (i := 49) rfl))) (g := (mkF m 51 #[.val (.long v0), .second] [(.long v0)])) rfl (hb hby own_d8_51) tgt) ?_
  show own_Fin p e below s (own_QP (some (.int (own_f8_50 v0))) h0) 0 0 (T.setTop (mkF m 54 #[.val (.long v0), .second] [(.long (281474976710656 : Int64)), (.long v0)]))
  refine own_go (fun tgt => XS.lcmp X.here hx rfl (hb hby own_d8_54) rfl) ?_
  show own_Fin p e below s (own_QP (some (.int (own_f8_50 v0))) h0) 0 0 (T.setTop (mkF m 55 #[.val (.long v0), .second] [(.int (lcmpW v0 (281474976710656 : Int64)))]))
  by_cases hq : v0 < (281474976710656 : Int64)
  · show own_Fin p e below s (own_QP (some (.int (own_f8_50 v0))) h0) 0 0 _
    rw [show (own_f8_50 v0) = (own_f8_58 v0) from if_pos hq]
    refine own_go (fun tgt => XS.ifNo X.here hx rfl (hb hby own_d8_55) rfl ((if0 _ _).trans (tlt ((lw_lt v0 (281474976710656 : Int64)).mpr hq)).2.1)) ?_
    show own_Fin p e below s (own_QP (some (.int (own_f8_58 v0))) h0) 0 0 (T.setTop (mkF m 58 #[.val (.long v0), .second] []))
    exact own_b8_58 X C hh v0
  · show own_Fin p e below s (own_QP (some (.int (own_f8_50 v0))) h0) 0 0 _
    rw [show (own_f8_50 v0) = (own_f8_61 v0) from if_neg hq]
    refine own_go (fun tgt => XS.ifYes X.here hx rfl (pc0 := 55) (pc' := 61) rfl (hb hby own_d8_55) rfl ((if0 _ _).trans (flt (fun q => hq ((lw_lt v0 (281474976710656 : Int64)).mp q))).2.1) (by decide) (by decide)) ?_
    show own_Fin p e below s (own_QP (some (.int (own_f8_61 v0))) h0) 0 0 (T.setTop (mkF m 61 #[.val (.long v0), .second] []))
    exact own_b8_61 X C hh v0
def own_f8_48 (v0 : Int64) : Int32 := (5 : Int32)
set_option maxRecDepth 65536 in
theorem own_b8_48 {l : Launch} {p : Program} {e : Env} {below : List Frame} {s : State} {m : MethodId} {meth : Method} {c : Code} {Z : State} {a0 args : Array Value} {T : State} {h0 : Heap} (X : Stand p l e ({ frames := 0, cells := 0, slots := 0, locals := 0 } : Room) s m args below meth c T [] 0 0) (C : own_Ctx p s m meth c Z a0 tables_1 (⟨"com/example/keystripe/keystripe/model/PrefixBytesPinLaw", "refLength", "(J)I"⟩ : MethodName) method_4_code 2 (some .int)) (hh : T.heap = h0) (v0 : Int64) :
    own_Fin p e below s (own_QP (some (.int (own_f8_48 v0))) h0) 0 0 (T.setTop (mkF m 48 #[.val (.long v0), .second] [])) := by
  obtain ⟨hx, hby, hml, hZ, hown, hnm, hret, hlk, hw⟩ := id C
  refine own_go (fun tgt => XS.iconst X.here hx rfl (hb hby own_d8_48)) ?_
  show own_Fin p e below s (own_QP (some (.int (own_f8_48 v0))) h0) 0 0 (T.setTop (mkF m 49 #[.val (.long v0), .second] [(.int (5 : Int32))]))
  exact own_ret X hlk hx (t := .int) hret rfl (Or.inl ⟨rfl, by simp, _, rfl⟩) (hb hby own_d8_49) ⟨rfl, rfl, hh⟩ (by decide) (by decide)
def own_f8_40 (v0 : Int64) : Int32 := if v0 < (1099511627776 : Int64) then (own_f8_48 v0) else (own_f8_50 v0)
set_option maxRecDepth 65536 in
theorem own_b8_40 {l : Launch} {p : Program} {e : Env} {below : List Frame} {s : State} {m : MethodId} {meth : Method} {c : Code} {Z : State} {a0 args : Array Value} {T : State} {h0 : Heap} (X : Stand p l e ({ frames := 0, cells := 0, slots := 0, locals := 0 } : Room) s m args below meth c T [] 0 0) (C : own_Ctx p s m meth c Z a0 tables_1 (⟨"com/example/keystripe/keystripe/model/PrefixBytesPinLaw", "refLength", "(J)I"⟩ : MethodName) method_4_code 2 (some .int)) (hh : T.heap = h0) (v0 : Int64) :
    own_Fin p e below s (own_QP (some (.int (own_f8_40 v0))) h0) 0 0 (T.setTop (mkF m 40 #[.val (.long v0), .second] [])) := by
  obtain ⟨hx, hby, hml, hZ, hown, hnm, hret, hlk, hw⟩ := id C
  refine own_go (fun tgt => XS.lloadN X.here hx rfl (hb hby own_d8_40) rfl) ?_
  show own_Fin p e below s (own_QP (some (.int (own_f8_40 v0))) h0) 0 0 (T.setTop (mkF m 41 #[.val (.long v0), .second] [(.long v0)]))
  refine own_go (fun tgt => X.ldc2Long hx hown (mvT hZ (hw _ (List.mem_of_getElem? (i := 48) rfl))) (g := (mkF m 41 #[.val (.long v0), .second] [(.long v0)])) rfl (hb hby own_d8_41) tgt) ?_
  show own_Fin p e below s (own_QP (some (.int (own_f8_40 v0))) h0) 0 0 (T.setTop (mkF m 44 #[.val (.long v0), .second] [(.long (1099511627776 : Int64)), (.long v0)]))
  refine own_go (fun tgt => XS.lcmp X.here hx rfl (hb hby own_d8_44) rfl) ?_
  show own_Fin p e below s (own_QP (some (.int (own_f8_40 v0))) h0) 0 0 (T.setTop (mkF m 45 #[.val (.long v0), .second] [(.int (lcmpW v0 (1099511627776 : Int64)))]))
  by_cases hq : v0 < (1099511627776 : Int64)
  · show own_Fin p e below s (own_QP (some (.int (own_f8_40 v0))) h0) 0 0 _
    rw [show (own_f8_40 v0) = (own_f8_48 v0) from if_pos hq]
    refine own_go (fun tgt => XS.ifNo X.here hx rfl (hb hby own_d8_45) rfl ((if0 _ _).trans (tlt ((lw_lt v0 (1099511627776 : Int64)).mpr hq)).2.1)) ?_
    show own_Fin p e below s (own_QP (some (.int (own_f8_48 v0))) h0) 0 0 (T.setTop (mkF m 48 #[.val (.long v0), .second] []))
    exact own_b8_48 X C hh v0
  · show own_Fin p e below s (own_QP (some (.int (own_f8_40 v0))) h0) 0 0 _
    rw [show (own_f8_40 v0) = (own_f8_50 v0) from if_neg hq]
    refine own_go (fun tgt => XS.ifYes X.here hx rfl (pc0 := 45) (pc' := 50) rfl (hb hby own_d8_45) rfl ((if0 _ _).trans (flt (fun q => hq ((lw_lt v0 (1099511627776 : Int64)).mp q))).2.1) (by decide) (by decide)) ?_
    show own_Fin p e below s (own_QP (some (.int (own_f8_50 v0))) h0) 0 0 (T.setTop (mkF m 50 #[.val (.long v0), .second] []))
    exact own_b8_50 X C hh v0
def own_f8_38 (v0 : Int64) : Int32 := (4 : Int32)
set_option maxRecDepth 65536 in
theorem own_b8_38 {l : Launch} {p : Program} {e : Env} {below : List Frame} {s : State} {m : MethodId} {meth : Method} {c : Code} {Z : State} {a0 args : Array Value} {T : State} {h0 : Heap} (X : Stand p l e ({ frames := 0, cells := 0, slots := 0, locals := 0 } : Room) s m args below meth c T [] 0 0) (C : own_Ctx p s m meth c Z a0 tables_1 (⟨"com/example/keystripe/keystripe/model/PrefixBytesPinLaw", "refLength", "(J)I"⟩ : MethodName) method_4_code 2 (some .int)) (hh : T.heap = h0) (v0 : Int64) :
    own_Fin p e below s (own_QP (some (.int (own_f8_38 v0))) h0) 0 0 (T.setTop (mkF m 38 #[.val (.long v0), .second] [])) := by
  obtain ⟨hx, hby, hml, hZ, hown, hnm, hret, hlk, hw⟩ := id C
  refine own_go (fun tgt => XS.iconst X.here hx rfl (hb hby own_d8_38)) ?_
  show own_Fin p e below s (own_QP (some (.int (own_f8_38 v0))) h0) 0 0 (T.setTop (mkF m 39 #[.val (.long v0), .second] [(.int (4 : Int32))]))
  exact own_ret X hlk hx (t := .int) hret rfl (Or.inl ⟨rfl, by simp, _, rfl⟩) (hb hby own_d8_39) ⟨rfl, rfl, hh⟩ (by decide) (by decide)
def own_f8_30 (v0 : Int64) : Int32 := if v0 < (4294967296 : Int64) then (own_f8_38 v0) else (own_f8_40 v0)
set_option maxRecDepth 65536 in
theorem own_b8_30 {l : Launch} {p : Program} {e : Env} {below : List Frame} {s : State} {m : MethodId} {meth : Method} {c : Code} {Z : State} {a0 args : Array Value} {T : State} {h0 : Heap} (X : Stand p l e ({ frames := 0, cells := 0, slots := 0, locals := 0 } : Room) s m args below meth c T [] 0 0) (C : own_Ctx p s m meth c Z a0 tables_1 (⟨"com/example/keystripe/keystripe/model/PrefixBytesPinLaw", "refLength", "(J)I"⟩ : MethodName) method_4_code 2 (some .int)) (hh : T.heap = h0) (v0 : Int64) :
    own_Fin p e below s (own_QP (some (.int (own_f8_30 v0))) h0) 0 0 (T.setTop (mkF m 30 #[.val (.long v0), .second] [])) := by
  obtain ⟨hx, hby, hml, hZ, hown, hnm, hret, hlk, hw⟩ := id C
  refine own_go (fun tgt => XS.lloadN X.here hx rfl (hb hby own_d8_30) rfl) ?_
  show own_Fin p e below s (own_QP (some (.int (own_f8_30 v0))) h0) 0 0 (T.setTop (mkF m 31 #[.val (.long v0), .second] [(.long v0)]))
  refine own_go (fun tgt => X.ldc2Long hx hown (mvT hZ (hw _ (List.mem_of_getElem? (i := 47) rfl))) (g := (mkF m 31 #[.val (.long v0), .second] [(.long v0)])) rfl (hb hby own_d8_31) tgt) ?_
  show own_Fin p e below s (own_QP (some (.int (own_f8_30 v0))) h0) 0 0 (T.setTop (mkF m 34 #[.val (.long v0), .second] [(.long (4294967296 : Int64)), (.long v0)]))
  refine own_go (fun tgt => XS.lcmp X.here hx rfl (hb hby own_d8_34) rfl) ?_
  show own_Fin p e below s (own_QP (some (.int (own_f8_30 v0))) h0) 0 0 (T.setTop (mkF m 35 #[.val (.long v0), .second] [(.int (lcmpW v0 (4294967296 : Int64)))]))
  by_cases hq : v0 < (4294967296 : Int64)
  · show own_Fin p e below s (own_QP (some (.int (own_f8_30 v0))) h0) 0 0 _
    rw [show (own_f8_30 v0) = (own_f8_38 v0) from if_pos hq]
    refine own_go (fun tgt => XS.ifNo X.here hx rfl (hb hby own_d8_35) rfl ((if0 _ _).trans (tlt ((lw_lt v0 (4294967296 : Int64)).mpr hq)).2.1)) ?_
    show own_Fin p e below s (own_QP (some (.int (own_f8_38 v0))) h0) 0 0 (T.setTop (mkF m 38 #[.val (.long v0), .second] []))
    exact own_b8_38 X C hh v0
  · show own_Fin p e below s (own_QP (some (.int (own_f8_30 v0))) h0) 0 0 _
    rw [show (own_f8_30 v0) = (own_f8_40 v0) from if_neg hq]
    refine own_go (fun tgt => XS.ifYes X.here hx rfl (pc0 := 35) (pc' := 40) rfl (hb hby own_d8_35) rfl ((if0 _ _).trans (flt (fun q => hq ((lw_lt v0 (4294967296 : Int64)).mp q))).2.1) (by decide) (by decide)) ?_
    show own_Fin p e below s (own_QP (some (.int (own_f8_40 v0))) h0) 0 0 (T.setTop (mkF m 40 #[.val (.long v0), .second] []))
    exact own_b8_40 X C hh v0
def own_f8_28 (v0 : Int64) : Int32 := (3 : Int32)
set_option maxRecDepth 65536 in
theorem own_b8_28 {l : Launch} {p : Program} {e : Env} {below : List Frame} {s : State} {m : MethodId} {meth : Method} {c : Code} {Z : State} {a0 args : Array Value} {T : State} {h0 : Heap} (X : Stand p l e ({ frames := 0, cells := 0, slots := 0, locals := 0 } : Room) s m args below meth c T [] 0 0) (C : own_Ctx p s m meth c Z a0 tables_1 (⟨"com/example/keystripe/keystripe/model/PrefixBytesPinLaw", "refLength", "(J)I"⟩ : MethodName) method_4_code 2 (some .int)) (hh : T.heap = h0) (v0 : Int64) :
    own_Fin p e below s (own_QP (some (.int (own_f8_28 v0))) h0) 0 0 (T.setTop (mkF m 28 #[.val (.long v0), .second] [])) := by
  obtain ⟨hx, hby, hml, hZ, hown, hnm, hret, hlk, hw⟩ := id C
  refine own_go (fun tgt => XS.iconst X.here hx rfl (hb hby own_d8_28)) ?_
  show own_Fin p e below s (own_QP (some (.int (own_f8_28 v0))) h0) 0 0 (T.setTop (mkF m 29 #[.val (.long v0), .second] [(.int (3 : Int32))]))
  exact own_ret X hlk hx (t := .int) hret rfl (Or.inl ⟨rfl, by simp, _, rfl⟩) (hb hby own_d8_29) ⟨rfl, rfl, hh⟩ (by decide) (by decide)
def own_f8_20 (v0 : Int64) : Int32 := if v0 < (16777216 : Int64) then (own_f8_28 v0) else (own_f8_30 v0)
set_option maxRecDepth 65536 in
theorem own_b8_20 {l : Launch} {p : Program} {e : Env} {below : List Frame} {s : State} {m : MethodId} {meth : Method} {c : Code} {Z : State} {a0 args : Array Value} {T : State} {h0 : Heap} (X : Stand p l e ({ frames := 0, cells := 0, slots := 0, locals := 0 } : Room) s m args below meth c T [] 0 0) (C : own_Ctx p s m meth c Z a0 tables_1 (⟨"com/example/keystripe/keystripe/model/PrefixBytesPinLaw", "refLength", "(J)I"⟩ : MethodName) method_4_code 2 (some .int)) (hh : T.heap = h0) (v0 : Int64) :
    own_Fin p e below s (own_QP (some (.int (own_f8_20 v0))) h0) 0 0 (T.setTop (mkF m 20 #[.val (.long v0), .second] [])) := by
  obtain ⟨hx, hby, hml, hZ, hown, hnm, hret, hlk, hw⟩ := id C
  refine own_go (fun tgt => XS.lloadN X.here hx rfl (hb hby own_d8_20) rfl) ?_
  show own_Fin p e below s (own_QP (some (.int (own_f8_20 v0))) h0) 0 0 (T.setTop (mkF m 21 #[.val (.long v0), .second] [(.long v0)]))
  refine own_go (fun tgt => X.ldc2Long hx hown (mvT hZ (hw _ (List.mem_of_getElem? (i := 46) rfl))) (g := (mkF m 21 #[.val (.long v0), .second] [(.long v0)])) rfl (hb hby own_d8_21) tgt) ?_
  show own_Fin p e below s (own_QP (some (.int (own_f8_20 v0))) h0) 0 0 (T.setTop (mkF m 24 #[.val (.long v0), .second] [(.long (16777216 : Int64)), (.long v0)]))
  refine own_go (fun tgt => XS.lcmp X.here hx rfl (hb hby own_d8_24) rfl) ?_
  show own_Fin p e below s (own_QP (some (.int (own_f8_20 v0))) h0) 0 0 (T.setTop (mkF m 25 #[.val (.long v0), .second] [(.int (lcmpW v0 (16777216 : Int64)))]))
  by_cases hq : v0 < (16777216 : Int64)
  · show own_Fin p e below s (own_QP (some (.int (own_f8_20 v0))) h0) 0 0 _
    rw [show (own_f8_20 v0) = (own_f8_28 v0) from if_pos hq]
    refine own_go (fun tgt => XS.ifNo X.here hx rfl (hb hby own_d8_25) rfl ((if0 _ _).trans (tlt ((lw_lt v0 (16777216 : Int64)).mpr hq)).2.1)) ?_
    show own_Fin p e below s (own_QP (some (.int (own_f8_28 v0))) h0) 0 0 (T.setTop (mkF m 28 #[.val (.long v0), .second] []))
    exact own_b8_28 X C hh v0
  · show own_Fin p e below s (own_QP (some (.int (own_f8_20 v0))) h0) 0 0 _
    rw [show (own_f8_20 v0) = (own_f8_30 v0) from if_neg hq]
    refine own_go (fun tgt => XS.ifYes X.here hx rfl (pc0 := 25) (pc' := 30) rfl (hb hby own_d8_25) rfl ((if0 _ _).trans (flt (fun q => hq ((lw_lt v0 (16777216 : Int64)).mp q))).2.1) (by decide) (by decide)) ?_
    show own_Fin p e below s (own_QP (some (.int (own_f8_30 v0))) h0) 0 0 (T.setTop (mkF m 30 #[.val (.long v0), .second] []))
    exact own_b8_30 X C hh v0
def own_f8_18 (v0 : Int64) : Int32 := (2 : Int32)
set_option maxRecDepth 65536 in
theorem own_b8_18 {l : Launch} {p : Program} {e : Env} {below : List Frame} {s : State} {m : MethodId} {meth : Method} {c : Code} {Z : State} {a0 args : Array Value} {T : State} {h0 : Heap} (X : Stand p l e ({ frames := 0, cells := 0, slots := 0, locals := 0 } : Room) s m args below meth c T [] 0 0) (C : own_Ctx p s m meth c Z a0 tables_1 (⟨"com/example/keystripe/keystripe/model/PrefixBytesPinLaw", "refLength", "(J)I"⟩ : MethodName) method_4_code 2 (some .int)) (hh : T.heap = h0) (v0 : Int64) :
    own_Fin p e below s (own_QP (some (.int (own_f8_18 v0))) h0) 0 0 (T.setTop (mkF m 18 #[.val (.long v0), .second] [])) := by
  obtain ⟨hx, hby, hml, hZ, hown, hnm, hret, hlk, hw⟩ := id C
  refine own_go (fun tgt => XS.iconst X.here hx rfl (hb hby own_d8_18)) ?_
  show own_Fin p e below s (own_QP (some (.int (own_f8_18 v0))) h0) 0 0 (T.setTop (mkF m 19 #[.val (.long v0), .second] [(.int (2 : Int32))]))
  exact own_ret X hlk hx (t := .int) hret rfl (Or.inl ⟨rfl, by simp, _, rfl⟩) (hb hby own_d8_19) ⟨rfl, rfl, hh⟩ (by decide) (by decide)
def own_f8_10 (v0 : Int64) : Int32 := if v0 < (65536 : Int64) then (own_f8_18 v0) else (own_f8_20 v0)
set_option maxRecDepth 65536 in
theorem own_b8_10 {l : Launch} {p : Program} {e : Env} {below : List Frame} {s : State} {m : MethodId} {meth : Method} {c : Code} {Z : State} {a0 args : Array Value} {T : State} {h0 : Heap} (X : Stand p l e ({ frames := 0, cells := 0, slots := 0, locals := 0 } : Room) s m args below meth c T [] 0 0) (C : own_Ctx p s m meth c Z a0 tables_1 (⟨"com/example/keystripe/keystripe/model/PrefixBytesPinLaw", "refLength", "(J)I"⟩ : MethodName) method_4_code 2 (some .int)) (hh : T.heap = h0) (v0 : Int64) :
    own_Fin p e below s (own_QP (some (.int (own_f8_10 v0))) h0) 0 0 (T.setTop (mkF m 10 #[.val (.long v0), .second] [])) := by
  obtain ⟨hx, hby, hml, hZ, hown, hnm, hret, hlk, hw⟩ := id C
  refine own_go (fun tgt => XS.lloadN X.here hx rfl (hb hby own_d8_10) rfl) ?_
  show own_Fin p e below s (own_QP (some (.int (own_f8_10 v0))) h0) 0 0 (T.setTop (mkF m 11 #[.val (.long v0), .second] [(.long v0)]))
  refine own_go (fun tgt => X.ldc2Long hx hown (mvT hZ (hw _ (List.mem_of_getElem? (i := 45) rfl))) (g := (mkF m 11 #[.val (.long v0), .second] [(.long v0)])) rfl (hb hby own_d8_11) tgt) ?_
  show own_Fin p e below s (own_QP (some (.int (own_f8_10 v0))) h0) 0 0 (T.setTop (mkF m 14 #[.val (.long v0), .second] [(.long (65536 : Int64)), (.long v0)]))
  refine own_go (fun tgt => XS.lcmp X.here hx rfl (hb hby own_d8_14) rfl) ?_
  show own_Fin p e below s (own_QP (some (.int (own_f8_10 v0))) h0) 0 0 (T.setTop (mkF m 15 #[.val (.long v0), .second] [(.int (lcmpW v0 (65536 : Int64)))]))
  by_cases hq : v0 < (65536 : Int64)
  · show own_Fin p e below s (own_QP (some (.int (own_f8_10 v0))) h0) 0 0 _
    rw [show (own_f8_10 v0) = (own_f8_18 v0) from if_pos hq]
    refine own_go (fun tgt => XS.ifNo X.here hx rfl (hb hby own_d8_15) rfl ((if0 _ _).trans (tlt ((lw_lt v0 (65536 : Int64)).mpr hq)).2.1)) ?_
    show own_Fin p e below s (own_QP (some (.int (own_f8_18 v0))) h0) 0 0 (T.setTop (mkF m 18 #[.val (.long v0), .second] []))
    exact own_b8_18 X C hh v0
  · show own_Fin p e below s (own_QP (some (.int (own_f8_10 v0))) h0) 0 0 _
    rw [show (own_f8_10 v0) = (own_f8_20 v0) from if_neg hq]
    refine own_go (fun tgt => XS.ifYes X.here hx rfl (pc0 := 15) (pc' := 20) rfl (hb hby own_d8_15) rfl ((if0 _ _).trans (flt (fun q => hq ((lw_lt v0 (65536 : Int64)).mp q))).2.1) (by decide) (by decide)) ?_
    show own_Fin p e below s (own_QP (some (.int (own_f8_20 v0))) h0) 0 0 (T.setTop (mkF m 20 #[.val (.long v0), .second] []))
    exact own_b8_20 X C hh v0
def own_f8_8 (v0 : Int64) : Int32 := (1 : Int32)
set_option maxRecDepth 65536 in
theorem own_b8_8 {l : Launch} {p : Program} {e : Env} {below : List Frame} {s : State} {m : MethodId} {meth : Method} {c : Code} {Z : State} {a0 args : Array Value} {T : State} {h0 : Heap} (X : Stand p l e ({ frames := 0, cells := 0, slots := 0, locals := 0 } : Room) s m args below meth c T [] 0 0) (C : own_Ctx p s m meth c Z a0 tables_1 (⟨"com/example/keystripe/keystripe/model/PrefixBytesPinLaw", "refLength", "(J)I"⟩ : MethodName) method_4_code 2 (some .int)) (hh : T.heap = h0) (v0 : Int64) :
    own_Fin p e below s (own_QP (some (.int (own_f8_8 v0))) h0) 0 0 (T.setTop (mkF m 8 #[.val (.long v0), .second] [])) := by
  obtain ⟨hx, hby, hml, hZ, hown, hnm, hret, hlk, hw⟩ := id C
  refine own_go (fun tgt => XS.iconst X.here hx rfl (hb hby own_d8_8)) ?_
  show own_Fin p e below s (own_QP (some (.int (own_f8_8 v0))) h0) 0 0 (T.setTop (mkF m 9 #[.val (.long v0), .second] [(.int (1 : Int32))]))
  exact own_ret X hlk hx (t := .int) hret rfl (Or.inl ⟨rfl, by simp, _, rfl⟩) (hb hby own_d8_9) ⟨rfl, rfl, hh⟩ (by decide) (by decide)
def own_f8_0 (v0 : Int64) : Int32 := if v0 < (256 : Int64) then (own_f8_8 v0) else (own_f8_10 v0)
set_option maxRecDepth 65536 in
theorem own_b8_0 {l : Launch} {p : Program} {e : Env} {below : List Frame} {s : State} {m : MethodId} {meth : Method} {c : Code} {Z : State} {a0 args : Array Value} {T : State} {h0 : Heap} (X : Stand p l e ({ frames := 0, cells := 0, slots := 0, locals := 0 } : Room) s m args below meth c T [] 0 0) (C : own_Ctx p s m meth c Z a0 tables_1 (⟨"com/example/keystripe/keystripe/model/PrefixBytesPinLaw", "refLength", "(J)I"⟩ : MethodName) method_4_code 2 (some .int)) (hh : T.heap = h0) (v0 : Int64) :
    own_Fin p e below s (own_QP (some (.int (own_f8_0 v0))) h0) 0 0 (T.setTop (mkF m 0 #[.val (.long v0), .second] [])) := by
  obtain ⟨hx, hby, hml, hZ, hown, hnm, hret, hlk, hw⟩ := id C
  refine own_go (fun tgt => XS.lloadN X.here hx rfl (hb hby own_d8_0) rfl) ?_
  show own_Fin p e below s (own_QP (some (.int (own_f8_0 v0))) h0) 0 0 (T.setTop (mkF m 1 #[.val (.long v0), .second] [(.long v0)]))
  refine own_go (fun tgt => X.ldc2Long hx hown (mvT hZ (hw _ (List.mem_of_getElem? (i := 39) rfl))) (g := (mkF m 1 #[.val (.long v0), .second] [(.long v0)])) rfl (hb hby own_d8_1) tgt) ?_
  show own_Fin p e below s (own_QP (some (.int (own_f8_0 v0))) h0) 0 0 (T.setTop (mkF m 4 #[.val (.long v0), .second] [(.long (256 : Int64)), (.long v0)]))
  refine own_go (fun tgt => XS.lcmp X.here hx rfl (hb hby own_d8_4) rfl) ?_
  show own_Fin p e below s (own_QP (some (.int (own_f8_0 v0))) h0) 0 0 (T.setTop (mkF m 5 #[.val (.long v0), .second] [(.int (lcmpW v0 (256 : Int64)))]))
  by_cases hq : v0 < (256 : Int64)
  · show own_Fin p e below s (own_QP (some (.int (own_f8_0 v0))) h0) 0 0 _
    rw [show (own_f8_0 v0) = (own_f8_8 v0) from if_pos hq]
    refine own_go (fun tgt => XS.ifNo X.here hx rfl (hb hby own_d8_5) rfl ((if0 _ _).trans (tlt ((lw_lt v0 (256 : Int64)).mpr hq)).2.1)) ?_
    show own_Fin p e below s (own_QP (some (.int (own_f8_8 v0))) h0) 0 0 (T.setTop (mkF m 8 #[.val (.long v0), .second] []))
    exact own_b8_8 X C hh v0
  · show own_Fin p e below s (own_QP (some (.int (own_f8_0 v0))) h0) 0 0 _
    rw [show (own_f8_0 v0) = (own_f8_10 v0) from if_neg hq]
    refine own_go (fun tgt => XS.ifYes X.here hx rfl (pc0 := 5) (pc' := 10) rfl (hb hby own_d8_5) rfl ((if0 _ _).trans (flt (fun q => hq ((lw_lt v0 (256 : Int64)).mp q))).2.1) (by decide) (by decide)) ?_
    show own_Fin p e below s (own_QP (some (.int (own_f8_10 v0))) h0) 0 0 (T.setTop (mkF m 10 #[.val (.long v0), .second] []))
    exact own_b8_10 X C hh v0
theorem own_pn3 : plainName "com/example/keystripe/keystripe/model/PrefixBytesPinLaw" = true := by first | (simp [plainName, overriddenIn]; done) | decide +kernel
theorem own_c8 (l : Launch) (Z : State) (a0 : Array Value) (hw : ∀ d ∈ tables_1, d.before a0 Z = true) (x0 : Int64) (h0 : Heap) : own_Met l Z (⟨"com/example/keystripe/keystripe/model/PrefixBytesPinLaw", "refLength", "(J)I"⟩ : MethodName) method_4_code 2 (some .int) [] ({ frames := 0, cells := 0, slots := 0, locals := 0 } : Room) #[(.long x0)] h0 (own_QP (some (.int (own_f8_0 x0))) h0) :=
  own_enter (plainFor_of_name own_pn3) (own_ef8 x0) hw (fun p e s m below meth c T X C hh => own_b8_0 X C hh x0)
def own_len8 (number : Int64) : Int32 := (own_f7_0 (1 : Int32) (((((64 : Int32) - (own_f5_0 number)) + (7 : Int32))) / (8 : Int32)))
def own_QI (Z : State) (a : Addr) (x1 : Int64) (h0 : Heap) (n0 : Nat) (v : Option Value) (h : Heap) (L : List Loc) : Prop := v = none ∧ Fr n0 L ∧ Keep h0 h [a] ∧ Exa Z h a "com/example/keystripe/keystripe/model/Prefix" ∧ Fld Z h a "com/example/keystripe/keystripe/model/Prefix" "number" "J" (.long x1)
theorem own_d1_0 : decode prog_19_method_1_code 0 = .ok (.aload_n 0, 1) := by decide +kernel
theorem own_d1_1 : decode prog_19_method_1_code 1 = .ok (.invokespecial 1, 3) := by decide +kernel
theorem own_d1_4 : decode prog_19_method_1_code 4 = .ok (.lload_n 1, 1) := by decide +kernel
theorem own_d1_5 : decode prog_19_method_1_code 5 = .ok (.lconst 0, 1) := by decide +kernel
theorem own_d1_6 : decode prog_19_method_1_code 6 = .ok (.lcmp, 1) := by decide +kernel
theorem own_d1_7 : decode prog_19_method_1_code 7 = .ok (.ifCond .ge 17, 3) := by decide +kernel
theorem own_d1_10 : decode prog_19_method_1_code 10 = .ok (.new 7, 3) := by decide +kernel
theorem own_d1_13 : decode prog_19_method_1_code 13 = .ok (.dup, 1) := by decide +kernel
theorem own_d1_14 : decode prog_19_method_1_code 14 = .ok (.lload_n 1, 1) := by decide +kernel
theorem own_d1_15 : decode prog_19_method_1_code 15 = .ok (.invokedynamic 9, 5) := by decide +kernel
theorem own_d1_20 : decode prog_19_method_1_code 20 = .ok (.invokespecial 13, 3) := by decide +kernel
theorem own_d1_23 : decode prog_19_method_1_code 23 = .ok (.athrow, 1) := by decide +kernel
theorem own_d1_24 : decode prog_19_method_1_code 24 = .ok (.aload_n 0, 1) := by decide +kernel
theorem own_d1_25 : decode prog_19_method_1_code 25 = .ok (.lload_n 1, 1) := by decide +kernel
theorem own_d1_26 : decode prog_19_method_1_code 26 = .ok (.putfield 16, 3) := by decide +kernel
theorem own_d1_29 : decode prog_19_method_1_code 29 = .ok (.return_, 1) := by decide +kernel
theorem own_ef1 (x0 : Addr) (x1 : Int64) : ∀ m, entryFrame m #[(.ref x0), (.long x1)] 3 = mkF m 0 #[.val (.ref x0), .val (.long x1), .second] [] := fun m => by first | (simp [entryFrame, mkF, argsToLocals, Value.category]; done) | rfl
set_option maxRecDepth 65536 in
set_option maxHeartbeats 40000000 in
theorem own_ini_w {l : Launch} {p : Program} {e : Env} {below : List Frame} {s : State} {m : MethodId} {meth : Method} {c : Code} {Z : State} {a0 args : Array Value} {T : State} {h0 : Heap} (X : Stand p l e ({ frames := 2, cells := 0, slots := 0, locals := 24 } : Room) s m args below meth c T [] 0 0) (C : own_Ctx p s m meth c Z a0 tables_1 (⟨"com/example/keystripe/keystripe/model/Prefix", "<init>", "(J)V"⟩ : MethodName) prog_19_method_1_code 3 none) (hh : T.heap = h0) (x0 : Addr) (x1 : Int64)  (n0 : Nat) (Z0 : n0 ≤ h0.size) (g0 : n0 ≤ x0) (hE : Exa Z h0 x0 "com/example/keystripe/keystripe/model/Prefix") (hF : Fld Z h0 x0 "com/example/keystripe/keystripe/model/Prefix" "number" "J" (.long (0 : Int64))) (hp : ¬ x1 < (0 : Int64)) :
    own_Fin p e below s (own_QI Z x0 x1 h0 n0) 0 0 (T.setTop (mkF m 0 #[.val (.ref x0), .val (.long x1), .second] [])) := by
  obtain ⟨hx, hby, hml, hZ, hown, hnm, hret, hlk, hw⟩ := id C
  show own_Fin p e below s (own_QI Z x0 x1 h0 n0) 0 0 (T.setTop (mkF m 0 #[.val (.ref x0), .val (.long x1), .second] []))
  have N0 := Fr.nil n0
  have KK0 : Keep h0 h0 [x0] := Keep.refl _ _
  refine own_go (fun tgt => XS.aloadN X.here hx rfl (hb hby own_d1_0) rfl rfl) ?_
  show own_Fin p e below s (own_QI Z x0 x1 h0 n0) 0 0 (T.setTop (mkF m 1 #[.val (.ref x0), .val (.long x1), .second] [(.ref x0)]))
  obtain ⟨T1, X1, e1, st1⟩ := own_callIP X hx hZ hh (y := (⟨"java/lang/Record", "<init>", "()V"⟩ : MethodName)) rfl hown (hw _ (List.mem_of_getElem? (i := 7) rfl)) (hw _ (List.mem_of_getElem? (i := 8) rfl)) (hw _ (List.mem_of_getElem? (i := 10) rfl)) (hw _ (List.mem_of_getElem? (i := 11) rfl)) (by decide) (a := x0) (argsL := []) (rest := []) (own_rec l Z a0 hw x0 _ 0 (Nat.zero_le _)) (by decide) 0 (by decide) (by decide) (by decide) (g := (mkF m 1 #[.val (.ref x0), .val (.long x1), .second] [(.ref x0)])) rfl (by rw [hml]; rfl) (lenOf own_pd0 rfl) rfl (by show 2 * 0 + _ ≤ _; exact Nat.le_of_eq rfl) (hb hby own_d1_1)
  refine own_go st1 ?_
  show own_Fin p e below s (own_QI Z x0 x1 h0 n0) 0 0 (T1.setTop (mkF m 4 #[.val (.ref x0), .val (.long x1), .second] []))
  refine own_go (fun tgt => XS.lloadN X1.here hx rfl (hb hby own_d1_4) rfl) ?_
  show own_Fin p e below s (own_QI Z x0 x1 h0 n0) 0 0 (T1.setTop (mkF m 5 #[.val (.ref x0), .val (.long x1), .second] [(.long x1)]))
  refine own_go (fun tgt => XS.lconst X1.here hx rfl (hb hby own_d1_5)) ?_
  show own_Fin p e below s (own_QI Z x0 x1 h0 n0) 0 0 (T1.setTop (mkF m 6 #[.val (.ref x0), .val (.long x1), .second] [(.long (0 : Int64)), (.long x1)]))
  refine own_go (fun tgt => XS.lcmp X1.here hx rfl (hb hby own_d1_6) rfl) ?_
  show own_Fin p e below s (own_QI Z x0 x1 h0 n0) 0 0 (T1.setTop (mkF m 7 #[.val (.ref x0), .val (.long x1), .second] [(.int (lcmpW x1 (0 : Int64)))]))
  refine own_go (fun tgt => XS.ifYes X1.here hx rfl (pc0 := 7) (pc' := 24) rfl (hb hby own_d1_7) rfl ((if0 _ _).trans (flt (fun q => hp ((lw_lt x1 (0 : Int64)).mp q))).2.1) (by decide) (by decide)) ?_
  show own_Fin p e below s (own_QI Z x0 x1 h0 n0) 0 0 (T1.setTop (mkF m 24 #[.val (.ref x0), .val (.long x1), .second] []))
  refine own_go (fun tgt => XS.aloadN X1.here hx rfl (hb hby own_d1_24) rfl rfl) ?_
  show own_Fin p e below s (own_QI Z x0 x1 h0 n0) 0 0 (T1.setTop (mkF m 25 #[.val (.ref x0), .val (.long x1), .second] [(.ref x0)]))
  refine own_go (fun tgt => XS.lloadN X1.here hx rfl (hb hby own_d1_25) rfl) ?_
  show own_Fin p e below s (own_QI Z x0 x1 h0 n0) 0 0 (T1.setTop (mkF m 26 #[.val (.ref x0), .val (.long x1), .second] [(.long x1), (.ref x0)]))
  obtain ⟨T2, X2, W2, st2⟩ := own_putF X1 hx hZ e1 hown (hw _ (List.mem_of_getElem? (i := 15) rfl)) hF hE (Or.inr ⟨(hw _ (List.mem_of_getElem? (i := 16) rfl)), rfl, hnm⟩) (hw _ (List.mem_of_getElem? (i := 2) rfl)) (ty := .long) (by decide) rfl rfl (g := (mkF m 26 #[.val (.ref x0), .val (.long x1), .second] [(.long x1), (.ref x0)])) rfl rfl (hb hby own_d1_26)
  have N2 := Fr.snoc X2 N0 g0
  have E_x0_2 := hE.wr W2
  have F_x0_number_2 := hF.same W2
  have KK2 := KK0.wr W2 (Or.inl (List.mem_of_getElem? (i := 0) rfl))
  refine own_go st2 ?_
  show own_Fin p e below s (own_QI Z x0 x1 h0 n0) 0 0 (T2.setTop (mkF m 29 #[.val (.ref x0), .val (.long x1), .second] []))
  exact own_ret0 X2 hlk hx hret (hb hby own_d1_29) ⟨rfl, N2, KK2, E_x0_2, F_x0_number_2⟩ (by decide) (by decide)
theorem own_pn4 : plainName "com/example/keystripe/keystripe/model/Prefix" = true := by first | (simp [plainName, overriddenIn]; done) | decide +kernel
theorem own_ini (l : Launch) (Z : State) (a0 : Array Value) (hw : ∀ d ∈ tables_1, d.before a0 Z = true) (x0 : Addr) (x1 : Int64)  (h0 : Heap) (n0 : Nat) (Z0 : n0 ≤ h0.size) (g0 : n0 ≤ x0) (hE : Exa Z h0 x0 "com/example/keystripe/keystripe/model/Prefix") (hF : Fld Z h0 x0 "com/example/keystripe/keystripe/model/Prefix" "number" "J" (.long (0 : Int64))) (hp : ¬ x1 < (0 : Int64)) : own_Met l Z (⟨"com/example/keystripe/keystripe/model/Prefix", "<init>", "(J)V"⟩ : MethodName) prog_19_method_1_code 3 none [] ({ frames := 2, cells := 0, slots := 0, locals := 24 } : Room) #[(.ref x0), (.long x1)] h0 (own_QI Z x0 x1 h0 n0) :=
  own_enter (plainFor_of_name own_pn4) (own_ef1 x0 x1) hw (fun p e s m below meth c T X C hh => own_ini_w X C hh x0 x1  n0 Z0 g0 hE hF hp)
def own_by (number : Int64) (i : Int32) : Int32 := ((((number.toUInt64 >>> (((8 : Int32) * i) &&& 0x3f).toInt64.toUInt64).toInt64).toInt32).toInt8.toInt32)
def own_el (number : Int64) (ln : Int32) (j : Int32) : Int32 := if j = (0 : Int32) then ln.toInt8.toInt32 else own_by number (ln - j)
def own_QB (Z : State) (number : Int64) (h0 : Heap) (n0 : Nat) (v : Option Value) (h : Heap) (L : List Loc) : Prop := v = some (.ref (Array.size h0)) ∧ Fr n0 L ∧ Keep h0 h [] ∧ own_A Z h (Array.size h0) .byte ((1 : Int32) + own_len8 number) (own_el number (own_len8 number))
def own_QB' (Z : State) (number : Int64) (ln : Int32) (h0 : Heap) (n0 : Nat) (v : Option Value) (h : Heap) (L : List Loc) : Prop := v = some (.ref (Array.size h0)) ∧ Fr n0 L ∧ Keep h0 h [] ∧ own_A Z h (Array.size h0) .byte ((1 : Int32) + ln) (own_el number ln)
theorem own_d4_0 : decode prog_19_method_2_code 0 = .ok (.iconst 1, 1) := by decide +kernel
theorem own_d4_1 : decode prog_19_method_2_code 1 = .ok (.bipush 64, 2) := by decide +kernel
theorem own_d4_3 : decode prog_19_method_2_code 3 = .ok (.aload_n 0, 1) := by decide +kernel
theorem own_d4_4 : decode prog_19_method_2_code 4 = .ok (.getfield 16, 3) := by decide +kernel
theorem own_d4_7 : decode prog_19_method_2_code 7 = .ok (.invokestatic 24, 3) := by decide +kernel
theorem own_d4_10 : decode prog_19_method_2_code 10 = .ok (.isub, 1) := by decide +kernel
theorem own_d4_11 : decode prog_19_method_2_code 11 = .ok (.bipush 7, 2) := by decide +kernel
theorem own_d4_13 : decode prog_19_method_2_code 13 = .ok (.iadd, 1) := by decide +kernel
theorem own_d4_14 : decode prog_19_method_2_code 14 = .ok (.bipush 8, 2) := by decide +kernel
theorem own_d4_16 : decode prog_19_method_2_code 16 = .ok (.idiv, 1) := by decide +kernel
theorem own_d4_17 : decode prog_19_method_2_code 17 = .ok (.invokestatic 30, 3) := by decide +kernel
theorem own_d4_20 : decode prog_19_method_2_code 20 = .ok (.istore_n 1, 1) := by decide +kernel
theorem own_d4_21 : decode prog_19_method_2_code 21 = .ok (.iconst 1, 1) := by decide +kernel
theorem own_d4_22 : decode prog_19_method_2_code 22 = .ok (.iload_n 1, 1) := by decide +kernel
theorem own_d4_23 : decode prog_19_method_2_code 23 = .ok (.iadd, 1) := by decide +kernel
theorem own_d4_24 : decode prog_19_method_2_code 24 = .ok (.newarray .byte, 2) := by decide +kernel
theorem own_d4_26 : decode prog_19_method_2_code 26 = .ok (.astore_n 2, 1) := by decide +kernel
theorem own_d4_27 : decode prog_19_method_2_code 27 = .ok (.aload_n 2, 1) := by decide +kernel
theorem own_d4_28 : decode prog_19_method_2_code 28 = .ok (.iconst 0, 1) := by decide +kernel
theorem own_d4_29 : decode prog_19_method_2_code 29 = .ok (.iload_n 1, 1) := by decide +kernel
theorem own_d4_30 : decode prog_19_method_2_code 30 = .ok (.i2b, 1) := by decide +kernel
theorem own_d4_31 : decode prog_19_method_2_code 31 = .ok (.bastore, 1) := by decide +kernel
theorem own_d4_32 : decode prog_19_method_2_code 32 = .ok (.iconst 0, 1) := by decide +kernel
theorem own_d4_33 : decode prog_19_method_2_code 33 = .ok (.istore_n 3, 1) := by decide +kernel
theorem own_d4_34 : decode prog_19_method_2_code 34 = .ok (.iload_n 3, 1) := by decide +kernel
theorem own_d4_35 : decode prog_19_method_2_code 35 = .ok (.iload_n 1, 1) := by decide +kernel
theorem own_d4_36 : decode prog_19_method_2_code 36 = .ok (.if_icmp .ge 25, 3) := by decide +kernel
theorem own_d4_39 : decode prog_19_method_2_code 39 = .ok (.aload_n 2, 1) := by decide +kernel
theorem own_d4_40 : decode prog_19_method_2_code 40 = .ok (.iload_n 1, 1) := by decide +kernel
theorem own_d4_41 : decode prog_19_method_2_code 41 = .ok (.iload_n 3, 1) := by decide +kernel
theorem own_d4_42 : decode prog_19_method_2_code 42 = .ok (.isub, 1) := by decide +kernel
theorem own_d4_43 : decode prog_19_method_2_code 43 = .ok (.aload_n 0, 1) := by decide +kernel
theorem own_d4_44 : decode prog_19_method_2_code 44 = .ok (.getfield 16, 3) := by decide +kernel
theorem own_d4_47 : decode prog_19_method_2_code 47 = .ok (.bipush 8, 2) := by decide +kernel
theorem own_d4_49 : decode prog_19_method_2_code 49 = .ok (.iload_n 3, 1) := by decide +kernel
theorem own_d4_50 : decode prog_19_method_2_code 50 = .ok (.imul, 1) := by decide +kernel
theorem own_d4_51 : decode prog_19_method_2_code 51 = .ok (.lushr, 1) := by decide +kernel
theorem own_d4_52 : decode prog_19_method_2_code 52 = .ok (.l2i, 1) := by decide +kernel
theorem own_d4_53 : decode prog_19_method_2_code 53 = .ok (.i2b, 1) := by decide +kernel
theorem own_d4_54 : decode prog_19_method_2_code 54 = .ok (.bastore, 1) := by decide +kernel
theorem own_d4_55 : decode prog_19_method_2_code 55 = .ok (.iinc 3 1, 3) := by decide +kernel
theorem own_d4_58 : decode prog_19_method_2_code 58 = .ok (.goto (-24), 3) := by decide +kernel
theorem own_d4_61 : decode prog_19_method_2_code 61 = .ok (.aload_n 2, 1) := by decide +kernel
theorem own_d4_62 : decode prog_19_method_2_code 62 = .ok (.areturn, 1) := by decide +kernel
theorem own_pd2 : parseMethodDescriptor "(J)I" = some ⟨[.long], some .int⟩ := by decide +kernel
theorem own_pd3 : parseMethodDescriptor "(II)I" = some ⟨[.int, .int], some .int⟩ := by decide +kernel
theorem own_ef4 (x0 : Addr) : ∀ m, entryFrame m #[(.ref x0)] 4 = mkF m 0 #[.val (.ref x0), .unset, .unset, .unset] [] := fun m => by first | (simp [entryFrame, mkF, argsToLocals, Value.category]; done) | rfl
set_option maxRecDepth 65536 in
set_option maxHeartbeats 40000000 in
theorem own_byt_w {l : Launch} {p : Program} {e : Env} {below : List Frame} {s : State} {m : MethodId} {meth : Method} {c : Code} {Z : State} {a0 args : Array Value} {T : State} {h0 : Heap} (X : Stand p l e ({ frames := 2, cells := 1, slots := 9, locals := 32 } : Room) s m args below meth c T [] 0 0) (C : own_Ctx p s m meth c Z a0 tables_1 (⟨"com/example/keystripe/keystripe/model/Prefix", "bytes", "()[B"⟩ : MethodName) prog_19_method_2_code 4 (some (.array .byte))) (hh : T.heap = h0) (x0 : Addr) (number : Int64) (ln : Int32) (n0 : Nat) (Z0 : n0 ≤ h0.size) (hF : Fld Z h0 x0 "com/example/keystripe/keystripe/model/Prefix" "number" "J" (.long number)) (hln : ln = own_len8 number) (hl : 1 ≤ ln.toInt ∧ ln.toInt ≤ 8) :
    own_Fin p e below s (own_QB' Z number ln h0 n0) 1 9 (T.setTop (mkF m 0 #[.val (.ref x0), .unset, .unset, .unset] [])) := by
  obtain ⟨hx, hby, hml, hZ, hown, hnm, hret, hlk, hw⟩ := id C
  show own_Fin p e below s (own_QB' Z number ln h0 n0) 1 9 (T.setTop (mkF m 0 #[.val (.ref x0), .unset, .unset, .unset] []))
  have N0 := Fr.nil n0
  have KK0 : Keep h0 h0 [] := Keep.refl _ _
  refine own_go (fun tgt => XS.iconst X.here hx rfl (hb hby own_d4_0)) ?_
  show own_Fin p e below s (own_QB' Z number ln h0 n0) 1 9 (T.setTop (mkF m 1 #[.val (.ref x0), .unset, .unset, .unset] [(.int (1 : Int32))]))
  refine own_go (fun tgt => XS.bipush X.here hx rfl (hb hby own_d4_1)) ?_
  show own_Fin p e below s (own_QB' Z number ln h0 n0) 1 9 (T.setTop (mkF m 3 #[.val (.ref x0), .unset, .unset, .unset] [(.int (64 : Int32)), (.int (1 : Int32))]))
  refine own_go (fun tgt => XS.aloadN X.here hx rfl (hb hby own_d4_3) rfl rfl) ?_
  show own_Fin p e below s (own_QB' Z number ln h0 n0) 1 9 (T.setTop (mkF m 4 #[.val (.ref x0), .unset, .unset, .unset] [(.ref x0), (.int (64 : Int32)), (.int (1 : Int32))]))
  obtain ⟨T1, X1, e1, st1⟩ := own_getF X hx hZ hh hown (hw _ (List.mem_of_getElem? (i := 15) rfl)) hF (g := (mkF m 4 #[.val (.ref x0), .unset, .unset, .unset] [(.ref x0), (.int (64 : Int32)), (.int (1 : Int32))])) rfl rfl (hb hby own_d4_4)
  refine own_go st1 ?_
  show own_Fin p e below s (own_QB' Z number ln h0 n0) 1 9 (T1.setTop (mkF m 7 #[.val (.ref x0), .unset, .unset, .unset] [(.long number), (.int (64 : Int32)), (.int (1 : Int32))]))
  obtain ⟨T2, X2, e2, st2⟩ := own_callP X1 hx hZ e1 (y := (⟨"java/lang/Long", "numberOfLeadingZeros", "(J)I"⟩ : MethodName)) hown (hw _ (List.mem_of_getElem? (i := 22) rfl)) (hw _ (List.mem_of_getElem? (i := 23) rfl)) (hw _ (List.mem_of_getElem? (i := 24) rfl)) (hw _ (List.mem_of_getElem? (i := 25) rfl)) (by decide) (argsL := [(.long number)]) (rest := [(.int (64 : Int32)), (.int (1 : Int32))]) (own_c5 l Z a0 hw number _) (by decide) 2 (by decide) (by decide) (by decide) (g := (mkF m 7 #[.val (.ref x0), .unset, .unset, .unset] [(.long number), (.int (64 : Int32)), (.int (1 : Int32))])) rfl (by rw [hml]; rfl) (lenOf own_pd2 rfl) rfl (by show 2 * 0 + _ ≤ _; exact Nat.le_of_eq rfl) (hb hby own_d4_7)
  refine own_go st2 ?_
  show own_Fin p e below s (own_QB' Z number ln h0 n0) 1 9 (T2.setTop (mkF m 10 #[.val (.ref x0), .unset, .unset, .unset] [(.int (own_f5_0 number)), (.int (64 : Int32)), (.int (1 : Int32))]))
  refine own_go (fun tgt => XS.isub X2.here hx rfl (hb hby own_d4_10) rfl) ?_
  show own_Fin p e below s (own_QB' Z number ln h0 n0) 1 9 (T2.setTop (mkF m 11 #[.val (.ref x0), .unset, .unset, .unset] [(.int ((64 : Int32) - (own_f5_0 number))), (.int (1 : Int32))]))
  refine own_go (fun tgt => XS.bipush X2.here hx rfl (hb hby own_d4_11)) ?_
  show own_Fin p e below s (own_QB' Z number ln h0 n0) 1 9 (T2.setTop (mkF m 13 #[.val (.ref x0), .unset, .unset, .unset] [(.int (7 : Int32)), (.int ((64 : Int32) - (own_f5_0 number))), (.int (1 : Int32))]))
  refine own_go (fun tgt => XS.iadd X2.here hx rfl (hb hby own_d4_13) rfl) ?_
  show own_Fin p e below s (own_QB' Z number ln h0 n0) 1 9 (T2.setTop (mkF m 14 #[.val (.ref x0), .unset, .unset, .unset] [(.int (((64 : Int32) - (own_f5_0 number)) + (7 : Int32))), (.int (1 : Int32))]))
  refine own_go (fun tgt => XS.bipush X2.here hx rfl (hb hby own_d4_14)) ?_
  show own_Fin p e below s (own_QB' Z number ln h0 n0) 1 9 (T2.setTop (mkF m 16 #[.val (.ref x0), .unset, .unset, .unset] [(.int (8 : Int32)), (.int (((64 : Int32) - (own_f5_0 number)) + (7 : Int32))), (.int (1 : Int32))]))
  refine own_go (fun tgt => XS.idiv X2.here hx rfl (hb hby own_d4_16) rfl (by decide)) ?_
  show own_Fin p e below s (own_QB' Z number ln h0 n0) 1 9 (T2.setTop (mkF m 17 #[.val (.ref x0), .unset, .unset, .unset] [(.int ((((64 : Int32) - (own_f5_0 number)) + (7 : Int32)) / (8 : Int32))), (.int (1 : Int32))]))
  obtain ⟨T3, X3, e3, st3⟩ := own_callP X2 hx hZ e2 (y := (⟨"java/lang/Math", "max", "(II)I"⟩ : MethodName)) hown (hw _ (List.mem_of_getElem? (i := 30) rfl)) (hw _ (List.mem_of_getElem? (i := 31) rfl)) (hw _ (List.mem_of_getElem? (i := 32) rfl)) (hw _ (List.mem_of_getElem? (i := 33) rfl)) (by decide) (argsL := [(.int (1 : Int32)), (.int ((((64 : Int32) - (own_f5_0 number)) + (7 : Int32)) / (8 : Int32)))]) (rest := []) (own_c7 l Z a0 hw (1 : Int32) ((((64 : Int32) - (own_f5_0 number)) + (7 : Int32)) / (8 : Int32)) _) (by decide) 0 (by decide) (by decide) (by decide) (g := (mkF m 17 #[.val (.ref x0), .unset, .unset, .unset] [(.int ((((64 : Int32) - (own_f5_0 number)) + (7 : Int32)) / (8 : Int32))), (.int (1 : Int32))])) rfl (by rw [hml]; rfl) (lenOf own_pd3 rfl) rfl (by show 2 * 0 + _ ≤ _; exact Nat.le_of_eq rfl) (hb hby own_d4_17)
  refine own_go st3 ?_
  show own_Fin p e below s (own_QB' Z number ln h0 n0) 1 9 (T3.setTop (mkF m 20 #[.val (.ref x0), .unset, .unset, .unset] [(.int (own_len8 number))]))
  rw [← hln]
  show own_Fin p e below s (own_QB' Z number ln h0 n0) 1 9 (T3.setTop (mkF m 20 #[.val (.ref x0), .unset, .unset, .unset] [(.int ln)]))
  refine own_go (fun tgt => XS.istoreN X3.here hx rfl (hb hby own_d4_20) rfl (l' := #[.val (.ref x0), .val (.int ln), .unset, .unset]) rfl) ?_
  show own_Fin p e below s (own_QB' Z number ln h0 n0) 1 9 (T3.setTop (mkF m 21 #[.val (.ref x0), .val (.int ln), .unset, .unset] []))
  refine own_go (fun tgt => XS.iconst X3.here hx rfl (hb hby own_d4_21)) ?_
  show own_Fin p e below s (own_QB' Z number ln h0 n0) 1 9 (T3.setTop (mkF m 22 #[.val (.ref x0), .val (.int ln), .unset, .unset] [(.int (1 : Int32))]))
  refine own_go (fun tgt => XS.iloadN X3.here hx rfl (hb hby own_d4_22) rfl) ?_
  show own_Fin p e below s (own_QB' Z number ln h0 n0) 1 9 (T3.setTop (mkF m 23 #[.val (.ref x0), .val (.int ln), .unset, .unset] [(.int ln), (.int (1 : Int32))]))
  refine own_go (fun tgt => XS.iadd X3.here hx rfl (hb hby own_d4_23) rfl) ?_
  show own_Fin p e below s (own_QB' Z number ln h0 n0) 1 9 (T3.setTop (mkF m 24 #[.val (.ref x0), .val (.int ln), .unset, .unset] [(.int ((1 : Int32) + ln))]))
  have e1 : ((1 : Int32) + ln).toInt = 1 + ln.toInt := by
    have a := c_iadd 1 ln
    have r := rng32 ((1 : Int32) + ln)
    have o : (1 : Int32).toInt = 1 := by decide
    omega
  have o0 : (0 : Int32).toInt = 0 := by decide
  obtain ⟨T4, b4, X4, E4, g4, A4, st4⟩ := own_newB X3 hx hZ e3 (hw _ (List.mem_of_getElem? (i := 34) rfl)) (g := (mkF m 24 #[.val (.ref x0), .val (.int ln), .unset, .unset] [(.int ((1 : Int32) + ln))])) rfl (hb hby own_d4_24) rfl (own_nlt 0 (by decide) (by omega)) 9 (own_clamp _ 9 (by omega)) (by decide) (by decide) (by decide)
  have sz_b4 : Array.size h0 ≤ b4 := by rw [g4]; exact KK0.1
  have G_b4 : n0 ≤ b4 := Nat.le_trans Z0 sz_b4
  have ne_x0_b4 : x0 ≠ b4 := by rw [g4]; exact Nat.ne_of_lt hF.lt
  have F_x0_number_4 := hF.ext E4
  have KK4 := KK0.ext E4
  refine own_go st4 ?_
  show own_Fin p e below s (own_QB' Z number ln h0 n0) 1 9 (T4.setTop (mkF m 26 #[.val (.ref x0), .val (.int ln), .unset, .unset] [(.ref b4)]))
  refine own_go (fun tgt => XS.astoreN X4.here hx rfl (hb hby own_d4_26) rfl rfl (l' := #[.val (.ref x0), .val (.int ln), .val (.ref b4), .unset]) rfl) ?_
  show own_Fin p e below s (own_QB' Z number ln h0 n0) 1 9 (T4.setTop (mkF m 27 #[.val (.ref x0), .val (.int ln), .val (.ref b4), .unset] []))
  refine own_go (fun tgt => XS.aloadN X4.here hx rfl (hb hby own_d4_27) rfl rfl) ?_
  show own_Fin p e below s (own_QB' Z number ln h0 n0) 1 9 (T4.setTop (mkF m 28 #[.val (.ref x0), .val (.int ln), .val (.ref b4), .unset] [(.ref b4)]))
  refine own_go (fun tgt => XS.iconst X4.here hx rfl (hb hby own_d4_28)) ?_
  show own_Fin p e below s (own_QB' Z number ln h0 n0) 1 9 (T4.setTop (mkF m 29 #[.val (.ref x0), .val (.int ln), .val (.ref b4), .unset] [(.int (0 : Int32)), (.ref b4)]))
  refine own_go (fun tgt => XS.iloadN X4.here hx rfl (hb hby own_d4_29) rfl) ?_
  show own_Fin p e below s (own_QB' Z number ln h0 n0) 1 9 (T4.setTop (mkF m 30 #[.val (.ref x0), .val (.int ln), .val (.ref b4), .unset] [(.int ln), (.int (0 : Int32)), (.ref b4)]))
  refine own_go (fun tgt => XS.i2b X4.here hx rfl (hb hby own_d4_30) rfl) ?_
  show own_Fin p e below s (own_QB' Z number ln h0 n0) 1 9 (T4.setTop (mkF m 31 #[.val (.ref x0), .val (.int ln), .val (.ref b4), .unset] [(.int (ln.toInt8.toInt32)), (.int (0 : Int32)), (.ref b4)]))
  obtain ⟨T5, X5, W5, A5, st5⟩ := own_stB X4 hx hZ rfl A4 (by decide) (own_Tlt (by omega)) (g := (mkF m 31 #[.val (.ref x0), .val (.int ln), .val (.ref b4), .unset] [(.int (ln.toInt8.toInt32)), (.int (0 : Int32)), (.ref b4)])) rfl rfl (hb hby own_d4_31)
  have N5 := Fr.snoc X5 N0 G_b4
  have F_x0_number_5 := F_x0_number_4.other W5 (Or.inl ne_x0_b4)
  have KK5 := KK4.wr W5 (Or.inr sz_b4)
  refine own_go st5 ?_
  show own_Fin p e below s (own_QB' Z number ln h0 n0) 1 9 (T5.setTop (mkF m 32 #[.val (.ref x0), .val (.int ln), .val (.ref b4), .unset] []))
  refine own_go (fun tgt => XS.iconst X5.here hx rfl (hb hby own_d4_32)) ?_
  show own_Fin p e below s (own_QB' Z number ln h0 n0) 1 9 (T5.setTop (mkF m 33 #[.val (.ref x0), .val (.int ln), .val (.ref b4), .unset] [(.int (0 : Int32))]))
  refine own_go (fun tgt => XS.istoreN X5.here hx rfl (hb hby own_d4_33) rfl (l' := #[.val (.ref x0), .val (.int ln), .val (.ref b4), .val (.int (0 : Int32))]) rfl) ?_
  show own_Fin p e below s (own_QB' Z number ln h0 n0) 1 9 (T5.setTop (mkF m 34 #[.val (.ref x0), .val (.int ln), .val (.ref b4), .val (.int (0 : Int32))] []))
  have J : ∀ (k : Nat) (i : Int32), ln.toInt - i.toInt = k → ¬ i < 0 → ∀ (U : State) (L : List Loc) (q : Int32 → Int32), Stand p l e ({ frames := 2, cells := 1, slots := 9, locals := 32 } : Room) s m args below meth c U L 1 9 → Fr n0 L → Keep h0 U.heap [] → Fld Z U.heap x0 "com/example/keystripe/keystripe/model/Prefix" "number" "J" (.long number) → own_A Z U.heap b4 .byte ((1 : Int32) + ln) q → (∀ j : Int32, ¬ j < 0 → j < ((1 : Int32) + ln) → (j = (0 : Int32) → q j = ln.toInt8.toInt32) ∧ (¬ j = (0 : Int32) → ln.toInt - j.toInt < i.toInt → q j = own_by number (ln - j))) → own_Fin p e below s (own_QB' Z number ln h0 n0) 1 9 (U.setTop (mkF m 34 #[.val (.ref x0), .val (.int ln), .val (.ref b4), .val (.int i)] [])) := by
    intro k
    induction k with
    | zero =>
      intro i hk hi U L q Y N K F A hq
      show own_Fin p e below s (own_QB' Z number ln h0 n0) 1 9 (U.setTop (mkF m 34 #[.val (.ref x0), .val (.int ln), .val (.ref b4), .val (.int i)] []))
      refine own_go (fun tgt => XS.iloadN Y.here hx rfl (hb hby own_d4_34) rfl) ?_
      show own_Fin p e below s (own_QB' Z number ln h0 n0) 1 9 (U.setTop (mkF m 35 #[.val (.ref x0), .val (.int ln), .val (.ref b4), .val (.int i)] [(.int i)]))
      refine own_go (fun tgt => XS.iloadN Y.here hx rfl (hb hby own_d4_35) rfl) ?_
      show own_Fin p e below s (own_QB' Z number ln h0 n0) 1 9 (U.setTop (mkF m 36 #[.val (.ref x0), .val (.int ln), .val (.ref b4), .val (.int i)] [(.int ln), (.int i)]))
      refine own_go (fun tgt => XS.icmpYes Y.here hx rfl (pc0 := 36) (pc' := 61) rfl (hb hby own_d4_36) rfl (flt (own_Tnlt (by omega))).2.1 (by decide) (by decide)) ?_
      show own_Fin p e below s (own_QB' Z number ln h0 n0) 1 9 (U.setTop (mkF m 61 #[.val (.ref x0), .val (.int ln), .val (.ref b4), .val (.int i)] []))
      refine own_go (fun tgt => XS.aloadN Y.here hx rfl (hb hby own_d4_61) rfl rfl) ?_
      show own_Fin p e below s (own_QB' Z number ln h0 n0) 1 9 (U.setTop (mkF m 62 #[.val (.ref x0), .val (.int ln), .val (.ref b4), .val (.int i)] [(.ref b4)]))
      exact own_ret Y hlk hx hret rfl (Or.inr (Or.inr (Or.inr (Or.inr ⟨rfl, rfl, rfl⟩)))) (hb hby own_d4_62) ⟨by rw [g4], N, K, by
        rw [← g4]
        refine A.cong (fun j h1 h2 => ?_)
        by_cases c : j = (0 : Int32)
        · rw [(hq j h1 h2).1 c]; exact (if_pos c).symm
        · rw [(hq j h1 h2).2 c (by have := own_neT c; have := own_nltT h1; omega)]; exact (if_neg c).symm⟩ (by decide) (by decide)
    | succ k ih =>
      intro i hk hi U L q Y N K F A hq
      show own_Fin p e below s (own_QB' Z number ln h0 n0) 1 9 (U.setTop (mkF m 34 #[.val (.ref x0), .val (.int ln), .val (.ref b4), .val (.int i)] []))
      refine own_go (fun tgt => XS.iloadN Y.here hx rfl (hb hby own_d4_34) rfl) ?_
      show own_Fin p e below s (own_QB' Z number ln h0 n0) 1 9 (U.setTop (mkF m 35 #[.val (.ref x0), .val (.int ln), .val (.ref b4), .val (.int i)] [(.int i)]))
      refine own_go (fun tgt => XS.iloadN Y.here hx rfl (hb hby own_d4_35) rfl) ?_
      show own_Fin p e below s (own_QB' Z number ln h0 n0) 1 9 (U.setTop (mkF m 36 #[.val (.ref x0), .val (.int ln), .val (.ref b4), .val (.int i)] [(.int ln), (.int i)]))
      have hil : i < ln := own_Tlt (by omega)
      have hi0 := own_nltT hi
      refine own_go (fun tgt => XS.icmpNo Y.here hx rfl (hb hby own_d4_36) rfl (tlt hil).2.1) ?_
      show own_Fin p e below s (own_QB' Z number ln h0 n0) 1 9 (U.setTop (mkF m 39 #[.val (.ref x0), .val (.int ln), .val (.ref b4), .val (.int i)] []))
      refine own_go (fun tgt => XS.aloadN Y.here hx rfl (hb hby own_d4_39) rfl rfl) ?_
      show own_Fin p e below s (own_QB' Z number ln h0 n0) 1 9 (U.setTop (mkF m 40 #[.val (.ref x0), .val (.int ln), .val (.ref b4), .val (.int i)] [(.ref b4)]))
      refine own_go (fun tgt => XS.iloadN Y.here hx rfl (hb hby own_d4_40) rfl) ?_
      show own_Fin p e below s (own_QB' Z number ln h0 n0) 1 9 (U.setTop (mkF m 41 #[.val (.ref x0), .val (.int ln), .val (.ref b4), .val (.int i)] [(.int ln), (.ref b4)]))
      refine own_go (fun tgt => XS.iloadN Y.here hx rfl (hb hby own_d4_41) rfl) ?_
      show own_Fin p e below s (own_QB' Z number ln h0 n0) 1 9 (U.setTop (mkF m 42 #[.val (.ref x0), .val (.int ln), .val (.ref b4), .val (.int i)] [(.int i), (.int ln), (.ref b4)]))
      refine own_go (fun tgt => XS.isub Y.here hx rfl (hb hby own_d4_42) rfl) ?_
      show own_Fin p e below s (own_QB' Z number ln h0 n0) 1 9 (U.setTop (mkF m 43 #[.val (.ref x0), .val (.int ln), .val (.ref b4), .val (.int i)] [(.int (ln - i)), (.ref b4)]))
      refine own_go (fun tgt => XS.aloadN Y.here hx rfl (hb hby own_d4_43) rfl rfl) ?_
      show own_Fin p e below s (own_QB' Z number ln h0 n0) 1 9 (U.setTop (mkF m 44 #[.val (.ref x0), .val (.int ln), .val (.ref b4), .val (.int i)] [(.ref x0), (.int (ln - i)), (.ref b4)]))
      obtain ⟨T206qs, X206qs, e206qs, st206qs⟩ := own_getF Y hx hZ rfl hown (hw _ (List.mem_of_getElem? (i := 15) rfl)) F (g := (mkF m 44 #[.val (.ref x0), .val (.int ln), .val (.ref b4), .val (.int i)] [(.ref x0), (.int (ln - i)), (.ref b4)])) rfl rfl (hb hby own_d4_44)
      refine own_go st206qs ?_
      show own_Fin p e below s (own_QB' Z number ln h0 n0) 1 9 (T206qs.setTop (mkF m 47 #[.val (.ref x0), .val (.int ln), .val (.ref b4), .val (.int i)] [(.long number), (.int (ln - i)), (.ref b4)]))
      refine own_go (fun tgt => XS.bipush X206qs.here hx rfl (hb hby own_d4_47)) ?_
      show own_Fin p e below s (own_QB' Z number ln h0 n0) 1 9 (T206qs.setTop (mkF m 49 #[.val (.ref x0), .val (.int ln), .val (.ref b4), .val (.int i)] [(.int (8 : Int32)), (.long number), (.int (ln - i)), (.ref b4)]))
      refine own_go (fun tgt => XS.iloadN X206qs.here hx rfl (hb hby own_d4_49) rfl) ?_
      show own_Fin p e below s (own_QB' Z number ln h0 n0) 1 9 (T206qs.setTop (mkF m 50 #[.val (.ref x0), .val (.int ln), .val (.ref b4), .val (.int i)] [(.int i), (.int (8 : Int32)), (.long number), (.int (ln - i)), (.ref b4)]))
      refine own_go (fun tgt => XS.imul X206qs.here hx rfl (hb hby own_d4_50) rfl) ?_
      show own_Fin p e below s (own_QB' Z number ln h0 n0) 1 9 (T206qs.setTop (mkF m 51 #[.val (.ref x0), .val (.int ln), .val (.ref b4), .val (.int i)] [(.int ((8 : Int32) * i)), (.long number), (.int (ln - i)), (.ref b4)]))
      refine own_go (fun tgt => XS.lushr X206qs.here hx rfl (hb hby own_d4_51) rfl) ?_
      show own_Fin p e below s (own_QB' Z number ln h0 n0) 1 9 (T206qs.setTop (mkF m 52 #[.val (.ref x0), .val (.int ln), .val (.ref b4), .val (.int i)] [(.long ((number.toUInt64 >>> (((8 : Int32) * i) &&& 0x3f).toInt64.toUInt64).toInt64)), (.int (ln - i)), (.ref b4)]))
      refine own_go (fun tgt => XS.l2i X206qs.here hx rfl (hb hby own_d4_52) rfl) ?_
      show own_Fin p e below s (own_QB' Z number ln h0 n0) 1 9 (T206qs.setTop (mkF m 53 #[.val (.ref x0), .val (.int ln), .val (.ref b4), .val (.int i)] [(.int (((number.toUInt64 >>> (((8 : Int32) * i) &&& 0x3f).toInt64.toUInt64).toInt64).toInt32)), (.int (ln - i)), (.ref b4)]))
      refine own_go (fun tgt => XS.i2b X206qs.here hx rfl (hb hby own_d4_53) rfl) ?_
      show own_Fin p e below s (own_QB' Z number ln h0 n0) 1 9 (T206qs.setTop (mkF m 54 #[.val (.ref x0), .val (.int ln), .val (.ref b4), .val (.int i)] [(.int ((((number.toUInt64 >>> (((8 : Int32) * i) &&& 0x3f).toInt64.toUInt64).toInt64).toInt32).toInt8.toInt32)), (.int (ln - i)), (.ref b4)]))
      have e2 : (ln - i).toInt = ln.toInt - i.toInt := by
        have a := c_isub ln i
        have r := rng32 (ln - i)
        omega
      obtain ⟨T207qs, X207qs, W207qs, A207qs, st207qs⟩ := own_stB X206qs hx hZ e206qs A (own_Tnlt (by omega)) (own_Tlt (by omega)) (g := (mkF m 54 #[.val (.ref x0), .val (.int ln), .val (.ref b4), .val (.int i)] [(.int ((((number.toUInt64 >>> (((8 : Int32) * i) &&& 0x3f).toInt64.toUInt64).toInt64).toInt32).toInt8.toInt32)), (.int (ln - i)), (.ref b4)])) rfl rfl (hb hby own_d4_54)
      have N207qs := Fr.snoc X207qs N G_b4
      have F_x0_number_207qs := F.other W207qs (Or.inl ne_x0_b4)
      have KK207qs := K.wr W207qs (Or.inr sz_b4)
      refine own_go st207qs ?_
      show own_Fin p e below s (own_QB' Z number ln h0 n0) 1 9 (T207qs.setTop (mkF m 55 #[.val (.ref x0), .val (.int ln), .val (.ref b4), .val (.int i)] []))
      refine own_go (fun tgt => XS.iinc X207qs.here hx rfl (hb hby own_d4_55) rfl (l' := #[.val (.ref x0), .val (.int ln), .val (.ref b4), .val (.int (i + (1 : Int32)))]) rfl) ?_
      show own_Fin p e below s (own_QB' Z number ln h0 n0) 1 9 (T207qs.setTop (mkF m 58 #[.val (.ref x0), .val (.int ln), .val (.ref b4), .val (.int (i + (1 : Int32)))] []))
      refine own_go (fun tgt => XS.goto X207qs.here hx rfl (pc0 := 58) (pc' := 34) rfl (hb hby own_d4_58) (by decide) (by decide)) ?_
      show own_Fin p e below s (own_QB' Z number ln h0 n0) 1 9 (T207qs.setTop (mkF m 34 #[.val (.ref x0), .val (.int ln), .val (.ref b4), .val (.int (i + (1 : Int32)))] []))
      have e3 : (i + (1 : Int32)).toInt = i.toInt + 1 := by
        have a := c_iadd i 1
        have r := rng32 (i + (1 : Int32))
        have o : (1 : Int32).toInt = 1 := by decide
        omega
      exact ih (i + (1 : Int32)) (by omega) (own_Tnlt (by omega)) _ _ _ X207qs N207qs KK207qs F_x0_number_207qs A207qs (fun j h1 h2 => by
        have h1' := own_nltT h1
        have h2' := own_ltT h2
        refine ⟨fun c => ?_, fun c h3 => ?_⟩
        · show (if j = (ln - i) then _ else _) = _
          rw [if_neg (fun d => by have := congrArg Int32.toInt d; have := congrArg Int32.toInt c; omega)]; exact (hq j h1 h2).1 c
        · show (if j = (ln - i) then _ else _) = _
          by_cases d : j = ln - i
          · rw [if_pos d, d]
            have e4 : ln - (ln - i) = i := Int32.toInt_inj.mp (by
              have a := c_isub ln (ln - i)
              have r := rng32 (ln - (ln - i))
              omega)
            rw [e4]; exact own_bb _
          · rw [if_neg d]; exact (hq j h1 h2).2 c (by have := own_neT d; omega))
  obtain ⟨k, hk⟩ : ∃ k : Nat, ln.toInt - (0 : Int32).toInt = k := ⟨ln.toInt.toNat, by omega⟩
  exact J k 0 hk (by decide) _ _ _ X5 N5 KK5 F_x0_number_5 A5 (fun j h1 h2 => ⟨fun c => by
    show (if j = (0 : Int32) then _ else _) = _
    rw [if_pos c]; exact own_bb _, fun c h3 => by have := own_ltT h2; omega⟩)
theorem own_byt (l : Launch) (Z : State) (a0 : Array Value) (hw : ∀ d ∈ tables_1, d.before a0 Z = true) (x0 : Addr) (number : Int64) (ln : Int32) (h0 : Heap) (n0 : Nat) (Z0 : n0 ≤ h0.size) (hF : Fld Z h0 x0 "com/example/keystripe/keystripe/model/Prefix" "number" "J" (.long number)) (hln : ln = own_len8 number) (hl : 1 ≤ ln.toInt ∧ ln.toInt ≤ 8) : own_Met l Z (⟨"com/example/keystripe/keystripe/model/Prefix", "bytes", "()[B"⟩ : MethodName) prog_19_method_2_code 4 (some (.array .byte)) [] ({ frames := 2, cells := 1, slots := 9, locals := 32 } : Room) #[(.ref x0)] h0 (own_QB' Z number ln h0 n0) :=
  own_enter (plainFor_of_name own_pn4) (own_ef4 x0) hw (fun p e s m below meth c T X C hh => own_byt_w X C hh x0 number ln n0 Z0 hF hln hl)
def own_stp (acc : Int64) (f : Int32 → Int32) (i ln : Int32) : Int64 := if ln < i then acc else ((acc <<< ((8 : Int32) &&& 0x3f).toInt64) ||| (((f i).toInt64) &&& (255 : Int64)))
theorem own_d9_0 : decode method_3_code 0 = .ok (.iload_n 3, 1) := by decide +kernel
theorem own_d9_1 : decode method_3_code 1 = .ok (.iload 4, 2) := by decide +kernel
theorem own_d9_3 : decode method_3_code 3 = .ok (.if_icmp .le 5, 3) := by decide +kernel
theorem own_d9_6 : decode method_3_code 6 = .ok (.lload_n 0, 1) := by decide +kernel
theorem own_d9_7 : decode method_3_code 7 = .ok (.lreturn, 1) := by decide +kernel
theorem own_d9_8 : decode method_3_code 8 = .ok (.lload_n 0, 1) := by decide +kernel
theorem own_d9_9 : decode method_3_code 9 = .ok (.bipush 8, 2) := by decide +kernel
theorem own_d9_11 : decode method_3_code 11 = .ok (.lshl, 1) := by decide +kernel
theorem own_d9_12 : decode method_3_code 12 = .ok (.aload_n 2, 1) := by decide +kernel
theorem own_d9_13 : decode method_3_code 13 = .ok (.iload_n 3, 1) := by decide +kernel
theorem own_d9_14 : decode method_3_code 14 = .ok (.baload, 1) := by decide +kernel
theorem own_d9_15 : decode method_3_code 15 = .ok (.i2l, 1) := by decide +kernel
theorem own_d9_16 : decode method_3_code 16 = .ok (.ldc2_w 30, 3) := by decide +kernel
theorem own_d9_19 : decode method_3_code 19 = .ok (.land, 1) := by decide +kernel
theorem own_d9_20 : decode method_3_code 20 = .ok (.lor, 1) := by decide +kernel
theorem own_d9_21 : decode method_3_code 21 = .ok (.lreturn, 1) := by decide +kernel
theorem own_ef9 (x0 : Int64) (x1 : Addr) (x2 : Int32) (x3 : Int32) : ∀ m, entryFrame m #[(.long x0), (.ref x1), (.int x2), (.int x3)] 5 = mkF m 0 #[.val (.long x0), .second, .val (.ref x1), .val (.int x2), .val (.int x3)] [] := fun m => by first | (simp [entryFrame, mkF, argsToLocals, Value.category]; done) | rfl
set_option maxRecDepth 65536 in
set_option maxHeartbeats 40000000 in
theorem own_st_w {l : Launch} {p : Program} {e : Env} {below : List Frame} {s : State} {m : MethodId} {meth : Method} {c : Code} {Z : State} {a0 args : Array Value} {T : State} {h0 : Heap} (X : Stand p l e ({ frames := 0, cells := 0, slots := 0, locals := 0 } : Room) s m args below meth c T [] 0 0) (C : own_Ctx p s m meth c Z a0 tables_1 (⟨"com/example/keystripe/keystripe/model/PrefixBytesPinLaw", "step", "(J[BII)J"⟩ : MethodName) method_3_code 5 (some .long)) (hh : T.heap = h0) (x0 : Int64) (x1 : Addr) (x2 : Int32) (x3 : Int32) (z : Int32) (f : Int32 → Int32) (n0 : Nat) (Z0 : n0 ≤ h0.size) (hA : own_A Z h0 x1 .byte z f) (hz : z.toInt = 1 + x3.toInt) (hi : 0 ≤ x2.toInt) :
    own_Fin p e below s (own_QP (some (.long (own_stp x0 f x2 x3))) h0) 0 0 (T.setTop (mkF m 0 #[.val (.long x0), .second, .val (.ref x1), .val (.int x2), .val (.int x3)] [])) := by
  obtain ⟨hx, hby, hml, hZ, hown, hnm, hret, hlk, hw⟩ := id C
  show own_Fin p e below s (own_QP (some (.long (own_stp x0 f x2 x3))) h0) 0 0 (T.setTop (mkF m 0 #[.val (.long x0), .second, .val (.ref x1), .val (.int x2), .val (.int x3)] []))
  refine own_go (fun tgt => XS.iloadN X.here hx rfl (hb hby own_d9_0) rfl) ?_
  show own_Fin p e below s (own_QP (some (.long (own_stp x0 f x2 x3))) h0) 0 0 (T.setTop (mkF m 1 #[.val (.long x0), .second, .val (.ref x1), .val (.int x2), .val (.int x3)] [(.int x2)]))
  refine own_go (fun tgt => XS.iload X.here hx rfl (hb hby own_d9_1) rfl) ?_
  show own_Fin p e below s (own_QP (some (.long (own_stp x0 f x2 x3))) h0) 0 0 (T.setTop (mkF m 3 #[.val (.long x0), .second, .val (.ref x1), .val (.int x2), .val (.int x3)] [(.int x3), (.int x2)]))
  have o0 : (0 : Int32).toInt = 0 := by decide
  by_cases hbr : x3 < x2
  · refine own_go (fun tgt => XS.icmpNo X.here hx rfl (hb hby own_d9_3) rfl (tlt hbr).2.2.2) ?_
    show own_Fin p e below s (own_QP (some (.long (own_stp x0 f x2 x3))) h0) 0 0 (T.setTop (mkF m 6 #[.val (.long x0), .second, .val (.ref x1), .val (.int x2), .val (.int x3)] []))
    refine own_go (fun tgt => XS.lloadN X.here hx rfl (hb hby own_d9_6) rfl) ?_
    show own_Fin p e below s (own_QP (some (.long (own_stp x0 f x2 x3))) h0) 0 0 (T.setTop (mkF m 7 #[.val (.long x0), .second, .val (.ref x1), .val (.int x2), .val (.int x3)] [(.long x0)]))
    exact own_ret X hlk hx hret rfl (Or.inr (Or.inl ⟨rfl, rfl, _, rfl⟩)) (hb hby own_d9_7) ⟨congrArg (fun v => some (Value.long v)) (if_pos hbr).symm, rfl, hh⟩ (by decide) (by decide)
  · refine own_go (fun tgt => XS.icmpYes X.here hx rfl (pc0 := 3) (pc' := 8) rfl (hb hby own_d9_3) rfl (flt hbr).2.2.2 (by decide) (by decide)) ?_
    show own_Fin p e below s (own_QP (some (.long (own_stp x0 f x2 x3))) h0) 0 0 (T.setTop (mkF m 8 #[.val (.long x0), .second, .val (.ref x1), .val (.int x2), .val (.int x3)] []))
    refine own_go (fun tgt => XS.lloadN X.here hx rfl (hb hby own_d9_8) rfl) ?_
    show own_Fin p e below s (own_QP (some (.long (own_stp x0 f x2 x3))) h0) 0 0 (T.setTop (mkF m 9 #[.val (.long x0), .second, .val (.ref x1), .val (.int x2), .val (.int x3)] [(.long x0)]))
    refine own_go (fun tgt => XS.bipush X.here hx rfl (hb hby own_d9_9)) ?_
    show own_Fin p e below s (own_QP (some (.long (own_stp x0 f x2 x3))) h0) 0 0 (T.setTop (mkF m 11 #[.val (.long x0), .second, .val (.ref x1), .val (.int x2), .val (.int x3)] [(.int (8 : Int32)), (.long x0)]))
    refine own_go (fun tgt => XS.lshl X.here hx rfl (hb hby own_d9_11) rfl) ?_
    show own_Fin p e below s (own_QP (some (.long (own_stp x0 f x2 x3))) h0) 0 0 (T.setTop (mkF m 12 #[.val (.long x0), .second, .val (.ref x1), .val (.int x2), .val (.int x3)] [(.long (x0 <<< ((8 : Int32) &&& 0x3f).toInt64))]))
    refine own_go (fun tgt => XS.aloadN X.here hx rfl (hb hby own_d9_12) rfl rfl) ?_
    show own_Fin p e below s (own_QP (some (.long (own_stp x0 f x2 x3))) h0) 0 0 (T.setTop (mkF m 13 #[.val (.long x0), .second, .val (.ref x1), .val (.int x2), .val (.int x3)] [(.ref x1), (.long (x0 <<< ((8 : Int32) &&& 0x3f).toInt64))]))
    refine own_go (fun tgt => XS.iloadN X.here hx rfl (hb hby own_d9_13) rfl) ?_
    show own_Fin p e below s (own_QP (some (.long (own_stp x0 f x2 x3))) h0) 0 0 (T.setTop (mkF m 14 #[.val (.long x0), .second, .val (.ref x1), .val (.int x2), .val (.int x3)] [(.int x2), (.ref x1), (.long (x0 <<< ((8 : Int32) &&& 0x3f).toInt64))]))
    refine own_go (own_ldB X hx hZ hh hA (j := x2) (own_Tnlt (by omega)) (own_Tlt (by have := own_nltT hbr; omega)) (g := (mkF m 14 #[.val (.long x0), .second, .val (.ref x1), .val (.int x2), .val (.int x3)] [(.int x2), (.ref x1), (.long (x0 <<< ((8 : Int32) &&& 0x3f).toInt64))])) rfl rfl (hb hby own_d9_14)) ?_
    show own_Fin p e below s (own_QP (some (.long (own_stp x0 f x2 x3))) h0) 0 0 (T.setTop (mkF m 15 #[.val (.long x0), .second, .val (.ref x1), .val (.int x2), .val (.int x3)] [(.int (f x2)), (.long (x0 <<< ((8 : Int32) &&& 0x3f).toInt64))]))
    refine own_go (fun tgt => XS.i2l X.here hx rfl (hb hby own_d9_15) rfl) ?_
    show own_Fin p e below s (own_QP (some (.long (own_stp x0 f x2 x3))) h0) 0 0 (T.setTop (mkF m 16 #[.val (.long x0), .second, .val (.ref x1), .val (.int x2), .val (.int x3)] [(.long ((f x2).toInt64)), (.long (x0 <<< ((8 : Int32) &&& 0x3f).toInt64))]))
    refine own_go (fun tgt => X.ldc2Long hx hown (mvT hZ (hw _ (List.mem_of_getElem? (i := 43) rfl))) (g := (mkF m 16 #[.val (.long x0), .second, .val (.ref x1), .val (.int x2), .val (.int x3)] [(.long ((f x2).toInt64)), (.long (x0 <<< ((8 : Int32) &&& 0x3f).toInt64))])) rfl (hb hby own_d9_16) tgt) ?_
    show own_Fin p e below s (own_QP (some (.long (own_stp x0 f x2 x3))) h0) 0 0 (T.setTop (mkF m 19 #[.val (.long x0), .second, .val (.ref x1), .val (.int x2), .val (.int x3)] [(.long (255 : Int64)), (.long ((f x2).toInt64)), (.long (x0 <<< ((8 : Int32) &&& 0x3f).toInt64))]))
    refine own_go (fun tgt => XS.land X.here hx rfl (hb hby own_d9_19) rfl) ?_
    show own_Fin p e below s (own_QP (some (.long (own_stp x0 f x2 x3))) h0) 0 0 (T.setTop (mkF m 20 #[.val (.long x0), .second, .val (.ref x1), .val (.int x2), .val (.int x3)] [(.long (((f x2).toInt64) &&& (255 : Int64))), (.long (x0 <<< ((8 : Int32) &&& 0x3f).toInt64))]))
    refine own_go (fun tgt => XS.lor X.here hx rfl (hb hby own_d9_20) rfl) ?_
    show own_Fin p e below s (own_QP (some (.long (own_stp x0 f x2 x3))) h0) 0 0 (T.setTop (mkF m 21 #[.val (.long x0), .second, .val (.ref x1), .val (.int x2), .val (.int x3)] [(.long ((x0 <<< ((8 : Int32) &&& 0x3f).toInt64) ||| (((f x2).toInt64) &&& (255 : Int64))))]))
    exact own_ret X hlk hx hret rfl (Or.inr (Or.inl ⟨rfl, rfl, _, rfl⟩)) (hb hby own_d9_21) ⟨congrArg (fun v => some (Value.long v)) (if_neg hbr).symm, rfl, hh⟩ (by decide) (by decide)
theorem own_st (l : Launch) (Z : State) (a0 : Array Value) (hw : ∀ d ∈ tables_1, d.before a0 Z = true) (x0 : Int64) (x1 : Addr) (x2 : Int32) (x3 : Int32) (z : Int32) (f : Int32 → Int32) (h0 : Heap) (n0 : Nat) (Z0 : n0 ≤ h0.size) (hA : own_A Z h0 x1 .byte z f) (hz : z.toInt = 1 + x3.toInt) (hi : 0 ≤ x2.toInt) : own_Met l Z (⟨"com/example/keystripe/keystripe/model/PrefixBytesPinLaw", "step", "(J[BII)J"⟩ : MethodName) method_3_code 5 (some .long) [] ({ frames := 0, cells := 0, slots := 0, locals := 0 } : Room) #[(.long x0), (.ref x1), (.int x2), (.int x3)] h0 (own_QP (some (.long (own_stp x0 f x2 x3))) h0) :=
  own_enter (plainFor_of_name own_pn3) (own_ef9 x0 x1 x2 x3) hw (fun p e s m below meth c T X C hh => own_st_w X C hh x0 x1 x2 x3 z f n0 Z0 hA hz hi)
theorem own_sh0 (y : Int64) (q : Int32) (h : q.toBitVec.toNat % 64 = 0) : ((y.toUInt64 >>> (q &&& 0x3f).toInt64.toUInt64).toInt64) = y := by
  have e : (q &&& 0x3f).toInt64 = 0 := Int64.toBitVec_inj.mp (by rw [(sm64 q 0 h).1]; rfl)
  rw [e]
  show (y.toUInt64 >>> 0).toInt64 = y
  rw [UInt64.shiftRight_zero]
  rfl
theorem own_nn (x : Int64) (s : Int32) : 0 ≤ (((x &&& (9223372036854775807 : Int64)).toUInt64 >>> ((s &&& (63 : Int32)) &&& 0x3f).toInt64.toUInt64).toInt64).toInt := by
  by_cases h : (s &&& (63 : Int32)).toBitVec.toNat % 64 = 0
  · rw [own_sh0 _ _ h, c_maskL x 9223372036854775807 63 (by decide) (by decide)]
    exact Int.emod_nonneg _ (by decide)
  · rw [c_lushr _ (s &&& (63 : Int32)) _ rfl (by omega)]
    exact Int.ediv_nonneg (Int.emod_nonneg _ (by decide)) (Int.natCast_nonneg _)
theorem own_l1e (ln : Int32) (h : 1 ≤ ln.toInt ∧ ln.toInt ≤ 8) : ((1 : Int32) + ln).toInt = 1 + ln.toInt := by
  have a := c_iadd 1 ln
  have r := rng32 ((1 : Int32) + ln)
  have o : (1 : Int32).toInt = 1 := by decide
  omega
theorem own_l1 (ln : Int32) (h : 1 ≤ ln.toInt ∧ ln.toInt ≤ 8) : (0 : Int32).toInt < ((1 : Int32) + ln).toInt := by
  rw [own_l1e ln h]
  have o : (0 : Int32).toInt = 0 := by decide
  omega
def own_Acc (N : Int64) (ln : Int32) (j : Nat) (acc : Int64) : Prop := acc.toInt = N.toInt / ((256 ^ (ln.toInt.toNat - j) : Nat) : Int)
theorem own_acc0 (N : Int64) (ln : Int32) (hN : 0 ≤ N.toInt) (hl : 1 ≤ ln.toInt ∧ ln.toInt ≤ 8) (hs : N.toInt < ((256 ^ ln.toInt.toNat : Nat) : Int)) : own_Acc N ln 0 (0 : Int64) := by
  show (0 : Int64).toInt = _
  rw [Nat.sub_zero, Int.ediv_eq_zero_of_lt hN hs]
  decide
theorem own_acc8 (N : Int64) (ln : Int32) (acc : Int64) (hl : 1 ≤ ln.toInt ∧ ln.toInt ≤ 8) (h : own_Acc N ln 8 acc) : acc = N := by
  have e : ln.toInt.toNat - 8 = 0 := by omega
  have h' : acc.toInt = N.toInt / ((256 ^ (ln.toInt.toNat - 8) : Nat) : Int) := h
  rw [e] at h'
  exact Int64.toInt_inj.mp (by rw [h']; simp)
/-- the byte at k of N, k = 0 .. 7 -/
theorem own_shk (N : Int64) (k : Int32) (K : Nat) (hk : k.toInt = K) (hK : K ≤ 7) (hN : 0 ≤ N.toInt) : ((N.toUInt64 >>> (((8 : Int32) * k) &&& 0x3f).toInt64.toUInt64).toInt64).toInt = N.toInt / ((256 ^ K : Nat) : Int) := by
  have r := rng64 N
  have q : ∀ j : Int32, k.toInt = j.toInt → k = j := fun j => Int32.toInt_inj.mp
  have hm : N.toInt % 18446744073709551616 = N.toInt := by omega
  rcases (by omega : K = 0 ∨ K = 1 ∨ K = 2 ∨ K = 3 ∨ K = 4 ∨ K = 5 ∨ K = 6 ∨ K = 7) with rfl | rfl | rfl | rfl | rfl | rfl | rfl | rfl
  · rw [q 0 hk, own_sh0 _ _ (by decide)]; simp
  · rw [q 1 hk, c_lushr N _ 8 (by decide) (by decide), hm]
  · rw [q 2 hk, c_lushr N _ 16 (by decide) (by decide), hm]
  · rw [q 3 hk, c_lushr N _ 24 (by decide) (by decide), hm]
  · rw [q 4 hk, c_lushr N _ 32 (by decide) (by decide), hm]
  · rw [q 5 hk, c_lushr N _ 40 (by decide) (by decide), hm]
  · rw [q 6 hk, c_lushr N _ 48 (by decide) (by decide), hm]
  · rw [q 7 hk, c_lushr N _ 56 (by decide) (by decide), hm]
theorem own_byk (N : Int64) (k : Int32) (K : Nat) (hk : k.toInt = K) (hK : K ≤ 7) (hN : 0 ≤ N.toInt) : (((own_by N k).toInt64) &&& (255 : Int64)).toInt = (N.toInt / ((256 ^ K : Nat) : Int)) % 256 := by
  have m := c_maskL ((own_by N k).toInt64) 255 8 (by decide) (by decide)
  have e : ((2 ^ 8 : Nat) : Int) = 256 := by decide
  rw [e, c_i2l] at m
  rw [m]
  have a := c_i2b (((N.toUInt64 >>> (((8 : Int32) * k) &&& 0x3f).toInt64.toUInt64).toInt64).toInt32)
  have b := c_l2i ((N.toUInt64 >>> (((8 : Int32) * k) &&& 0x3f).toInt64.toUInt64).toInt64)
  rw [own_shk N k K hk hK hN] at b
  have d : own_by N k = ((((N.toUInt64 >>> (((8 : Int32) * k) &&& 0x3f).toInt64.toUInt64).toInt64).toInt32).toInt8.toInt32) := rfl
  rw [d]
  omega
theorem own_accS (N : Int64) (ln : Int32) (acc : Int64) (j : Nat) (i : Int32) (hi : i.toInt = j) (hN : 0 ≤ N.toInt) (hl : 1 ≤ ln.toInt ∧ ln.toInt ≤ 8) (hj : 1 ≤ j ∧ j ≤ 8) (h : own_Acc N ln (j - 1) acc) : own_Acc N ln j (own_stp acc (own_el N ln) i ln) := by
  have h' : acc.toInt = N.toInt / ((256 ^ (ln.toInt.toNat - (j - 1)) : Nat) : Int) := h
  show (own_stp acc (own_el N ln) i ln).toInt = N.toInt / ((256 ^ (ln.toInt.toNat - j) : Nat) : Int)
  by_cases c : ln < i
  · have c' := own_ltT c
    rw [show own_stp acc (own_el N ln) i ln = acc from if_pos c, h', show ln.toInt.toNat - (j - 1) = 0 from by omega, show ln.toInt.toNat - j = 0 from by omega]
  · have c' := own_nltT c
    rw [show own_stp acc (own_el N ln) i ln = ((acc <<< ((8 : Int32) &&& 0x3f).toInt64) ||| (((own_el N ln i).toInt64) &&& (255 : Int64))) from if_neg c]
    have ne : ¬ i = (0 : Int32) := fun q => by
      have := congrArg Int32.toInt q
      have o : (0 : Int32).toInt = 0 := by decide
      omega
    rw [show own_el N ln i = own_by N (ln - i) from if_neg ne]
    have e1 : (ln - i).toInt = ((ln.toInt.toNat - j : Nat) : Int) := by
      have a := c_isub ln i
      have r := rng32 (ln - i)
      omega
    have B := own_byk N (ln - i) (ln.toInt.toNat - j) e1 (by omega) hN
    rw [show ln.toInt.toNat - (j - 1) = (ln.toInt.toNat - j) + 1 from by omega, Nat.pow_succ, Int.natCast_mul, ← Int.ediv_ediv_of_nonneg (Int.natCast_nonneg _)] at h'
    generalize hM : N.toInt / ((256 ^ (ln.toInt.toNat - j) : Nat) : Int) = M at B h' ⊢
    have hM0 : 0 ≤ M := by rw [← hM]; exact Int.ediv_nonneg hN (Int.natCast_nonneg _)
    have hM1 : M ≤ N.toInt := by rw [← hM]; exact Int.ediv_le_self _ hN
    have r := rng64 N
    have e2 : acc.toInt = M / 256 := h'
    have s1 := c_lshl acc 8 8 (by decide)
    have e3 : ((2 ^ 8 : Nat) : Int) = 256 := by decide
    rw [e3] at s1
    have r1 := rng64 (acc <<< ((8 : Int32) &&& 0x3f).toInt64)
    generalize (acc <<< ((8 : Int32) &&& 0x3f).toInt64) = A at s1 r1 ⊢
    generalize (((own_by N (ln - i)).toInt64) &&& (255 : Int64)) = Y at B ⊢
    have e4 : A.toInt = M / 256 * 256 := by omega
    have o := c_orL A Y 8 (by decide) 256 (by decide) (by omega) (by omega) (by omega)
    have r2 := rng64 (A ||| Y)
    omega
/-! how many bits -/
def own_Bits (r v n k : Int) : Prop := ∃ b w : Nat, w = 2 ^ b ∧ (b : Int) ≤ k ∧ r = n - b ∧ (w : Int) ≤ v ∧ v < 2 * w
theorem own_bs (v : Int32) (s : Int32) (S : Nat) (hs : s.toBitVec.toNat % 32 = S) (h0 : 0 < S) (hv : 0 ≤ v.toInt) : ((v.toUInt32 >>> (s &&& 31).toUInt32).toInt32).toInt = v.toInt / ((2 ^ S : Nat) : Int) := by
  rw [c_iushr v s S hs h0]
  have := rng32 v
  rw [show v.toInt % 4294967296 = v.toInt from by omega]
theorem own_bits73 (v n : Int32) (h1 : 1 ≤ v.toInt) (h2 : v.toInt < 4) (hn : 1 ≤ n.toInt) : own_Bits (own_f6_73 v n).toInt v.toInt n.toInt 1 := by
  have s := own_bs v 1 1 (by decide) (by decide) (by omega)
  have e : ((2 ^ 1 : Nat) : Int) = 2 := by decide
  rw [e] at s
  have a := c_isub n ((v.toUInt32 >>> ((1 : Int32) &&& 31).toUInt32).toInt32)
  have r := rng32 (n - ((v.toUInt32 >>> ((1 : Int32) &&& 31).toUInt32).toInt32))
  have rn := rng32 n
  have d : own_f6_73 v n = n - ((v.toUInt32 >>> ((1 : Int32) &&& 31).toUInt32).toInt32) := rfl
  rw [d]
  by_cases c : v.toInt < 2
  · exact ⟨0, 1, rfl, by omega, by omega, by omega, by omega⟩
  · exact ⟨1, 2, rfl, by omega, by omega, by omega, by omega⟩
theorem own_bitsS {r v n k : Int} {S : Nat} (W : Int) (hW : W = ((2 ^ S : Nat) : Int)) (v' : Int) (hv : v' = v / W) (n' : Int) (hn : n' = n - S) (k' : Int) (hk : k' = k - S) (h : own_Bits r v' n' k') : own_Bits r v n k := by
  obtain ⟨b, w, h1, h2, h3, h4, h5⟩ := h
  have hW0 : 0 < W := by rw [hW]; exact Int.natCast_pos.mpr (Nat.pow_pos (by decide))
  refine ⟨b + S, w * 2 ^ S, by rw [h1, Nat.pow_add], by omega, by omega, ?_, ?_⟩
  · rw [Int.natCast_mul, ← hW]
    have q := Int.mul_ediv_self_le (x := v) (k := W) (by omega)
    rw [hv] at h4
    have q2 : (w : Int) * W ≤ (v / W) * W := Int.mul_le_mul_of_nonneg_right h4 (by omega)
    rw [Int.mul_comm W] at q
    omega
  · rw [Int.natCast_mul, ← hW]
    have q := Int.lt_mul_ediv_self_add (x := v) hW0
    rw [hv] at h5
    have q2 : (v / W + 1) * W ≤ (2 * (w : Int)) * W := Int.mul_le_mul_of_nonneg_right (by omega) (by omega)
    rw [Int.add_mul, Int.one_mul, Int.mul_comm (v / W)] at q2
    rw [Int.mul_assoc] at q2
    omega
theorem own_bitsM {r v n k : Int} (K : Int) (hK : k ≤ K) (h : own_Bits r v n k) : own_Bits r v n K := by
  obtain ⟨b, w, h1, h2, h3⟩ := h
  exact ⟨b, w, h1, by omega, h3⟩
theorem own_subc (n : Int32) (d : Int32) (D : Int) (hd : d.toInt = D) (h : -2147483648 ≤ n.toInt + D) (h' : n.toInt + D < 2147483648) : (n + d).toInt = n.toInt + D := by
  have a := c_iadd n d
  have r := rng32 (n + d)
  omega
theorem own_bits61 (v n : Int32) (h1 : 1 ≤ v.toInt) (h2 : v.toInt < 16) (hn : 3 ≤ n.toInt) : own_Bits (own_f6_61 v n).toInt v.toInt n.toInt 3 := by
  by_cases c : v < (4 : Int32)
  · rw [show own_f6_61 v n = own_f6_73 v n from if_pos c]
    have c' := own_ltT c
    have o : (4 : Int32).toInt = 4 := by decide
    exact own_bitsM 3 (by decide) (own_bits73 v n h1 (by omega) (by omega))
  · rw [show own_f6_61 v n = own_f6_73 ((v.toUInt32 >>> ((2 : Int32) &&& 31).toUInt32).toInt32) (n + (-2 : Int32)) from if_neg c]
    have c' := own_nltT c
    have o : (4 : Int32).toInt = 4 := by decide
    have rn := rng32 n
    have s := own_bs v 2 2 (by decide) (by decide) (by omega)
    have e : ((2 ^ 2 : Nat) : Int) = 4 := by decide
    rw [e] at s
    have a := own_subc n (-2) (-2) (by decide) (by omega) (by omega)
    exact own_bitsS (S := 2) 4 (by decide) _ s _ (by omega) _ (by omega) (own_bits73 _ _ (by omega) (by omega) (by omega))
theorem own_bits48 (v n : Int32) (h1 : 1 ≤ v.toInt) (h2 : v.toInt < 256) (hn : 7 ≤ n.toInt) : own_Bits (own_f6_48 v n).toInt v.toInt n.toInt 7 := by
  by_cases c : v < (16 : Int32)
  · rw [show own_f6_48 v n = own_f6_61 v n from if_pos c]
    have c' := own_ltT c
    have o : (16 : Int32).toInt = 16 := by decide
    exact own_bitsM 7 (by decide) (own_bits61 v n h1 (by omega) (by omega))
  · rw [show own_f6_48 v n = own_f6_61 ((v.toUInt32 >>> ((4 : Int32) &&& 31).toUInt32).toInt32) (n + (-4 : Int32)) from if_neg c]
    have c' := own_nltT c
    have o : (16 : Int32).toInt = 16 := by decide
    have rn := rng32 n
    have s := own_bs v 4 4 (by decide) (by decide) (by omega)
    have e : ((2 ^ 4 : Nat) : Int) = 16 := by decide
    rw [e] at s
    have a := own_subc n (-4) (-4) (by decide) (by omega) (by omega)
    exact own_bitsS (S := 4) 16 (by decide) _ s _ (by omega) _ (by omega) (own_bits61 _ _ (by omega) (by omega) (by omega))
theorem own_bits33 (v n : Int32) (h1 : 1 ≤ v.toInt) (h2 : v.toInt < 65536) (hn : 15 ≤ n.toInt) : own_Bits (own_f6_33 v n).toInt v.toInt n.toInt 15 := by
  by_cases c : v < (256 : Int32)
  · rw [show own_f6_33 v n = own_f6_48 v n from if_pos c]
    have c' := own_ltT c
    have o : (256 : Int32).toInt = 256 := by decide
    exact own_bitsM 15 (by decide) (own_bits48 v n h1 (by omega) (by omega))
  · rw [show own_f6_33 v n = own_f6_48 ((v.toUInt32 >>> ((8 : Int32) &&& 31).toUInt32).toInt32) (n + (-8 : Int32)) from if_neg c]
    have c' := own_nltT c
    have o : (256 : Int32).toInt = 256 := by decide
    have rn := rng32 n
    have s := own_bs v 8 8 (by decide) (by decide) (by omega)
    have e : ((2 ^ 8 : Nat) : Int) = 256 := by decide
    rw [e] at s
    have a := own_subc n (-8) (-8) (by decide) (by omega) (by omega)
    exact own_bitsS (S := 8) 256 (by decide) _ s _ (by omega) _ (by omega) (own_bits48 _ _ (by omega) (by omega) (by omega))
theorem own_bits14 {r v n : Int} (h : own_Bits r v n 15) (hv : v < 32768) : own_Bits r v n 14 := by
  obtain ⟨b, w, h1, h2, h3, h4, h5⟩ := h
  by_cases c : b = 15
  · subst c
    have : (w : Int) = 32768 := by rw [h1]; decide
    omega
  · exact ⟨b, w, h1, by omega, h3, h4, h5⟩
theorem own_bits0 (v : Int32) (h1 : 1 ≤ v.toInt) : own_Bits (own_f6_0 v).toInt v.toInt 31 30 := by
  have z : (0 : Int32) < v := own_gt 0 (by decide) (by omega)
  have rv := rng32 v
  have n31 : (31 : Int32).toInt = 31 := by decide
  by_cases c : v < (65536 : Int32)
  · rw [show own_f6_0 v = own_f6_33 v 31 from (if_pos z).trans (if_pos c)]
    have c' := own_ltT c
    have o : (65536 : Int32).toInt = 65536 := by decide
    have q := own_bits33 v 31 h1 (by omega) (by omega)
    rw [n31] at q
    exact own_bitsM 30 (by decide) q
  · rw [show own_f6_0 v = own_f6_33 ((v.toUInt32 >>> ((16 : Int32) &&& 31).toUInt32).toInt32) ((31 : Int32) + (-16 : Int32)) from (if_pos z).trans (if_neg c)]
    have c' := own_nltT c
    have o : (65536 : Int32).toInt = 65536 := by decide
    have s := own_bs v 16 16 (by decide) (by decide) (by omega)
    have e : ((2 ^ 16 : Nat) : Int) = 65536 := by decide
    rw [e] at s
    have a : ((31 : Int32) + (-16 : Int32)).toInt = 15 := by decide
    have q := own_bits33 ((v.toUInt32 >>> ((16 : Int32) &&& 31).toUInt32).toInt32) ((31 : Int32) + (-16 : Int32)) (by omega) (by omega) (by omega)
    exact own_bitsS (S := 16) 65536 (by decide) _ s _ (by omega) 14 (by decide) (own_bits14 q (by omega))
theorem own_bitsL (N : Int64) (hN : 0 ≤ N.toInt) : ∃ k w : Nat, (own_f5_0 N).toInt = 64 - k ∧ k ≤ 63 ∧ ((k = 0 ∧ N.toInt = 0) ∨ (1 ≤ k ∧ w = 2 ^ (k - 1) ∧ (w : Int) ≤ N.toInt ∧ N.toInt < 2 * w)) := by
  have rN := rng64 N
  have hs := c_lushr N 32 32 (by decide) (by decide)
  have e : ((2 ^ 32 : Nat) : Int) = 4294967296 := by decide
  rw [e, show N.toInt % 18446744073709551616 = N.toInt from by omega] at hs
  have hl := c_l2i ((N.toUInt64 >>> ((32 : Int32) &&& 0x3f).toInt64.toUInt64).toInt64)
  rw [hs] at hl
  obtain ⟨x, ex⟩ : ∃ x, x = (((N.toUInt64 >>> ((32 : Int32) &&& 0x3f).toInt64.toUInt64).toInt64).toInt32) := ⟨_, rfl⟩
  rw [← ex] at hl
  have rx := rng32 x
  have o32 : (32 : Int32).toInt = 32 := by decide
  by_cases c : x = (0 : Int32)
  · have eL : own_f5_0 N = (32 : Int32) + own_f6_0 (N.toInt32) := if_pos (ex.symm.trans c)
    have x0 : x.toInt = 0 := by rw [c]; decide
    have lo := c_l2i N
    have rl := rng32 N.toInt32
    rw [eL]
    generalize N.toInt32 = y at lo rl ⊢
    have a := c_iadd 32 (own_f6_0 y)
    have ra := rng32 ((32 : Int32) + own_f6_0 y)
    by_cases z : N.toInt = 0
    · have hy : y = 0 := Int32.toInt_inj.mp (by have o : (0 : Int32).toInt = 0 := (by decide); omega)
      exact ⟨0, 0, by rw [hy]; decide +kernel, by decide, Or.inl ⟨rfl, z⟩⟩
    · by_cases u : N.toInt < 2147483648
      · obtain ⟨b, w, h1, h2, h3, h4, h5⟩ := own_bits0 y (by omega)
        exact ⟨b + 1, w, by omega, by omega, Or.inr ⟨by omega, by rw [h1]; rfl, by omega, by omega⟩⟩
      · have q : own_f6_0 y = (0 : Int32) := (if_neg (own_ngt 0 (by decide) (by omega))).trans (if_neg (own_ineq 0 (by decide) (by omega)))
        have q0 : (own_f6_0 y).toInt = 0 := by rw [q]; decide
        exact ⟨32, 2147483648, by omega, by decide, Or.inr ⟨by decide, by decide, by omega, by omega⟩⟩
  · have eL : own_f5_0 N = own_f6_0 x := by
      rw [ex]
      exact if_neg (fun q => c (ex.trans q))
    have xn : ¬ x.toInt = 0 := fun q => c (Int32.toInt_inj.mp (by rw [q]; decide))
    rw [eL]
    obtain ⟨b, w, h1, h2, h3, h4, h5⟩ := own_bits0 x (by omega)
    refine ⟨33 + b, w * 4294967296, by omega, by omega, Or.inr ⟨by omega, ?_, by omega, by omega⟩⟩
    rw [show 33 + b - 1 = b + 32 from by omega, Nat.pow_add, ← h1]
theorem own_ltJ {x k : Int64} (K : Int) (hk : k.toInt = K) (h : x.toInt < K) : x < k := by rw [Int64.lt_iff_toInt_lt, hk]; exact h
theorem own_nltJ {x k : Int64} (K : Int) (hk : k.toInt = K) (h : K ≤ x.toInt) : ¬ x < k := by rw [Int64.lt_iff_toInt_lt, hk]; omega
theorem own_rf1 (N : Int64) (h2 : N.toInt < 256) : own_f8_0 N = (1 : Int32) := (if_pos (own_ltJ (256) (by decide) (by omega)))
theorem own_rf2 (N : Int64) (h1 : 256 ≤ N.toInt) (h2 : N.toInt < 65536) : own_f8_0 N = (2 : Int32) := (if_neg (own_nltJ (256) (by decide) (by omega))).trans ((if_pos (own_ltJ (65536) (by decide) (by omega))))
theorem own_rf3 (N : Int64) (h1 : 65536 ≤ N.toInt) (h2 : N.toInt < 16777216) : own_f8_0 N = (3 : Int32) := (if_neg (own_nltJ (256) (by decide) (by omega))).trans ((if_neg (own_nltJ (65536) (by decide) (by omega))).trans ((if_pos (own_ltJ (16777216) (by decide) (by omega)))))
theorem own_rf4 (N : Int64) (h1 : 16777216 ≤ N.toInt) (h2 : N.toInt < 4294967296) : own_f8_0 N = (4 : Int32) := (if_neg (own_nltJ (256) (by decide) (by omega))).trans ((if_neg (own_nltJ (65536) (by decide) (by omega))).trans ((if_neg (own_nltJ (16777216) (by decide) (by omega))).trans ((if_pos (own_ltJ (4294967296) (by decide) (by omega))))))
theorem own_rf5 (N : Int64) (h1 : 4294967296 ≤ N.toInt) (h2 : N.toInt < 1099511627776) : own_f8_0 N = (5 : Int32) := (if_neg (own_nltJ (256) (by decide) (by omega))).trans ((if_neg (own_nltJ (65536) (by decide) (by omega))).trans ((if_neg (own_nltJ (16777216) (by decide) (by omega))).trans ((if_neg (own_nltJ (4294967296) (by decide) (by omega))).trans ((if_pos (own_ltJ (1099511627776) (by decide) (by omega)))))))
theorem own_rf6 (N : Int64) (h1 : 1099511627776 ≤ N.toInt) (h2 : N.toInt < 281474976710656) : own_f8_0 N = (6 : Int32) := (if_neg (own_nltJ (256) (by decide) (by omega))).trans ((if_neg (own_nltJ (65536) (by decide) (by omega))).trans ((if_neg (own_nltJ (16777216) (by decide) (by omega))).trans ((if_neg (own_nltJ (4294967296) (by decide) (by omega))).trans ((if_neg (own_nltJ (1099511627776) (by decide) (by omega))).trans ((if_pos (own_ltJ (281474976710656) (by decide) (by omega))))))))
theorem own_rf7 (N : Int64) (h1 : 281474976710656 ≤ N.toInt) (h2 : N.toInt < 72057594037927936) : own_f8_0 N = (7 : Int32) := (if_neg (own_nltJ (256) (by decide) (by omega))).trans ((if_neg (own_nltJ (65536) (by decide) (by omega))).trans ((if_neg (own_nltJ (16777216) (by decide) (by omega))).trans ((if_neg (own_nltJ (4294967296) (by decide) (by omega))).trans ((if_neg (own_nltJ (1099511627776) (by decide) (by omega))).trans ((if_neg (own_nltJ (281474976710656) (by decide) (by omega))).trans ((if_pos (own_ltJ (72057594037927936) (by decide) (by omega)))))))))
theorem own_rf8 (N : Int64) (h1 : 72057594037927936 ≤ N.toInt) (h2 : True) : own_f8_0 N = (8 : Int32) := (if_neg (own_nltJ (256) (by decide) (by omega))).trans ((if_neg (own_nltJ (65536) (by decide) (by omega))).trans ((if_neg (own_nltJ (16777216) (by decide) (by omega))).trans ((if_neg (own_nltJ (4294967296) (by decide) (by omega))).trans ((if_neg (own_nltJ (1099511627776) (by decide) (by omega))).trans ((if_neg (own_nltJ (281474976710656) (by decide) (by omega))).trans ((if_neg (own_nltJ (72057594037927936) (by decide) (by omega)))))))))
theorem own_lens (N : Int64) (hN : 0 ≤ N.toInt) : ∃ ln : Int32, ln = own_len8 N ∧ (1 ≤ ln.toInt ∧ ln.toInt ≤ 8) ∧ own_f8_0 N = ln ∧ N.toInt < ((256 ^ ln.toInt.toNat : Nat) : Int) := by
  obtain ⟨k, w, hL, hk, hw⟩ := own_bitsL N hN
  have rN := rng64 N
  have o64 : (64 : Int32).toInt = 64 := by decide
  have o7 : (7 : Int32).toInt = 7 := by decide
  have o8 : (8 : Int32).toInt = 8 := by decide
  have o1 : (1 : Int32).toInt = 1 := by decide
  have a1 := c_isub 64 (own_f5_0 N)
  have r1 := rng32 ((64 : Int32) - (own_f5_0 N))
  have a2 := c_iadd ((64 : Int32) - (own_f5_0 N)) 7
  have r2 := rng32 (((64 : Int32) - (own_f5_0 N)) + (7 : Int32))
  have a3 := (c_idiv (((64 : Int32) - (own_f5_0 N)) + (7 : Int32)) 8 8 o8 (by decide)).1 (by omega)
  obtain ⟨y, ey⟩ : ∃ y, y = ((((64 : Int32) - (own_f5_0 N)) + (7 : Int32)) / (8 : Int32)) := ⟨_, rfl⟩
  have hy : y.toInt = ((k : Int) + 7) / 8 := by rw [ey]; omega
  have hlen : own_len8 N = if (1 : Int32) < y then y else (1 : Int32) := by rw [ey]; rfl
  obtain ⟨ln, eln⟩ : ∃ ln, ln = own_len8 N := ⟨_, rfl⟩
  have hg : ln.toInt = if 1 < ((k : Int) + 7) / 8 then ((k : Int) + 7) / 8 else 1 := by
    rw [eln, hlen]
    by_cases c : (1 : Int32) < y
    · have c' := own_ltT c
      rw [if_pos c, if_pos (by omega)]; exact hy
    · have c' := own_nltT c
      rw [if_neg c, if_neg (by omega)]; exact o1
  have q : ∀ j : Int32, ln.toInt = j.toInt → ln = j := fun j => Int32.toInt_inj.mp
  have p1 : ∀ G : Nat, 1 ≤ k → G ≤ k - 1 → 2 ^ G ≤ w := fun G h1 h2 => by
    rcases hw with ⟨h, _⟩ | ⟨_, h, _⟩
    · omega
    · rw [h]; exact Nat.pow_le_pow_right (by decide) h2
  have p2 : ∀ G : Nat, 1 ≤ k → k ≤ G → 2 * w ≤ 2 ^ G := fun G h1 h2 => by
    rcases hw with ⟨h, _⟩ | ⟨_, h, _⟩
    · omega
    · rw [h, Nat.mul_comm, ← Nat.pow_succ, show (k - 1).succ = k from by omega]; exact Nat.pow_le_pow_right (by decide) h2
  rcases (by omega : ((k : Int) + 7) / 8 ≤ 1 ∨ ((k : Int) + 7) / 8 = 2 ∨ ((k : Int) + 7) / 8 = 3 ∨ ((k : Int) + 7) / 8 = 4 ∨ ((k : Int) + 7) / 8 = 5 ∨ ((k : Int) + 7) / 8 = 6 ∨ ((k : Int) + 7) / 8 = 7 ∨ ((k : Int) + 7) / 8 = 8) with c | c | c | c | c | c | c | c
  · have e : ln.toInt = 1 := by rw [hg]; exact if_neg (by omega)
    have h2 : N.toInt < 256 := by
      rcases hw with ⟨h, h'⟩ | ⟨h, _, _, h'⟩
      · omega
      · have := p2 8 h (by omega)
        have l8 : (2 : Nat) ^ 8 = 256 := by decide
        omega
    exact ⟨ln, eln, by omega, (own_rf1 N h2).trans (q 1 e).symm, by rw [e]; exact h2⟩
  · have e : ln.toInt = 2 := by rw [hg]; rw [if_pos (by omega)]; exact c
    have hk1 : 1 ≤ k := by omega
    have b1 := p1 8 hk1 (by omega)
    have b2 := p2 16 hk1 (by omega)
    have l1 : (2 : Nat) ^ 8 = 256 := by decide
    have l2 : (2 : Nat) ^ 16 = 65536 := by decide
    rcases hw with ⟨h, _⟩ | ⟨_, _, h3, h4⟩
    · omega
    · have u1 : 256 ≤ N.toInt := by omega
      have u2 : N.toInt < 65536 := by omega
      exact ⟨ln, eln, by omega, (own_rf2 N u1 u2).trans (q 2 e).symm, by rw [e]; exact u2⟩
  · have e : ln.toInt = 3 := by rw [hg]; rw [if_pos (by omega)]; exact c
    have hk1 : 1 ≤ k := by omega
    have b1 := p1 16 hk1 (by omega)
    have b2 := p2 24 hk1 (by omega)
    have l1 : (2 : Nat) ^ 16 = 65536 := by decide
    have l2 : (2 : Nat) ^ 24 = 16777216 := by decide
    rcases hw with ⟨h, _⟩ | ⟨_, _, h3, h4⟩
    · omega
    · have u1 : 65536 ≤ N.toInt := by omega
      have u2 : N.toInt < 16777216 := by omega
      exact ⟨ln, eln, by omega, (own_rf3 N u1 u2).trans (q 3 e).symm, by rw [e]; exact u2⟩
  · have e : ln.toInt = 4 := by rw [hg]; rw [if_pos (by omega)]; exact c
    have hk1 : 1 ≤ k := by omega
    have b1 := p1 24 hk1 (by omega)
    have b2 := p2 32 hk1 (by omega)
    have l1 : (2 : Nat) ^ 24 = 16777216 := by decide
    have l2 : (2 : Nat) ^ 32 = 4294967296 := by decide
    rcases hw with ⟨h, _⟩ | ⟨_, _, h3, h4⟩
    · omega
    · have u1 : 16777216 ≤ N.toInt := by omega
      have u2 : N.toInt < 4294967296 := by omega
      exact ⟨ln, eln, by omega, (own_rf4 N u1 u2).trans (q 4 e).symm, by rw [e]; exact u2⟩
  · have e : ln.toInt = 5 := by rw [hg]; rw [if_pos (by omega)]; exact c
    have hk1 : 1 ≤ k := by omega
    have b1 := p1 32 hk1 (by omega)
    have b2 := p2 40 hk1 (by omega)
    have l1 : (2 : Nat) ^ 32 = 4294967296 := by decide
    have l2 : (2 : Nat) ^ 40 = 1099511627776 := by decide
    rcases hw with ⟨h, _⟩ | ⟨_, _, h3, h4⟩
    · omega
    · have u1 : 4294967296 ≤ N.toInt := by omega
      have u2 : N.toInt < 1099511627776 := by omega
      exact ⟨ln, eln, by omega, (own_rf5 N u1 u2).trans (q 5 e).symm, by rw [e]; exact u2⟩
  · have e : ln.toInt = 6 := by rw [hg]; rw [if_pos (by omega)]; exact c
    have hk1 : 1 ≤ k := by omega
    have b1 := p1 40 hk1 (by omega)
    have b2 := p2 48 hk1 (by omega)
    have l1 : (2 : Nat) ^ 40 = 1099511627776 := by decide
    have l2 : (2 : Nat) ^ 48 = 281474976710656 := by decide
    rcases hw with ⟨h, _⟩ | ⟨_, _, h3, h4⟩
    · omega
    · have u1 : 1099511627776 ≤ N.toInt := by omega
      have u2 : N.toInt < 281474976710656 := by omega
      exact ⟨ln, eln, by omega, (own_rf6 N u1 u2).trans (q 6 e).symm, by rw [e]; exact u2⟩
  · have e : ln.toInt = 7 := by rw [hg]; rw [if_pos (by omega)]; exact c
    have hk1 : 1 ≤ k := by omega
    have b1 := p1 48 hk1 (by omega)
    have b2 := p2 56 hk1 (by omega)
    have l1 : (2 : Nat) ^ 48 = 281474976710656 := by decide
    have l2 : (2 : Nat) ^ 56 = 72057594037927936 := by decide
    rcases hw with ⟨h, _⟩ | ⟨_, _, h3, h4⟩
    · omega
    · have u1 : 281474976710656 ≤ N.toInt := by omega
      have u2 : N.toInt < 72057594037927936 := by omega
      exact ⟨ln, eln, by omega, (own_rf7 N u1 u2).trans (q 7 e).symm, by rw [e]; exact u2⟩
  · have e : ln.toInt = 8 := by rw [hg]; rw [if_pos (by omega)]; exact c
    have hk1 : 1 ≤ k := by omega
    have b1 := p1 56 hk1 (by omega)
    have b2 := p2 64 hk1 (by omega)
    have l1 : (2 : Nat) ^ 56 = 72057594037927936 := by decide
    have l2 : (2 : Nat) ^ 64 = 18446744073709551616 := by decide
    rcases hw with ⟨h, _⟩ | ⟨_, _, h3, h4⟩
    · omega
    · have u1 : 72057594037927936 ≤ N.toInt := by omega
      have u2 : N.toInt < 18446744073709551616 := by omega
      exact ⟨ln, eln, by omega, (own_rf8 N u1 trivial).trans (q 8 e).symm, by rw [e]; exact u2⟩

theorem own_ef0 (x0 : Int64) (x1 : Int32) : ∀ m, entryFrame m #[(.long x0), (.int x1)] maxLocals = mkF m 0 #[.val (.long x0), .second, .val (.int x1), .unset, .unset, .unset, .unset, .unset, .unset, .unset, .unset] [] := fun m => by first | (simp [entryFrame, mkF, argsToLocals, Value.category, maxLocals]; done) | rfl
theorem own_pd4 : parseMethodDescriptor "(J)V" = some ⟨[.long], none⟩ := by decide +kernel
theorem own_pd5 : parseMethodDescriptor "()[B" = some ⟨[], some (.array .byte)⟩ := by decide +kernel
theorem own_pd6 : parseMethodDescriptor "(J[BII)J" = some ⟨[.long, (.array .byte), .int, .int], some .long⟩ := by decide +kernel
def own_Q0 (n0 : Nat) (v : Option Value) (h : Heap) (L : List Loc) : Prop := v = some (.int 1) ∧ Fr n0 L
set_option maxRecDepth 65536 in
set_option maxHeartbeats 40000000 in
theorem own_law {l : Launch} {p : Program} {e : Env} {below : List Frame} {s : State} {m : MethodId} {meth : Method} {c : Code} {Z : State} {a0 args : Array Value} {T : State} {h0 : Heap} (X : Stand p l e room_1 s m args below meth c T [] 0 0) (C : own_Ctx p s m meth c Z a0 tables_1 x code maxLocals ret) (hh : T.heap = h0) (x0 : Int64) (x1 : Int32) (n0 : Nat) (Z0 : n0 ≤ h0.size) :
    own_Fin p e below s (own_Q0 n0) room_1.cells room_1.slots (T.setTop (mkF m 0 #[.val (.long x0), .second, .val (.int x1), .unset, .unset, .unset, .unset, .unset, .unset, .unset, .unset] [])) := by
  obtain ⟨hx, hby, hml, hZ, hown, hnm, hret, hlk, hw⟩ := id C
  show own_Fin p e below s (own_Q0 n0) room_1.cells room_1.slots (T.setTop (mkF m 0 #[.val (.long x0), .second, .val (.int x1), .unset, .unset, .unset, .unset, .unset, .unset, .unset, .unset] []))
  have N0 := Fr.nil n0
  have KK0 : Keep h0 h0 [] := Keep.refl _ _
  refine own_go (fun tgt => XS.lloadN X.here hx rfl (hb hby at_0) rfl) ?_
  show own_Fin p e below s (own_Q0 n0) room_1.cells room_1.slots (T.setTop (mkF m 1 #[.val (.long x0), .second, .val (.int x1), .unset, .unset, .unset, .unset, .unset, .unset, .unset, .unset] [(.long x0)]))
  refine own_go (fun tgt => X.ldc2Long hx hown (mvT hZ (hw _ (List.mem_of_getElem? (i := 0) rfl))) (g := (mkF m 1 #[.val (.long x0), .second, .val (.int x1), .unset, .unset, .unset, .unset, .unset, .unset, .unset, .unset] [(.long x0)])) rfl (hb hby at_1) tgt) ?_
  show own_Fin p e below s (own_Q0 n0) room_1.cells room_1.slots (T.setTop (mkF m 4 #[.val (.long x0), .second, .val (.int x1), .unset, .unset, .unset, .unset, .unset, .unset, .unset, .unset] [(.long (9223372036854775807 : Int64)), (.long x0)]))
  refine own_go (fun tgt => XS.land X.here hx rfl (hb hby at_4) rfl) ?_
  show own_Fin p e below s (own_Q0 n0) room_1.cells room_1.slots (T.setTop (mkF m 5 #[.val (.long x0), .second, .val (.int x1), .unset, .unset, .unset, .unset, .unset, .unset, .unset, .unset] [(.long (x0 &&& (9223372036854775807 : Int64)))]))
  refine own_go (fun tgt => XS.iloadN X.here hx rfl (hb hby at_5) rfl) ?_
  show own_Fin p e below s (own_Q0 n0) room_1.cells room_1.slots (T.setTop (mkF m 6 #[.val (.long x0), .second, .val (.int x1), .unset, .unset, .unset, .unset, .unset, .unset, .unset, .unset] [(.int x1), (.long (x0 &&& (9223372036854775807 : Int64)))]))
  refine own_go (fun tgt => XS.bipush X.here hx rfl (hb hby at_6)) ?_
  show own_Fin p e below s (own_Q0 n0) room_1.cells room_1.slots (T.setTop (mkF m 8 #[.val (.long x0), .second, .val (.int x1), .unset, .unset, .unset, .unset, .unset, .unset, .unset, .unset] [(.int (63 : Int32)), (.int x1), (.long (x0 &&& (9223372036854775807 : Int64)))]))
  refine own_go (fun tgt => XS.iand X.here hx rfl (hb hby at_8) rfl) ?_
  show own_Fin p e below s (own_Q0 n0) room_1.cells room_1.slots (T.setTop (mkF m 9 #[.val (.long x0), .second, .val (.int x1), .unset, .unset, .unset, .unset, .unset, .unset, .unset, .unset] [(.int (x1 &&& (63 : Int32))), (.long (x0 &&& (9223372036854775807 : Int64)))]))
  refine own_go (fun tgt => XS.lushr X.here hx rfl (hb hby at_9) rfl) ?_
  show own_Fin p e below s (own_Q0 n0) room_1.cells room_1.slots (T.setTop (mkF m 10 #[.val (.long x0), .second, .val (.int x1), .unset, .unset, .unset, .unset, .unset, .unset, .unset, .unset] [(.long (((x0 &&& (9223372036854775807 : Int64)).toUInt64 >>> ((x1 &&& (63 : Int32)) &&& 0x3f).toInt64.toUInt64).toInt64))]))
  have hN := own_nn x0 x1
  generalize (((x0 &&& (9223372036854775807 : Int64)).toUInt64 >>> ((x1 &&& (63 : Int32)) &&& 0x3f).toInt64.toUInt64).toInt64) = N at hN ⊢
  show own_Fin p e below s (own_Q0 n0) room_1.cells room_1.slots (T.setTop (mkF m 10 #[.val (.long x0), .second, .val (.int x1), .unset, .unset, .unset, .unset, .unset, .unset, .unset, .unset] [(.long N)]))
  obtain ⟨ln, hln, hl, hrf, hsz⟩ := own_lens N hN
  refine own_go (fun tgt => XS.lstoreN X.here hx rfl (hb hby at_10) rfl (l' := #[.val (.long x0), .second, .val (.int x1), .val (.long N), .second, .unset, .unset, .unset, .unset, .unset, .unset]) rfl) ?_
  show own_Fin p e below s (own_Q0 n0) room_1.cells room_1.slots (T.setTop (mkF m 11 #[.val (.long x0), .second, .val (.int x1), .val (.long N), .second, .unset, .unset, .unset, .unset, .unset, .unset] []))
  obtain ⟨T1, h1, X1, e1, E1, A1, D1, -, st1⟩ := newO X hx hZ hown (hw _ (List.mem_of_getElem? (i := 1) rfl)) (hw _ (List.mem_of_getElem? (i := 2) rfl)) (hw _ (List.mem_of_getElem? (i := 3) rfl)) hh (g := (mkF m 11 #[.val (.long x0), .second, .val (.int x1), .val (.long N), .second, .unset, .unset, .unset, .unset, .unset, .unset] [])) rfl (hb hby at_11) (by decide) (by decide)
  obtain ⟨b1, g1⟩ : ∃ z, z = Array.size h0 := ⟨_, rfl⟩
  rw [← g1] at A1 D1 st1
  have F1_number : Fld Z h1 b1 "com/example/keystripe/keystripe/model/Prefix" "number" "J" (.long (0 : Int64)) := D1 (Or.inr (hw _ (List.mem_of_getElem? (i := 16) rfl))) (ty := .long) (by decide)
  have sz_b1 : Array.size h0 ≤ b1 := by rw [g1]; exact KK0.1
  have G_b1 : n0 ≤ b1 := Nat.le_trans Z0 sz_b1
  have KK1 := KK0.ext E1
  refine own_go (fun tgt => st1 tgt) ?_
  show own_Fin p e below s (own_Q0 n0) room_1.cells room_1.slots (T1.setTop (mkF m 14 #[.val (.long x0), .second, .val (.int x1), .val (.long N), .second, .unset, .unset, .unset, .unset, .unset, .unset] [(.ref b1)]))
  refine own_go (fun tgt => XS.dup X1.here hx rfl (hb hby at_14) rfl rfl) ?_
  show own_Fin p e below s (own_Q0 n0) room_1.cells room_1.slots (T1.setTop (mkF m 15 #[.val (.long x0), .second, .val (.int x1), .val (.long N), .second, .unset, .unset, .unset, .unset, .unset, .unset] [(.ref b1), (.ref b1)]))
  refine own_go (fun tgt => XS.lloadN X1.here hx rfl (hb hby at_15) rfl) ?_
  show own_Fin p e below s (own_Q0 n0) room_1.cells room_1.slots (T1.setTop (mkF m 16 #[.val (.long x0), .second, .val (.int x1), .val (.long N), .second, .unset, .unset, .unset, .unset, .unset, .unset] [(.long N), (.ref b1), (.ref b1)]))
  obtain ⟨_, T2, L2, X2, ⟨rfl, Nq2, K2, hE2, hF2⟩, st2⟩ := own_callI X1 hx hZ e1 (y := (⟨"com/example/keystripe/keystripe/model/Prefix", "<init>", "(J)V"⟩ : MethodName)) rfl hown (hw _ (List.mem_of_getElem? (i := 4) rfl)) (hw _ (List.mem_of_getElem? (i := 5) rfl)) (hw _ (List.mem_of_getElem? (i := 3) rfl)) (hw _ (List.mem_of_getElem? (i := 6) rfl)) (by decide) (a := b1) (argsL := [(.long N)]) (rest := [(.ref b1)]) (own_ini l Z a0 hw b1 N h1 n0 (Nat.le_trans Z0 KK1.1) G_b1 A1 F1_number (fun q => by have := Int64.lt_iff_toInt_lt.mp q; have o : (0 : Int64).toInt = 0 := (by decide); omega)) (by decide) 1 (by decide) (by decide) (by decide) (g := (mkF m 16 #[.val (.long x0), .second, .val (.int x1), .val (.long N), .second, .unset, .unset, .unset, .unset, .unset, .unset] [(.long N), (.ref b1), (.ref b1)])) rfl (by rw [hml]; rfl) (lenOf own_pd4 rfl) rfl (by show 2 * 0 + _ ≤ _; exact Nat.le_of_eq rfl) (hb hby at_16)
  have N2 := Fr.app N0 Nq2
  have E_b1_2 := A1.keep K2
  have KK2 := KK1.trans K2 (allS (Or.inr sz_b1) all0)
  refine own_go st2 ?_
  show own_Fin p e below s (own_Q0 n0) room_1.cells room_1.slots (T2.setTop (mkF m 19 #[.val (.long x0), .second, .val (.int x1), .val (.long N), .second, .unset, .unset, .unset, .unset, .unset, .unset] [(.ref b1)]))
  refine own_go (fun tgt => XS.astore X2.here hx rfl (hb hby at_19) rfl rfl (l' := #[.val (.long x0), .second, .val (.int x1), .val (.long N), .second, .val (.ref b1), .unset, .unset, .unset, .unset, .unset]) rfl) ?_
  show own_Fin p e below s (own_Q0 n0) room_1.cells room_1.slots (T2.setTop (mkF m 21 #[.val (.long x0), .second, .val (.int x1), .val (.long N), .second, .val (.ref b1), .unset, .unset, .unset, .unset, .unset] []))
  refine own_go (fun tgt => XS.aload X2.here hx rfl (hb hby at_21) rfl rfl) ?_
  show own_Fin p e below s (own_Q0 n0) room_1.cells room_1.slots (T2.setTop (mkF m 23 #[.val (.long x0), .second, .val (.int x1), .val (.long N), .second, .val (.ref b1), .unset, .unset, .unset, .unset, .unset] [(.ref b1)]))
  obtain ⟨bb, gbb⟩ : ∃ z, z = Array.size T2.heap := ⟨_, rfl⟩
  have sz_bb : Array.size h0 ≤ bb := by rw [gbb]; exact KK2.1
  have G_bb : n0 ≤ bb := Nat.le_trans Z0 sz_bb
  have ne_b1_bb : b1 ≠ bb := by rw [gbb]; exact Nat.ne_of_lt hE2.lt
  obtain ⟨_, T3, L3, X3, ⟨rfl, Nq3, K3, A3⟩, st3⟩ := own_callV X2 hx hZ rfl (y := (⟨"com/example/keystripe/keystripe/model/Prefix", "bytes", "()[B"⟩ : MethodName)) hown (hw _ (List.mem_of_getElem? (i := 17) rfl)) (hw _ (List.mem_of_getElem? (i := 18) rfl)) (hw _ (List.mem_of_getElem? (i := 20) rfl)) (hw _ (List.mem_of_getElem? (i := 19) rfl)) (hw _ (List.mem_of_getElem? (i := 3) rfl)) (hw _ (List.mem_of_getElem? (i := 21) rfl)) (by decide) (a := b1) hE2 (argsL := []) (rest := []) (own_byt l Z a0 hw b1 N ln T2.heap n0 (Nat.le_trans Z0 KK2.1) hF2 hln hl) (by decide) 0 (by decide) (by decide) (by decide) (g := (mkF m 23 #[.val (.long x0), .second, .val (.int x1), .val (.long N), .second, .val (.ref b1), .unset, .unset, .unset, .unset, .unset] [(.ref b1)])) rfl (by rw [hml]; rfl) (lenOf own_pd5 rfl) rfl (by show 2 * 0 + _ ≤ _; exact Nat.le_of_eq rfl) (hb hby at_23)
  have N3 := Fr.app N2 Nq3
  have E_b1_3 := hE2.keep K3
  have F_b1_number_3 := hF2.keep K3 nin0
  have KK3 := KK2.trans K3 all0
  rw [← gbb] at A3 st3
  refine own_go st3 ?_
  show own_Fin p e below s (own_Q0 n0) room_1.cells room_1.slots (T3.setTop (mkF m 26 #[.val (.long x0), .second, .val (.int x1), .val (.long N), .second, .val (.ref b1), .unset, .unset, .unset, .unset, .unset] [(.ref bb)]))
  refine own_go (fun tgt => XS.astore X3.here hx rfl (hb hby at_26) rfl rfl (l' := #[.val (.long x0), .second, .val (.int x1), .val (.long N), .second, .val (.ref b1), .val (.ref bb), .unset, .unset, .unset, .unset]) rfl) ?_
  show own_Fin p e below s (own_Q0 n0) room_1.cells room_1.slots (T3.setTop (mkF m 28 #[.val (.long x0), .second, .val (.int x1), .val (.long N), .second, .val (.ref b1), .val (.ref bb), .unset, .unset, .unset, .unset] []))
  refine own_go (fun tgt => XS.lloadN X3.here hx rfl (hb hby at_28) rfl) ?_
  show own_Fin p e below s (own_Q0 n0) room_1.cells room_1.slots (T3.setTop (mkF m 29 #[.val (.long x0), .second, .val (.int x1), .val (.long N), .second, .val (.ref b1), .val (.ref bb), .unset, .unset, .unset, .unset] [(.long N)]))
  obtain ⟨T4, X4, e4, st4⟩ := own_callP X3 hx hZ rfl (y := (⟨"com/example/keystripe/keystripe/model/PrefixBytesPinLaw", "refLength", "(J)I"⟩ : MethodName)) hown (hw _ (List.mem_of_getElem? (i := 35) rfl)) (hw _ (List.mem_of_getElem? (i := 36) rfl)) (hw _ (List.mem_of_getElem? (i := 37) rfl)) (hw _ (List.mem_of_getElem? (i := 38) rfl)) (by decide) (argsL := [(.long N)]) (rest := []) (own_c8 l Z a0 hw N _) (by decide) 0 (by decide) (by decide) (by decide) (g := (mkF m 29 #[.val (.long x0), .second, .val (.int x1), .val (.long N), .second, .val (.ref b1), .val (.ref bb), .unset, .unset, .unset, .unset] [(.long N)])) rfl (by rw [hml]; rfl) (lenOf own_pd2 rfl) rfl (by show 2 * 0 + _ ≤ _; exact Nat.le_of_eq rfl) (hb hby at_29)
  refine own_go st4 ?_
  show own_Fin p e below s (own_Q0 n0) room_1.cells room_1.slots (T4.setTop (mkF m 32 #[.val (.long x0), .second, .val (.int x1), .val (.long N), .second, .val (.ref b1), .val (.ref bb), .unset, .unset, .unset, .unset] [(.int (own_f8_0 N))]))
  rw [hrf]
  show own_Fin p e below s (own_Q0 n0) room_1.cells room_1.slots (T4.setTop (mkF m 32 #[.val (.long x0), .second, .val (.int x1), .val (.long N), .second, .val (.ref b1), .val (.ref bb), .unset, .unset, .unset, .unset] [(.int ln)]))
  refine own_go (fun tgt => XS.istore X4.here hx rfl (hb hby at_32) rfl (l' := #[.val (.long x0), .second, .val (.int x1), .val (.long N), .second, .val (.ref b1), .val (.ref bb), .val (.int ln), .unset, .unset, .unset]) rfl) ?_
  show own_Fin p e below s (own_Q0 n0) room_1.cells room_1.slots (T4.setTop (mkF m 34 #[.val (.long x0), .second, .val (.int x1), .val (.long N), .second, .val (.ref b1), .val (.ref bb), .val (.int ln), .unset, .unset, .unset] []))
  refine own_go (fun tgt => XS.aload X4.here hx rfl (hb hby at_34) rfl rfl) ?_
  show own_Fin p e below s (own_Q0 n0) room_1.cells room_1.slots (T4.setTop (mkF m 36 #[.val (.long x0), .second, .val (.int x1), .val (.long N), .second, .val (.ref b1), .val (.ref bb), .val (.int ln), .unset, .unset, .unset] [(.ref bb)]))
  refine own_go (fun t => XS.ifnullNo X4.here hx rfl (hb hby at_36) rfl) ?_
  show own_Fin p e below s (own_Q0 n0) room_1.cells room_1.slots (T4.setTop (mkF m 39 #[.val (.long x0), .second, .val (.int x1), .val (.long N), .second, .val (.ref b1), .val (.ref bb), .val (.int ln), .unset, .unset, .unset] []))
  refine own_go (fun tgt => XS.aload X4.here hx rfl (hb hby at_39) rfl rfl) ?_
  show own_Fin p e below s (own_Q0 n0) room_1.cells room_1.slots (T4.setTop (mkF m 41 #[.val (.long x0), .second, .val (.int x1), .val (.long N), .second, .val (.ref b1), .val (.ref bb), .val (.int ln), .unset, .unset, .unset] [(.ref bb)]))
  refine own_go (own_len X4 hx hZ e4 A3 (g := (mkF m 41 #[.val (.long x0), .second, .val (.int x1), .val (.long N), .second, .val (.ref b1), .val (.ref bb), .val (.int ln), .unset, .unset, .unset] [(.ref bb)])) rfl rfl (hb hby at_41)) ?_
  show own_Fin p e below s (own_Q0 n0) room_1.cells room_1.slots (T4.setTop (mkF m 42 #[.val (.long x0), .second, .val (.int x1), .val (.long N), .second, .val (.ref b1), .val (.ref bb), .val (.int ln), .unset, .unset, .unset] [(.int ((1 : Int32) + ln))]))
  refine own_go (fun tgt => XS.iconst X4.here hx rfl (hb hby at_42)) ?_
  show own_Fin p e below s (own_Q0 n0) room_1.cells room_1.slots (T4.setTop (mkF m 43 #[.val (.long x0), .second, .val (.int x1), .val (.long N), .second, .val (.ref b1), .val (.ref bb), .val (.int ln), .unset, .unset, .unset] [(.int (1 : Int32)), (.int ((1 : Int32) + ln))]))
  refine own_go (fun tgt => XS.iload X4.here hx rfl (hb hby at_43) rfl) ?_
  show own_Fin p e below s (own_Q0 n0) room_1.cells room_1.slots (T4.setTop (mkF m 45 #[.val (.long x0), .second, .val (.int x1), .val (.long N), .second, .val (.ref b1), .val (.ref bb), .val (.int ln), .unset, .unset, .unset] [(.int ln), (.int (1 : Int32)), (.int ((1 : Int32) + ln))]))
  refine own_go (fun tgt => XS.iadd X4.here hx rfl (hb hby at_45) rfl) ?_
  show own_Fin p e below s (own_Q0 n0) room_1.cells room_1.slots (T4.setTop (mkF m 46 #[.val (.long x0), .second, .val (.int x1), .val (.long N), .second, .val (.ref b1), .val (.ref bb), .val (.int ln), .unset, .unset, .unset] [(.int ((1 : Int32) + ln)), (.int ((1 : Int32) + ln))]))
  refine own_go (fun tgt => XS.icmpYes X4.here hx rfl (pc0 := 46) (pc' := 51) rfl (hb hby at_46) rfl (teq rfl).1 (by decide) (by decide)) ?_
  show own_Fin p e below s (own_Q0 n0) room_1.cells room_1.slots (T4.setTop (mkF m 51 #[.val (.long x0), .second, .val (.int x1), .val (.long N), .second, .val (.ref b1), .val (.ref bb), .val (.int ln), .unset, .unset, .unset] []))
  refine own_go (fun tgt => XS.aload X4.here hx rfl (hb hby at_51) rfl rfl) ?_
  show own_Fin p e below s (own_Q0 n0) room_1.cells room_1.slots (T4.setTop (mkF m 53 #[.val (.long x0), .second, .val (.int x1), .val (.long N), .second, .val (.ref b1), .val (.ref bb), .val (.int ln), .unset, .unset, .unset] [(.ref bb)]))
  refine own_go (fun tgt => XS.iconst X4.here hx rfl (hb hby at_53)) ?_
  show own_Fin p e below s (own_Q0 n0) room_1.cells room_1.slots (T4.setTop (mkF m 54 #[.val (.long x0), .second, .val (.int x1), .val (.long N), .second, .val (.ref b1), .val (.ref bb), .val (.int ln), .unset, .unset, .unset] [(.int (0 : Int32)), (.ref bb)]))
  refine own_go (own_ldB X4 hx hZ e4 A3 (j := (0 : Int32)) (by decide) (own_Tlt (own_l1 ln hl)) (g := (mkF m 54 #[.val (.long x0), .second, .val (.int x1), .val (.long N), .second, .val (.ref b1), .val (.ref bb), .val (.int ln), .unset, .unset, .unset] [(.int (0 : Int32)), (.ref bb)])) rfl rfl (hb hby at_54)) ?_
  show own_Fin p e below s (own_Q0 n0) room_1.cells room_1.slots (T4.setTop (mkF m 55 #[.val (.long x0), .second, .val (.int x1), .val (.long N), .second, .val (.ref b1), .val (.ref bb), .val (.int ln), .unset, .unset, .unset] [(.int ((own_el N ln) (0 : Int32)))]))
  refine own_go (fun tgt => XS.iload X4.here hx rfl (hb hby at_55) rfl) ?_
  show own_Fin p e below s (own_Q0 n0) room_1.cells room_1.slots (T4.setTop (mkF m 57 #[.val (.long x0), .second, .val (.int x1), .val (.long N), .second, .val (.ref b1), .val (.ref bb), .val (.int ln), .unset, .unset, .unset] [(.int ln), (.int ((own_el N ln) (0 : Int32)))]))
  refine own_go (fun tgt => XS.i2b X4.here hx rfl (hb hby at_57) rfl) ?_
  show own_Fin p e below s (own_Q0 n0) room_1.cells room_1.slots (T4.setTop (mkF m 58 #[.val (.long x0), .second, .val (.int x1), .val (.long N), .second, .val (.ref b1), .val (.ref bb), .val (.int ln), .unset, .unset, .unset] [(.int (ln.toInt8.toInt32)), (.int ((own_el N ln) (0 : Int32)))]))
  refine own_go (fun tgt => XS.icmpYes X4.here hx rfl (pc0 := 58) (pc' := 63) rfl (hb hby at_58) rfl (teq rfl).1 (by decide) (by decide)) ?_
  show own_Fin p e below s (own_Q0 n0) room_1.cells room_1.slots (T4.setTop (mkF m 63 #[.val (.long x0), .second, .val (.int x1), .val (.long N), .second, .val (.ref b1), .val (.ref bb), .val (.int ln), .unset, .unset, .unset] []))
  refine own_go (fun tgt => XS.lconst X4.here hx rfl (hb hby at_63)) ?_
  show own_Fin p e below s (own_Q0 n0) room_1.cells room_1.slots (T4.setTop (mkF m 64 #[.val (.long x0), .second, .val (.int x1), .val (.long N), .second, .val (.ref b1), .val (.ref bb), .val (.int ln), .unset, .unset, .unset] [(.long (0 : Int64))]))
  refine own_go (fun tgt => XS.lstore X4.here hx rfl (hb hby at_64) rfl (l' := #[.val (.long x0), .second, .val (.int x1), .val (.long N), .second, .val (.ref b1), .val (.ref bb), .val (.int ln), .val (.long (0 : Int64)), .second, .unset]) rfl) ?_
  show own_Fin p e below s (own_Q0 n0) room_1.cells room_1.slots (T4.setTop (mkF m 66 #[.val (.long x0), .second, .val (.int x1), .val (.long N), .second, .val (.ref b1), .val (.ref bb), .val (.int ln), .val (.long (0 : Int64)), .second, .unset] []))
  refine own_go (fun tgt => XS.lload X4.here hx rfl (hb hby at_66) rfl) ?_
  show own_Fin p e below s (own_Q0 n0) room_1.cells room_1.slots (T4.setTop (mkF m 68 #[.val (.long x0), .second, .val (.int x1), .val (.long N), .second, .val (.ref b1), .val (.ref bb), .val (.int ln), .val (.long (0 : Int64)), .second, .unset] [(.long (0 : Int64))]))
  refine own_go (fun tgt => XS.aload X4.here hx rfl (hb hby at_68) rfl rfl) ?_
  show own_Fin p e below s (own_Q0 n0) room_1.cells room_1.slots (T4.setTop (mkF m 70 #[.val (.long x0), .second, .val (.int x1), .val (.long N), .second, .val (.ref b1), .val (.ref bb), .val (.int ln), .val (.long (0 : Int64)), .second, .unset] [(.ref bb), (.long (0 : Int64))]))
  refine own_go (fun tgt => XS.iconst X4.here hx rfl (hb hby at_70)) ?_
  show own_Fin p e below s (own_Q0 n0) room_1.cells room_1.slots (T4.setTop (mkF m 71 #[.val (.long x0), .second, .val (.int x1), .val (.long N), .second, .val (.ref b1), .val (.ref bb), .val (.int ln), .val (.long (0 : Int64)), .second, .unset] [(.int (1 : Int32)), (.ref bb), (.long (0 : Int64))]))
  refine own_go (fun tgt => XS.iload X4.here hx rfl (hb hby at_71) rfl) ?_
  show own_Fin p e below s (own_Q0 n0) room_1.cells room_1.slots (T4.setTop (mkF m 73 #[.val (.long x0), .second, .val (.int x1), .val (.long N), .second, .val (.ref b1), .val (.ref bb), .val (.int ln), .val (.long (0 : Int64)), .second, .unset] [(.int ln), (.int (1 : Int32)), (.ref bb), (.long (0 : Int64))]))
  have q0 := own_acc0 N ln hN hl hsz
  obtain ⟨T5, X5, e5, st5⟩ := own_callP X4 hx hZ e4 (y := (⟨"com/example/keystripe/keystripe/model/PrefixBytesPinLaw", "step", "(J[BII)J"⟩ : MethodName)) hown (hw _ (List.mem_of_getElem? (i := 40) rfl)) (hw _ (List.mem_of_getElem? (i := 41) rfl)) (hw _ (List.mem_of_getElem? (i := 37) rfl)) (hw _ (List.mem_of_getElem? (i := 42) rfl)) (by decide) (argsL := [(.long (0 : Int64)), (.ref bb), (.int (1 : Int32)), (.int ln)]) (rest := []) (own_st l Z a0 hw (0 : Int64) bb (1 : Int32) ln ((1 : Int32) + ln) (own_el N ln) _ 0 (Nat.zero_le _) A3 (own_l1e ln hl) (by decide)) (by decide) 0 (by decide) (by decide) (by decide) (g := (mkF m 73 #[.val (.long x0), .second, .val (.int x1), .val (.long N), .second, .val (.ref b1), .val (.ref bb), .val (.int ln), .val (.long (0 : Int64)), .second, .unset] [(.int ln), (.int (1 : Int32)), (.ref bb), (.long (0 : Int64))])) rfl (by rw [hml]; rfl) (lenOf own_pd6 rfl) rfl (by show 2 * 0 + _ ≤ _; exact Nat.le_of_eq rfl) (hb hby at_73)
  refine own_go st5 ?_
  show own_Fin p e below s (own_Q0 n0) room_1.cells room_1.slots (T5.setTop (mkF m 76 #[.val (.long x0), .second, .val (.int x1), .val (.long N), .second, .val (.ref b1), .val (.ref bb), .val (.int ln), .val (.long (0 : Int64)), .second, .unset] [(.long (own_stp (0 : Int64) (own_el N ln) (1 : Int32) ln))]))
  have q1 := own_accS N ln (0 : Int64) 1 (1 : Int32) (by decide) hN hl (by decide) q0
  generalize (own_stp (0 : Int64) (own_el N ln) (1 : Int32) ln) = c1 at q1 ⊢
  show own_Fin p e below s (own_Q0 n0) room_1.cells room_1.slots (T5.setTop (mkF m 76 #[.val (.long x0), .second, .val (.int x1), .val (.long N), .second, .val (.ref b1), .val (.ref bb), .val (.int ln), .val (.long (0 : Int64)), .second, .unset] [(.long c1)]))
  refine own_go (fun tgt => XS.lstore X5.here hx rfl (hb hby at_76) rfl (l' := #[.val (.long x0), .second, .val (.int x1), .val (.long N), .second, .val (.ref b1), .val (.ref bb), .val (.int ln), .val (.long c1), .second, .unset]) rfl) ?_
  show own_Fin p e below s (own_Q0 n0) room_1.cells room_1.slots (T5.setTop (mkF m 78 #[.val (.long x0), .second, .val (.int x1), .val (.long N), .second, .val (.ref b1), .val (.ref bb), .val (.int ln), .val (.long c1), .second, .unset] []))
  refine own_go (fun tgt => XS.lload X5.here hx rfl (hb hby at_78) rfl) ?_
  show own_Fin p e below s (own_Q0 n0) room_1.cells room_1.slots (T5.setTop (mkF m 80 #[.val (.long x0), .second, .val (.int x1), .val (.long N), .second, .val (.ref b1), .val (.ref bb), .val (.int ln), .val (.long c1), .second, .unset] [(.long c1)]))
  refine own_go (fun tgt => XS.aload X5.here hx rfl (hb hby at_80) rfl rfl) ?_
  show own_Fin p e below s (own_Q0 n0) room_1.cells room_1.slots (T5.setTop (mkF m 82 #[.val (.long x0), .second, .val (.int x1), .val (.long N), .second, .val (.ref b1), .val (.ref bb), .val (.int ln), .val (.long c1), .second, .unset] [(.ref bb), (.long c1)]))
  refine own_go (fun tgt => XS.iconst X5.here hx rfl (hb hby at_82)) ?_
  show own_Fin p e below s (own_Q0 n0) room_1.cells room_1.slots (T5.setTop (mkF m 83 #[.val (.long x0), .second, .val (.int x1), .val (.long N), .second, .val (.ref b1), .val (.ref bb), .val (.int ln), .val (.long c1), .second, .unset] [(.int (2 : Int32)), (.ref bb), (.long c1)]))
  refine own_go (fun tgt => XS.iload X5.here hx rfl (hb hby at_83) rfl) ?_
  show own_Fin p e below s (own_Q0 n0) room_1.cells room_1.slots (T5.setTop (mkF m 85 #[.val (.long x0), .second, .val (.int x1), .val (.long N), .second, .val (.ref b1), .val (.ref bb), .val (.int ln), .val (.long c1), .second, .unset] [(.int ln), (.int (2 : Int32)), (.ref bb), (.long c1)]))
  obtain ⟨T6, X6, e6, st6⟩ := own_callP X5 hx hZ e5 (y := (⟨"com/example/keystripe/keystripe/model/PrefixBytesPinLaw", "step", "(J[BII)J"⟩ : MethodName)) hown (hw _ (List.mem_of_getElem? (i := 40) rfl)) (hw _ (List.mem_of_getElem? (i := 41) rfl)) (hw _ (List.mem_of_getElem? (i := 37) rfl)) (hw _ (List.mem_of_getElem? (i := 42) rfl)) (by decide) (argsL := [(.long c1), (.ref bb), (.int (2 : Int32)), (.int ln)]) (rest := []) (own_st l Z a0 hw c1 bb (2 : Int32) ln ((1 : Int32) + ln) (own_el N ln) _ 0 (Nat.zero_le _) A3 (own_l1e ln hl) (by decide)) (by decide) 0 (by decide) (by decide) (by decide) (g := (mkF m 85 #[.val (.long x0), .second, .val (.int x1), .val (.long N), .second, .val (.ref b1), .val (.ref bb), .val (.int ln), .val (.long c1), .second, .unset] [(.int ln), (.int (2 : Int32)), (.ref bb), (.long c1)])) rfl (by rw [hml]; rfl) (lenOf own_pd6 rfl) rfl (by show 2 * 0 + _ ≤ _; exact Nat.le_of_eq rfl) (hb hby at_85)
  refine own_go st6 ?_
  show own_Fin p e below s (own_Q0 n0) room_1.cells room_1.slots (T6.setTop (mkF m 88 #[.val (.long x0), .second, .val (.int x1), .val (.long N), .second, .val (.ref b1), .val (.ref bb), .val (.int ln), .val (.long c1), .second, .unset] [(.long (own_stp c1 (own_el N ln) (2 : Int32) ln))]))
  have q2 := own_accS N ln c1 2 (2 : Int32) (by decide) hN hl (by decide) q1
  generalize (own_stp c1 (own_el N ln) (2 : Int32) ln) = c2 at q2 ⊢
  show own_Fin p e below s (own_Q0 n0) room_1.cells room_1.slots (T6.setTop (mkF m 88 #[.val (.long x0), .second, .val (.int x1), .val (.long N), .second, .val (.ref b1), .val (.ref bb), .val (.int ln), .val (.long c1), .second, .unset] [(.long c2)]))
  refine own_go (fun tgt => XS.lstore X6.here hx rfl (hb hby at_88) rfl (l' := #[.val (.long x0), .second, .val (.int x1), .val (.long N), .second, .val (.ref b1), .val (.ref bb), .val (.int ln), .val (.long c2), .second, .unset]) rfl) ?_
  show own_Fin p e below s (own_Q0 n0) room_1.cells room_1.slots (T6.setTop (mkF m 90 #[.val (.long x0), .second, .val (.int x1), .val (.long N), .second, .val (.ref b1), .val (.ref bb), .val (.int ln), .val (.long c2), .second, .unset] []))
  refine own_go (fun tgt => XS.lload X6.here hx rfl (hb hby at_90) rfl) ?_
  show own_Fin p e below s (own_Q0 n0) room_1.cells room_1.slots (T6.setTop (mkF m 92 #[.val (.long x0), .second, .val (.int x1), .val (.long N), .second, .val (.ref b1), .val (.ref bb), .val (.int ln), .val (.long c2), .second, .unset] [(.long c2)]))
  refine own_go (fun tgt => XS.aload X6.here hx rfl (hb hby at_92) rfl rfl) ?_
  show own_Fin p e below s (own_Q0 n0) room_1.cells room_1.slots (T6.setTop (mkF m 94 #[.val (.long x0), .second, .val (.int x1), .val (.long N), .second, .val (.ref b1), .val (.ref bb), .val (.int ln), .val (.long c2), .second, .unset] [(.ref bb), (.long c2)]))
  refine own_go (fun tgt => XS.iconst X6.here hx rfl (hb hby at_94)) ?_
  show own_Fin p e below s (own_Q0 n0) room_1.cells room_1.slots (T6.setTop (mkF m 95 #[.val (.long x0), .second, .val (.int x1), .val (.long N), .second, .val (.ref b1), .val (.ref bb), .val (.int ln), .val (.long c2), .second, .unset] [(.int (3 : Int32)), (.ref bb), (.long c2)]))
  refine own_go (fun tgt => XS.iload X6.here hx rfl (hb hby at_95) rfl) ?_
  show own_Fin p e below s (own_Q0 n0) room_1.cells room_1.slots (T6.setTop (mkF m 97 #[.val (.long x0), .second, .val (.int x1), .val (.long N), .second, .val (.ref b1), .val (.ref bb), .val (.int ln), .val (.long c2), .second, .unset] [(.int ln), (.int (3 : Int32)), (.ref bb), (.long c2)]))
  obtain ⟨T7, X7, e7, st7⟩ := own_callP X6 hx hZ e6 (y := (⟨"com/example/keystripe/keystripe/model/PrefixBytesPinLaw", "step", "(J[BII)J"⟩ : MethodName)) hown (hw _ (List.mem_of_getElem? (i := 40) rfl)) (hw _ (List.mem_of_getElem? (i := 41) rfl)) (hw _ (List.mem_of_getElem? (i := 37) rfl)) (hw _ (List.mem_of_getElem? (i := 42) rfl)) (by decide) (argsL := [(.long c2), (.ref bb), (.int (3 : Int32)), (.int ln)]) (rest := []) (own_st l Z a0 hw c2 bb (3 : Int32) ln ((1 : Int32) + ln) (own_el N ln) _ 0 (Nat.zero_le _) A3 (own_l1e ln hl) (by decide)) (by decide) 0 (by decide) (by decide) (by decide) (g := (mkF m 97 #[.val (.long x0), .second, .val (.int x1), .val (.long N), .second, .val (.ref b1), .val (.ref bb), .val (.int ln), .val (.long c2), .second, .unset] [(.int ln), (.int (3 : Int32)), (.ref bb), (.long c2)])) rfl (by rw [hml]; rfl) (lenOf own_pd6 rfl) rfl (by show 2 * 0 + _ ≤ _; exact Nat.le_of_eq rfl) (hb hby at_97)
  refine own_go st7 ?_
  show own_Fin p e below s (own_Q0 n0) room_1.cells room_1.slots (T7.setTop (mkF m 100 #[.val (.long x0), .second, .val (.int x1), .val (.long N), .second, .val (.ref b1), .val (.ref bb), .val (.int ln), .val (.long c2), .second, .unset] [(.long (own_stp c2 (own_el N ln) (3 : Int32) ln))]))
  have q3 := own_accS N ln c2 3 (3 : Int32) (by decide) hN hl (by decide) q2
  generalize (own_stp c2 (own_el N ln) (3 : Int32) ln) = c3 at q3 ⊢
  show own_Fin p e below s (own_Q0 n0) room_1.cells room_1.slots (T7.setTop (mkF m 100 #[.val (.long x0), .second, .val (.int x1), .val (.long N), .second, .val (.ref b1), .val (.ref bb), .val (.int ln), .val (.long c2), .second, .unset] [(.long c3)]))
  refine own_go (fun tgt => XS.lstore X7.here hx rfl (hb hby at_100) rfl (l' := #[.val (.long x0), .second, .val (.int x1), .val (.long N), .second, .val (.ref b1), .val (.ref bb), .val (.int ln), .val (.long c3), .second, .unset]) rfl) ?_
  show own_Fin p e below s (own_Q0 n0) room_1.cells room_1.slots (T7.setTop (mkF m 102 #[.val (.long x0), .second, .val (.int x1), .val (.long N), .second, .val (.ref b1), .val (.ref bb), .val (.int ln), .val (.long c3), .second, .unset] []))
  refine own_go (fun tgt => XS.lload X7.here hx rfl (hb hby at_102) rfl) ?_
  show own_Fin p e below s (own_Q0 n0) room_1.cells room_1.slots (T7.setTop (mkF m 104 #[.val (.long x0), .second, .val (.int x1), .val (.long N), .second, .val (.ref b1), .val (.ref bb), .val (.int ln), .val (.long c3), .second, .unset] [(.long c3)]))
  refine own_go (fun tgt => XS.aload X7.here hx rfl (hb hby at_104) rfl rfl) ?_
  show own_Fin p e below s (own_Q0 n0) room_1.cells room_1.slots (T7.setTop (mkF m 106 #[.val (.long x0), .second, .val (.int x1), .val (.long N), .second, .val (.ref b1), .val (.ref bb), .val (.int ln), .val (.long c3), .second, .unset] [(.ref bb), (.long c3)]))
  refine own_go (fun tgt => XS.iconst X7.here hx rfl (hb hby at_106)) ?_
  show own_Fin p e below s (own_Q0 n0) room_1.cells room_1.slots (T7.setTop (mkF m 107 #[.val (.long x0), .second, .val (.int x1), .val (.long N), .second, .val (.ref b1), .val (.ref bb), .val (.int ln), .val (.long c3), .second, .unset] [(.int (4 : Int32)), (.ref bb), (.long c3)]))
  refine own_go (fun tgt => XS.iload X7.here hx rfl (hb hby at_107) rfl) ?_
  show own_Fin p e below s (own_Q0 n0) room_1.cells room_1.slots (T7.setTop (mkF m 109 #[.val (.long x0), .second, .val (.int x1), .val (.long N), .second, .val (.ref b1), .val (.ref bb), .val (.int ln), .val (.long c3), .second, .unset] [(.int ln), (.int (4 : Int32)), (.ref bb), (.long c3)]))
  obtain ⟨T8, X8, e8, st8⟩ := own_callP X7 hx hZ e7 (y := (⟨"com/example/keystripe/keystripe/model/PrefixBytesPinLaw", "step", "(J[BII)J"⟩ : MethodName)) hown (hw _ (List.mem_of_getElem? (i := 40) rfl)) (hw _ (List.mem_of_getElem? (i := 41) rfl)) (hw _ (List.mem_of_getElem? (i := 37) rfl)) (hw _ (List.mem_of_getElem? (i := 42) rfl)) (by decide) (argsL := [(.long c3), (.ref bb), (.int (4 : Int32)), (.int ln)]) (rest := []) (own_st l Z a0 hw c3 bb (4 : Int32) ln ((1 : Int32) + ln) (own_el N ln) _ 0 (Nat.zero_le _) A3 (own_l1e ln hl) (by decide)) (by decide) 0 (by decide) (by decide) (by decide) (g := (mkF m 109 #[.val (.long x0), .second, .val (.int x1), .val (.long N), .second, .val (.ref b1), .val (.ref bb), .val (.int ln), .val (.long c3), .second, .unset] [(.int ln), (.int (4 : Int32)), (.ref bb), (.long c3)])) rfl (by rw [hml]; rfl) (lenOf own_pd6 rfl) rfl (by show 2 * 0 + _ ≤ _; exact Nat.le_of_eq rfl) (hb hby at_109)
  refine own_go st8 ?_
  show own_Fin p e below s (own_Q0 n0) room_1.cells room_1.slots (T8.setTop (mkF m 112 #[.val (.long x0), .second, .val (.int x1), .val (.long N), .second, .val (.ref b1), .val (.ref bb), .val (.int ln), .val (.long c3), .second, .unset] [(.long (own_stp c3 (own_el N ln) (4 : Int32) ln))]))
  have q4 := own_accS N ln c3 4 (4 : Int32) (by decide) hN hl (by decide) q3
  generalize (own_stp c3 (own_el N ln) (4 : Int32) ln) = c4 at q4 ⊢
  show own_Fin p e below s (own_Q0 n0) room_1.cells room_1.slots (T8.setTop (mkF m 112 #[.val (.long x0), .second, .val (.int x1), .val (.long N), .second, .val (.ref b1), .val (.ref bb), .val (.int ln), .val (.long c3), .second, .unset] [(.long c4)]))
  refine own_go (fun tgt => XS.lstore X8.here hx rfl (hb hby at_112) rfl (l' := #[.val (.long x0), .second, .val (.int x1), .val (.long N), .second, .val (.ref b1), .val (.ref bb), .val (.int ln), .val (.long c4), .second, .unset]) rfl) ?_
  show own_Fin p e below s (own_Q0 n0) room_1.cells room_1.slots (T8.setTop (mkF m 114 #[.val (.long x0), .second, .val (.int x1), .val (.long N), .second, .val (.ref b1), .val (.ref bb), .val (.int ln), .val (.long c4), .second, .unset] []))
  refine own_go (fun tgt => XS.lload X8.here hx rfl (hb hby at_114) rfl) ?_
  show own_Fin p e below s (own_Q0 n0) room_1.cells room_1.slots (T8.setTop (mkF m 116 #[.val (.long x0), .second, .val (.int x1), .val (.long N), .second, .val (.ref b1), .val (.ref bb), .val (.int ln), .val (.long c4), .second, .unset] [(.long c4)]))
  refine own_go (fun tgt => XS.aload X8.here hx rfl (hb hby at_116) rfl rfl) ?_
  show own_Fin p e below s (own_Q0 n0) room_1.cells room_1.slots (T8.setTop (mkF m 118 #[.val (.long x0), .second, .val (.int x1), .val (.long N), .second, .val (.ref b1), .val (.ref bb), .val (.int ln), .val (.long c4), .second, .unset] [(.ref bb), (.long c4)]))
  refine own_go (fun tgt => XS.iconst X8.here hx rfl (hb hby at_118)) ?_
  show own_Fin p e below s (own_Q0 n0) room_1.cells room_1.slots (T8.setTop (mkF m 119 #[.val (.long x0), .second, .val (.int x1), .val (.long N), .second, .val (.ref b1), .val (.ref bb), .val (.int ln), .val (.long c4), .second, .unset] [(.int (5 : Int32)), (.ref bb), (.long c4)]))
  refine own_go (fun tgt => XS.iload X8.here hx rfl (hb hby at_119) rfl) ?_
  show own_Fin p e below s (own_Q0 n0) room_1.cells room_1.slots (T8.setTop (mkF m 121 #[.val (.long x0), .second, .val (.int x1), .val (.long N), .second, .val (.ref b1), .val (.ref bb), .val (.int ln), .val (.long c4), .second, .unset] [(.int ln), (.int (5 : Int32)), (.ref bb), (.long c4)]))
  obtain ⟨T9, X9, e9, st9⟩ := own_callP X8 hx hZ e8 (y := (⟨"com/example/keystripe/keystripe/model/PrefixBytesPinLaw", "step", "(J[BII)J"⟩ : MethodName)) hown (hw _ (List.mem_of_getElem? (i := 40) rfl)) (hw _ (List.mem_of_getElem? (i := 41) rfl)) (hw _ (List.mem_of_getElem? (i := 37) rfl)) (hw _ (List.mem_of_getElem? (i := 42) rfl)) (by decide) (argsL := [(.long c4), (.ref bb), (.int (5 : Int32)), (.int ln)]) (rest := []) (own_st l Z a0 hw c4 bb (5 : Int32) ln ((1 : Int32) + ln) (own_el N ln) _ 0 (Nat.zero_le _) A3 (own_l1e ln hl) (by decide)) (by decide) 0 (by decide) (by decide) (by decide) (g := (mkF m 121 #[.val (.long x0), .second, .val (.int x1), .val (.long N), .second, .val (.ref b1), .val (.ref bb), .val (.int ln), .val (.long c4), .second, .unset] [(.int ln), (.int (5 : Int32)), (.ref bb), (.long c4)])) rfl (by rw [hml]; rfl) (lenOf own_pd6 rfl) rfl (by show 2 * 0 + _ ≤ _; exact Nat.le_of_eq rfl) (hb hby at_121)
  refine own_go st9 ?_
  show own_Fin p e below s (own_Q0 n0) room_1.cells room_1.slots (T9.setTop (mkF m 124 #[.val (.long x0), .second, .val (.int x1), .val (.long N), .second, .val (.ref b1), .val (.ref bb), .val (.int ln), .val (.long c4), .second, .unset] [(.long (own_stp c4 (own_el N ln) (5 : Int32) ln))]))
  have q5 := own_accS N ln c4 5 (5 : Int32) (by decide) hN hl (by decide) q4
  generalize (own_stp c4 (own_el N ln) (5 : Int32) ln) = c5 at q5 ⊢
  show own_Fin p e below s (own_Q0 n0) room_1.cells room_1.slots (T9.setTop (mkF m 124 #[.val (.long x0), .second, .val (.int x1), .val (.long N), .second, .val (.ref b1), .val (.ref bb), .val (.int ln), .val (.long c4), .second, .unset] [(.long c5)]))
  refine own_go (fun tgt => XS.lstore X9.here hx rfl (hb hby at_124) rfl (l' := #[.val (.long x0), .second, .val (.int x1), .val (.long N), .second, .val (.ref b1), .val (.ref bb), .val (.int ln), .val (.long c5), .second, .unset]) rfl) ?_
  show own_Fin p e below s (own_Q0 n0) room_1.cells room_1.slots (T9.setTop (mkF m 126 #[.val (.long x0), .second, .val (.int x1), .val (.long N), .second, .val (.ref b1), .val (.ref bb), .val (.int ln), .val (.long c5), .second, .unset] []))
  refine own_go (fun tgt => XS.lload X9.here hx rfl (hb hby at_126) rfl) ?_
  show own_Fin p e below s (own_Q0 n0) room_1.cells room_1.slots (T9.setTop (mkF m 128 #[.val (.long x0), .second, .val (.int x1), .val (.long N), .second, .val (.ref b1), .val (.ref bb), .val (.int ln), .val (.long c5), .second, .unset] [(.long c5)]))
  refine own_go (fun tgt => XS.aload X9.here hx rfl (hb hby at_128) rfl rfl) ?_
  show own_Fin p e below s (own_Q0 n0) room_1.cells room_1.slots (T9.setTop (mkF m 130 #[.val (.long x0), .second, .val (.int x1), .val (.long N), .second, .val (.ref b1), .val (.ref bb), .val (.int ln), .val (.long c5), .second, .unset] [(.ref bb), (.long c5)]))
  refine own_go (fun tgt => XS.bipush X9.here hx rfl (hb hby at_130)) ?_
  show own_Fin p e below s (own_Q0 n0) room_1.cells room_1.slots (T9.setTop (mkF m 132 #[.val (.long x0), .second, .val (.int x1), .val (.long N), .second, .val (.ref b1), .val (.ref bb), .val (.int ln), .val (.long c5), .second, .unset] [(.int (6 : Int32)), (.ref bb), (.long c5)]))
  refine own_go (fun tgt => XS.iload X9.here hx rfl (hb hby at_132) rfl) ?_
  show own_Fin p e below s (own_Q0 n0) room_1.cells room_1.slots (T9.setTop (mkF m 134 #[.val (.long x0), .second, .val (.int x1), .val (.long N), .second, .val (.ref b1), .val (.ref bb), .val (.int ln), .val (.long c5), .second, .unset] [(.int ln), (.int (6 : Int32)), (.ref bb), (.long c5)]))
  obtain ⟨T10, X10, e10, st10⟩ := own_callP X9 hx hZ e9 (y := (⟨"com/example/keystripe/keystripe/model/PrefixBytesPinLaw", "step", "(J[BII)J"⟩ : MethodName)) hown (hw _ (List.mem_of_getElem? (i := 40) rfl)) (hw _ (List.mem_of_getElem? (i := 41) rfl)) (hw _ (List.mem_of_getElem? (i := 37) rfl)) (hw _ (List.mem_of_getElem? (i := 42) rfl)) (by decide) (argsL := [(.long c5), (.ref bb), (.int (6 : Int32)), (.int ln)]) (rest := []) (own_st l Z a0 hw c5 bb (6 : Int32) ln ((1 : Int32) + ln) (own_el N ln) _ 0 (Nat.zero_le _) A3 (own_l1e ln hl) (by decide)) (by decide) 0 (by decide) (by decide) (by decide) (g := (mkF m 134 #[.val (.long x0), .second, .val (.int x1), .val (.long N), .second, .val (.ref b1), .val (.ref bb), .val (.int ln), .val (.long c5), .second, .unset] [(.int ln), (.int (6 : Int32)), (.ref bb), (.long c5)])) rfl (by rw [hml]; rfl) (lenOf own_pd6 rfl) rfl (by show 2 * 0 + _ ≤ _; exact Nat.le_of_eq rfl) (hb hby at_134)
  refine own_go st10 ?_
  show own_Fin p e below s (own_Q0 n0) room_1.cells room_1.slots (T10.setTop (mkF m 137 #[.val (.long x0), .second, .val (.int x1), .val (.long N), .second, .val (.ref b1), .val (.ref bb), .val (.int ln), .val (.long c5), .second, .unset] [(.long (own_stp c5 (own_el N ln) (6 : Int32) ln))]))
  have q6 := own_accS N ln c5 6 (6 : Int32) (by decide) hN hl (by decide) q5
  generalize (own_stp c5 (own_el N ln) (6 : Int32) ln) = c6 at q6 ⊢
  show own_Fin p e below s (own_Q0 n0) room_1.cells room_1.slots (T10.setTop (mkF m 137 #[.val (.long x0), .second, .val (.int x1), .val (.long N), .second, .val (.ref b1), .val (.ref bb), .val (.int ln), .val (.long c5), .second, .unset] [(.long c6)]))
  refine own_go (fun tgt => XS.lstore X10.here hx rfl (hb hby at_137) rfl (l' := #[.val (.long x0), .second, .val (.int x1), .val (.long N), .second, .val (.ref b1), .val (.ref bb), .val (.int ln), .val (.long c6), .second, .unset]) rfl) ?_
  show own_Fin p e below s (own_Q0 n0) room_1.cells room_1.slots (T10.setTop (mkF m 139 #[.val (.long x0), .second, .val (.int x1), .val (.long N), .second, .val (.ref b1), .val (.ref bb), .val (.int ln), .val (.long c6), .second, .unset] []))
  refine own_go (fun tgt => XS.lload X10.here hx rfl (hb hby at_139) rfl) ?_
  show own_Fin p e below s (own_Q0 n0) room_1.cells room_1.slots (T10.setTop (mkF m 141 #[.val (.long x0), .second, .val (.int x1), .val (.long N), .second, .val (.ref b1), .val (.ref bb), .val (.int ln), .val (.long c6), .second, .unset] [(.long c6)]))
  refine own_go (fun tgt => XS.aload X10.here hx rfl (hb hby at_141) rfl rfl) ?_
  show own_Fin p e below s (own_Q0 n0) room_1.cells room_1.slots (T10.setTop (mkF m 143 #[.val (.long x0), .second, .val (.int x1), .val (.long N), .second, .val (.ref b1), .val (.ref bb), .val (.int ln), .val (.long c6), .second, .unset] [(.ref bb), (.long c6)]))
  refine own_go (fun tgt => XS.bipush X10.here hx rfl (hb hby at_143)) ?_
  show own_Fin p e below s (own_Q0 n0) room_1.cells room_1.slots (T10.setTop (mkF m 145 #[.val (.long x0), .second, .val (.int x1), .val (.long N), .second, .val (.ref b1), .val (.ref bb), .val (.int ln), .val (.long c6), .second, .unset] [(.int (7 : Int32)), (.ref bb), (.long c6)]))
  refine own_go (fun tgt => XS.iload X10.here hx rfl (hb hby at_145) rfl) ?_
  show own_Fin p e below s (own_Q0 n0) room_1.cells room_1.slots (T10.setTop (mkF m 147 #[.val (.long x0), .second, .val (.int x1), .val (.long N), .second, .val (.ref b1), .val (.ref bb), .val (.int ln), .val (.long c6), .second, .unset] [(.int ln), (.int (7 : Int32)), (.ref bb), (.long c6)]))
  obtain ⟨T11, X11, e11, st11⟩ := own_callP X10 hx hZ e10 (y := (⟨"com/example/keystripe/keystripe/model/PrefixBytesPinLaw", "step", "(J[BII)J"⟩ : MethodName)) hown (hw _ (List.mem_of_getElem? (i := 40) rfl)) (hw _ (List.mem_of_getElem? (i := 41) rfl)) (hw _ (List.mem_of_getElem? (i := 37) rfl)) (hw _ (List.mem_of_getElem? (i := 42) rfl)) (by decide) (argsL := [(.long c6), (.ref bb), (.int (7 : Int32)), (.int ln)]) (rest := []) (own_st l Z a0 hw c6 bb (7 : Int32) ln ((1 : Int32) + ln) (own_el N ln) _ 0 (Nat.zero_le _) A3 (own_l1e ln hl) (by decide)) (by decide) 0 (by decide) (by decide) (by decide) (g := (mkF m 147 #[.val (.long x0), .second, .val (.int x1), .val (.long N), .second, .val (.ref b1), .val (.ref bb), .val (.int ln), .val (.long c6), .second, .unset] [(.int ln), (.int (7 : Int32)), (.ref bb), (.long c6)])) rfl (by rw [hml]; rfl) (lenOf own_pd6 rfl) rfl (by show 2 * 0 + _ ≤ _; exact Nat.le_of_eq rfl) (hb hby at_147)
  refine own_go st11 ?_
  show own_Fin p e below s (own_Q0 n0) room_1.cells room_1.slots (T11.setTop (mkF m 150 #[.val (.long x0), .second, .val (.int x1), .val (.long N), .second, .val (.ref b1), .val (.ref bb), .val (.int ln), .val (.long c6), .second, .unset] [(.long (own_stp c6 (own_el N ln) (7 : Int32) ln))]))
  have q7 := own_accS N ln c6 7 (7 : Int32) (by decide) hN hl (by decide) q6
  generalize (own_stp c6 (own_el N ln) (7 : Int32) ln) = c7 at q7 ⊢
  show own_Fin p e below s (own_Q0 n0) room_1.cells room_1.slots (T11.setTop (mkF m 150 #[.val (.long x0), .second, .val (.int x1), .val (.long N), .second, .val (.ref b1), .val (.ref bb), .val (.int ln), .val (.long c6), .second, .unset] [(.long c7)]))
  refine own_go (fun tgt => XS.lstore X11.here hx rfl (hb hby at_150) rfl (l' := #[.val (.long x0), .second, .val (.int x1), .val (.long N), .second, .val (.ref b1), .val (.ref bb), .val (.int ln), .val (.long c7), .second, .unset]) rfl) ?_
  show own_Fin p e below s (own_Q0 n0) room_1.cells room_1.slots (T11.setTop (mkF m 152 #[.val (.long x0), .second, .val (.int x1), .val (.long N), .second, .val (.ref b1), .val (.ref bb), .val (.int ln), .val (.long c7), .second, .unset] []))
  refine own_go (fun tgt => XS.lload X11.here hx rfl (hb hby at_152) rfl) ?_
  show own_Fin p e below s (own_Q0 n0) room_1.cells room_1.slots (T11.setTop (mkF m 154 #[.val (.long x0), .second, .val (.int x1), .val (.long N), .second, .val (.ref b1), .val (.ref bb), .val (.int ln), .val (.long c7), .second, .unset] [(.long c7)]))
  refine own_go (fun tgt => XS.aload X11.here hx rfl (hb hby at_154) rfl rfl) ?_
  show own_Fin p e below s (own_Q0 n0) room_1.cells room_1.slots (T11.setTop (mkF m 156 #[.val (.long x0), .second, .val (.int x1), .val (.long N), .second, .val (.ref b1), .val (.ref bb), .val (.int ln), .val (.long c7), .second, .unset] [(.ref bb), (.long c7)]))
  refine own_go (fun tgt => XS.bipush X11.here hx rfl (hb hby at_156)) ?_
  show own_Fin p e below s (own_Q0 n0) room_1.cells room_1.slots (T11.setTop (mkF m 158 #[.val (.long x0), .second, .val (.int x1), .val (.long N), .second, .val (.ref b1), .val (.ref bb), .val (.int ln), .val (.long c7), .second, .unset] [(.int (8 : Int32)), (.ref bb), (.long c7)]))
  refine own_go (fun tgt => XS.iload X11.here hx rfl (hb hby at_158) rfl) ?_
  show own_Fin p e below s (own_Q0 n0) room_1.cells room_1.slots (T11.setTop (mkF m 160 #[.val (.long x0), .second, .val (.int x1), .val (.long N), .second, .val (.ref b1), .val (.ref bb), .val (.int ln), .val (.long c7), .second, .unset] [(.int ln), (.int (8 : Int32)), (.ref bb), (.long c7)]))
  obtain ⟨T12, X12, e12, st12⟩ := own_callP X11 hx hZ e11 (y := (⟨"com/example/keystripe/keystripe/model/PrefixBytesPinLaw", "step", "(J[BII)J"⟩ : MethodName)) hown (hw _ (List.mem_of_getElem? (i := 40) rfl)) (hw _ (List.mem_of_getElem? (i := 41) rfl)) (hw _ (List.mem_of_getElem? (i := 37) rfl)) (hw _ (List.mem_of_getElem? (i := 42) rfl)) (by decide) (argsL := [(.long c7), (.ref bb), (.int (8 : Int32)), (.int ln)]) (rest := []) (own_st l Z a0 hw c7 bb (8 : Int32) ln ((1 : Int32) + ln) (own_el N ln) _ 0 (Nat.zero_le _) A3 (own_l1e ln hl) (by decide)) (by decide) 0 (by decide) (by decide) (by decide) (g := (mkF m 160 #[.val (.long x0), .second, .val (.int x1), .val (.long N), .second, .val (.ref b1), .val (.ref bb), .val (.int ln), .val (.long c7), .second, .unset] [(.int ln), (.int (8 : Int32)), (.ref bb), (.long c7)])) rfl (by rw [hml]; rfl) (lenOf own_pd6 rfl) rfl (by show 2 * 0 + _ ≤ _; exact Nat.le_of_eq rfl) (hb hby at_160)
  refine own_go st12 ?_
  show own_Fin p e below s (own_Q0 n0) room_1.cells room_1.slots (T12.setTop (mkF m 163 #[.val (.long x0), .second, .val (.int x1), .val (.long N), .second, .val (.ref b1), .val (.ref bb), .val (.int ln), .val (.long c7), .second, .unset] [(.long (own_stp c7 (own_el N ln) (8 : Int32) ln))]))
  have q8 := own_accS N ln c7 8 (8 : Int32) (by decide) hN hl (by decide) q7
  generalize (own_stp c7 (own_el N ln) (8 : Int32) ln) = c8 at q8 ⊢
  show own_Fin p e below s (own_Q0 n0) room_1.cells room_1.slots (T12.setTop (mkF m 163 #[.val (.long x0), .second, .val (.int x1), .val (.long N), .second, .val (.ref b1), .val (.ref bb), .val (.int ln), .val (.long c7), .second, .unset] [(.long c8)]))
  refine own_go (fun tgt => XS.lstore X12.here hx rfl (hb hby at_163) rfl (l' := #[.val (.long x0), .second, .val (.int x1), .val (.long N), .second, .val (.ref b1), .val (.ref bb), .val (.int ln), .val (.long c8), .second, .unset]) rfl) ?_
  show own_Fin p e below s (own_Q0 n0) room_1.cells room_1.slots (T12.setTop (mkF m 165 #[.val (.long x0), .second, .val (.int x1), .val (.long N), .second, .val (.ref b1), .val (.ref bb), .val (.int ln), .val (.long c8), .second, .unset] []))
  refine own_go (fun tgt => XS.lload X12.here hx rfl (hb hby at_165) rfl) ?_
  show own_Fin p e below s (own_Q0 n0) room_1.cells room_1.slots (T12.setTop (mkF m 167 #[.val (.long x0), .second, .val (.int x1), .val (.long N), .second, .val (.ref b1), .val (.ref bb), .val (.int ln), .val (.long c8), .second, .unset] [(.long c8)]))
  refine own_go (fun tgt => XS.lloadN X12.here hx rfl (hb hby at_167) rfl) ?_
  show own_Fin p e below s (own_Q0 n0) room_1.cells room_1.slots (T12.setTop (mkF m 168 #[.val (.long x0), .second, .val (.int x1), .val (.long N), .second, .val (.ref b1), .val (.ref bb), .val (.int ln), .val (.long c8), .second, .unset] [(.long N), (.long c8)]))
  refine own_go (fun tgt => XS.lcmp X12.here hx rfl (hb hby at_168) rfl) ?_
  show own_Fin p e below s (own_Q0 n0) room_1.cells room_1.slots (T12.setTop (mkF m 169 #[.val (.long x0), .second, .val (.int x1), .val (.long N), .second, .val (.ref b1), .val (.ref bb), .val (.int ln), .val (.long c8), .second, .unset] [(.int (lcmpW c8 N))]))
  refine own_go (fun tgt => XS.ifYes X12.here hx rfl (pc0 := 169) (pc' := 174) rfl (hb hby at_169) rfl ((if0 _ _).trans (teq ((lw_eq c8 N).mpr (own_acc8 N ln c8 hl q8))).1) (by decide) (by decide)) ?_
  show own_Fin p e below s (own_Q0 n0) room_1.cells room_1.slots (T12.setTop (mkF m 174 #[.val (.long x0), .second, .val (.int x1), .val (.long N), .second, .val (.ref b1), .val (.ref bb), .val (.int ln), .val (.long c8), .second, .unset] []))
  refine own_go (fun tgt => XS.aload X12.here hx rfl (hb hby at_174) rfl rfl) ?_
  show own_Fin p e below s (own_Q0 n0) room_1.cells room_1.slots (T12.setTop (mkF m 176 #[.val (.long x0), .second, .val (.int x1), .val (.long N), .second, .val (.ref b1), .val (.ref bb), .val (.int ln), .val (.long c8), .second, .unset] [(.ref b1)]))
  obtain ⟨bc, gbc⟩ : ∃ z, z = Array.size T3.heap := ⟨_, rfl⟩
  have sz_bc : Array.size h0 ≤ bc := by rw [gbc]; exact KK3.1
  have G_bc : n0 ≤ bc := Nat.le_trans Z0 sz_bc
  have ne_b1_bc : b1 ≠ bc := by rw [gbc]; exact Nat.ne_of_lt E_b1_3.lt
  have ne_bb_bc : bb ≠ bc := by rw [gbc]; exact Nat.ne_of_lt A3.lt
  obtain ⟨_, T13, L13, X13, ⟨rfl, Nq13, K13, A13⟩, st13⟩ := own_callV X12 hx hZ e12 (y := (⟨"com/example/keystripe/keystripe/model/Prefix", "bytes", "()[B"⟩ : MethodName)) hown (hw _ (List.mem_of_getElem? (i := 17) rfl)) (hw _ (List.mem_of_getElem? (i := 18) rfl)) (hw _ (List.mem_of_getElem? (i := 20) rfl)) (hw _ (List.mem_of_getElem? (i := 19) rfl)) (hw _ (List.mem_of_getElem? (i := 3) rfl)) (hw _ (List.mem_of_getElem? (i := 21) rfl)) (by decide) (a := b1) E_b1_3 (argsL := []) (rest := []) (own_byt l Z a0 hw b1 N ln T3.heap n0 (Nat.le_trans Z0 KK3.1) F_b1_number_3 hln hl) (by decide) 0 (by decide) (by decide) (by decide) (g := (mkF m 176 #[.val (.long x0), .second, .val (.int x1), .val (.long N), .second, .val (.ref b1), .val (.ref bb), .val (.int ln), .val (.long c8), .second, .unset] [(.ref b1)])) rfl (by rw [hml]; rfl) (lenOf own_pd5 rfl) rfl (by show 2 * 0 + _ ≤ _; exact Nat.le_of_eq rfl) (hb hby at_176)
  have N13 := Fr.app N3 Nq13
  have E_b1_13 := E_b1_3.keep K13
  have F_b1_number_13 := F_b1_number_3.keep K13 nin0
  have A_bb_13 := A3.keep K13 nin0
  have KK13 := KK3.trans K13 all0
  rw [← gbc] at A13 st13
  refine own_go st13 ?_
  show own_Fin p e below s (own_Q0 n0) room_1.cells room_1.slots (T13.setTop (mkF m 179 #[.val (.long x0), .second, .val (.int x1), .val (.long N), .second, .val (.ref b1), .val (.ref bb), .val (.int ln), .val (.long c8), .second, .unset] [(.ref bc)]))
  refine own_go (fun tgt => XS.astore X13.here hx rfl (hb hby at_179) rfl rfl (l' := #[.val (.long x0), .second, .val (.int x1), .val (.long N), .second, .val (.ref b1), .val (.ref bb), .val (.int ln), .val (.long c8), .second, .val (.ref bc)]) rfl) ?_
  show own_Fin p e below s (own_Q0 n0) room_1.cells room_1.slots (T13.setTop (mkF m 181 #[.val (.long x0), .second, .val (.int x1), .val (.long N), .second, .val (.ref b1), .val (.ref bb), .val (.int ln), .val (.long c8), .second, .val (.ref bc)] []))
  refine own_go (fun tgt => XS.aload X13.here hx rfl (hb hby at_181) rfl rfl) ?_
  show own_Fin p e below s (own_Q0 n0) room_1.cells room_1.slots (T13.setTop (mkF m 183 #[.val (.long x0), .second, .val (.int x1), .val (.long N), .second, .val (.ref b1), .val (.ref bb), .val (.int ln), .val (.long c8), .second, .val (.ref bc)] [(.ref bc)]))
  refine own_go (fun tgt => XS.aload X13.here hx rfl (hb hby at_183) rfl rfl) ?_
  show own_Fin p e below s (own_Q0 n0) room_1.cells room_1.slots (T13.setTop (mkF m 185 #[.val (.long x0), .second, .val (.int x1), .val (.long N), .second, .val (.ref b1), .val (.ref bb), .val (.int ln), .val (.long c8), .second, .val (.ref bc)] [(.ref bb), (.ref bc)]))
  refine own_go (fun t => XS.acmpNo X13.here hx rfl (hb hby at_185) rfl (by simp [if_acmp.holds]; exact Ne.symm ne_bb_bc)) ?_
  show own_Fin p e below s (own_Q0 n0) room_1.cells room_1.slots (T13.setTop (mkF m 188 #[.val (.long x0), .second, .val (.int x1), .val (.long N), .second, .val (.ref b1), .val (.ref bb), .val (.int ln), .val (.long c8), .second, .val (.ref bc)] []))
  refine own_go (fun tgt => XS.aload X13.here hx rfl (hb hby at_188) rfl rfl) ?_
  show own_Fin p e below s (own_Q0 n0) room_1.cells room_1.slots (T13.setTop (mkF m 190 #[.val (.long x0), .second, .val (.int x1), .val (.long N), .second, .val (.ref b1), .val (.ref bb), .val (.int ln), .val (.long c8), .second, .val (.ref bc)] [(.ref bc)]))
  refine own_go (own_len X13 hx hZ rfl A13 (g := (mkF m 190 #[.val (.long x0), .second, .val (.int x1), .val (.long N), .second, .val (.ref b1), .val (.ref bb), .val (.int ln), .val (.long c8), .second, .val (.ref bc)] [(.ref bc)])) rfl rfl (hb hby at_190)) ?_
  show own_Fin p e below s (own_Q0 n0) room_1.cells room_1.slots (T13.setTop (mkF m 191 #[.val (.long x0), .second, .val (.int x1), .val (.long N), .second, .val (.ref b1), .val (.ref bb), .val (.int ln), .val (.long c8), .second, .val (.ref bc)] [(.int ((1 : Int32) + ln))]))
  refine own_go (fun tgt => XS.aload X13.here hx rfl (hb hby at_191) rfl rfl) ?_
  show own_Fin p e below s (own_Q0 n0) room_1.cells room_1.slots (T13.setTop (mkF m 193 #[.val (.long x0), .second, .val (.int x1), .val (.long N), .second, .val (.ref b1), .val (.ref bb), .val (.int ln), .val (.long c8), .second, .val (.ref bc)] [(.ref bb), (.int ((1 : Int32) + ln))]))
  refine own_go (own_len X13 hx hZ rfl A_bb_13 (g := (mkF m 193 #[.val (.long x0), .second, .val (.int x1), .val (.long N), .second, .val (.ref b1), .val (.ref bb), .val (.int ln), .val (.long c8), .second, .val (.ref bc)] [(.ref bb), (.int ((1 : Int32) + ln))])) rfl rfl (hb hby at_193)) ?_
  show own_Fin p e below s (own_Q0 n0) room_1.cells room_1.slots (T13.setTop (mkF m 194 #[.val (.long x0), .second, .val (.int x1), .val (.long N), .second, .val (.ref b1), .val (.ref bb), .val (.int ln), .val (.long c8), .second, .val (.ref bc)] [(.int ((1 : Int32) + ln)), (.int ((1 : Int32) + ln))]))
  refine own_go (fun tgt => XS.icmpNo X13.here hx rfl (hb hby at_194) rfl (teq rfl).2) ?_
  show own_Fin p e below s (own_Q0 n0) room_1.cells room_1.slots (T13.setTop (mkF m 197 #[.val (.long x0), .second, .val (.int x1), .val (.long N), .second, .val (.ref b1), .val (.ref bb), .val (.int ln), .val (.long c8), .second, .val (.ref bc)] []))
  refine own_go (fun tgt => XS.iconst X13.here hx rfl (hb hby at_197)) ?_
  show own_Fin p e below s (own_Q0 n0) room_1.cells room_1.slots (T13.setTop (mkF m 198 #[.val (.long x0), .second, .val (.int x1), .val (.long N), .second, .val (.ref b1), .val (.ref bb), .val (.int ln), .val (.long c8), .second, .val (.ref bc)] [(.int (1 : Int32))]))
  refine own_go (fun tgt => XS.goto X13.here hx rfl (pc0 := 198) (pc' := 202) rfl (hb hby at_198) (by decide) (by decide)) ?_
  show own_Fin p e below s (own_Q0 n0) room_1.cells room_1.slots (T13.setTop (mkF m 202 #[.val (.long x0), .second, .val (.int x1), .val (.long N), .second, .val (.ref b1), .val (.ref bb), .val (.int ln), .val (.long c8), .second, .val (.ref bc)] [(.int (1 : Int32))]))
  exact own_ret X13 hlk hx (t := .boolean) hret rfl (Or.inl ⟨rfl, by simp, _, rfl⟩) (hb hby at_202) ⟨rfl, N13⟩ (by decide) (by decide)
theorem own_rm0 (l : Launch) (Z : State) (a0 : Array Value) (hw : ∀ d ∈ tables_1, d.before a0 Z = true) (ws : List Jvm.Cond) (x0 : Int64) (x1 : Int32) (h0 : Heap) (n0 : Nat) (Z0 : n0 ≤ h0.size) : own_Met l Z x code maxLocals ret ws room_1 #[(.long x0), (.int x1)] h0 (own_Q0 n0) :=
  own_enter (plainFor_of_name own_pn3) (own_ef0 x0 x1) hw (fun p e s m below meth c T X C hh => own_law X C hh x0 x1 n0 Z0)
set_option maxRecDepth 65536 in
set_option maxHeartbeats 40000000 in
theorem own_comes {Post : Tables → Env → Array Value → State → Outcome → State → Prop} (hpost : ∀ tb e args s v u, (limb_1_1.after args s (.returned v) u = true ∧ limb_1_2.after args s (.returned v) u = true ∧ True) → FrameEnd s (.returned v) u (Jvm.fieldLocs frame_1_writes args s ++ Jvm.arrayLocs frame_1_arrays args s ++ Jvm.staticLocs frame_1_statics s) 16 128 → Post tb e args s (.returned v) u) :
    ArmFor flags0 classFile x code maxLocals ret World_1 tables_1 room_1 Calls_1 rest_1 Pre_1 Post := by
  intro l hfl _ _ p e ha hc hk s m args below hf hA hF happ hP
  obtain ⟨hcalls, hrest, hpre⟩ := hP
  obtain ⟨-, -, -, hnamed, -, -, -, hat⟩ := (Spec.applies_iff hf).mp happ
  obtain ⟨hg, hn⟩ := and_e (Cond.before_iff.mp (show (Jvm.Cond.and given_1 narrow_1).before args s = true from hpre))
  obtain ⟨g0, r0⟩ := and_e hg
  obtain ⟨g1, r1⟩ := and_e r0
  obtain ⟨w0, w1, rfl⟩ : ∃ w0 w1 : Value, args = #[w0, w1] := by
    have hs : args.size = 2 := by simpa [Cond.value, given_1] using g0
    obtain ⟨L⟩ := args
    match L, hs with
    | [w0, w1], _ => exact ⟨w0, w1, rfl⟩
  have hw := fun d (hd : d ∈ tables_1) => atoms_spec (ws := Jvm.Cond.code x code maxLocals ret :: tables_1) hat d (List.mem_cons_of_mem _ hd)
  obtain ⟨i0, ei0⟩ := isL_v g1
  obtain rfl : w0 = (.long i0) := Option.some.inj ei0
  obtain ⟨i1, ei1⟩ := is_v r1
  obtain rfl : w1 = (.int i1) := Option.some.inj ei1
  obtain ⟨n, o, h1, h2, h3, _, L, rfl, ⟨rfl, N⟩, hq⟩ := own_rm0 l s _ hw tables_1 i0 i1 s.heap s.heap.size (Nat.le_refl _) p e ha hc hk s m _ below hf ((Spec.applies_iff_loose hf).mp happ).1 ⟨rfl, State.Warmed39.refl s, rfl⟩ trivial
  refine ⟨n, _, h1, h2, h3, hpost _ _ _ _ _ _ ⟨Cond.after_iff.mpr rfl, Cond.after_iff.mpr (eq_i res_at (Term.int_eval (1)) rfl), trivial⟩ ⟨hq.1, hq.2.1, (hq.2.2.sift fun y hy => Or.inr (N y hy)).mono (by decide) (by decide)⟩⟩
theorem main_1_1 : Claimed_1_1 := own_comes fun _ _ _ _ _ _ h hF => ⟨h.1, hF⟩
theorem main_1_2 : Claimed_1_2 := own_comes fun _ _ _ _ _ _ h hF => ⟨h.2.1, hF⟩
end Jvm.Pilot.@@N@@
namespace Jvm.Pilot.@@N@@
open Jvm Jvm.ClassFile Sem Op Lib Jvm.Free Jvm.Stand Jvm.Pilot.@@N@@.Jvm.D
/-! MADE BY PROGRAM (witnessworld.py) out of the Statement's table words and the real class files: 17 classes; the members and pool entries that the words name. The judged class is class 1, her method 1. -/
namespace start1
open Jvm.ClassFile
def u (s : String) : CpInfo := .utf8 (stringToUtf16 s)
/-- a pool by its gaps: so many unusable entries, then the entry; so many at the end -/
def gap : Nat → List CpInfo → List CpInfo
  | 0, r => r
  | n + 1, r => .unusable :: gap n r
def poolList (es : List (Nat × CpInfo)) (last : Nat) : List CpInfo := es.foldr (fun e r => gap e.1 (e.2 :: r)) (gap last [])
def pool (es : List (Nat × CpInfo)) (last : Nat) : Array CpInfo := ⟨poolList es last⟩
def fileOf (pool : Array CpInfo) (this : Nat) (attrs : Array Attribute := #[]) (ms : Array MethodInfo := #[]) (fl : Nat := 33) (sup : Nat := 0) (ifs : Array Nat := #[]) (fds : Array FieldInfo := #[]) : ClassFile where
  minorVersion := 0
  majorVersion := 65
  constantPool := pool
  accessFlags := fl
  thisClass := this
  superClass := sup
  interfaces := ifs
  fields := fds
  methods := ms
  attributes := attrs
def plain (name : String) (sup : Option ClassId) : Class where
  name := name
  kind := .ordinary
  loader := none
  accessFlags := 33
  super := sup
  interfaces := #[]
  cf := none
  fields := #[]
  methods := #[]
  instanceTypes := #[]
  staticTypes := #[]
  resolved := #[]
  callSites := []
  init := .initialized
  statics := none
  mirror := none

def pool0 : Array CpInfo := pool [(5, u "<init>"), (0, u "()V"), (1, .class_ 10), (1, u "java/lang/Object")] 113

def k0c0 : Code := { maxStack := 0, maxLocals := 1, code := object_method_1_code, exceptionTable := #[], attributes := #[] }
def k0m0 : Method := { name := "<init>", desc := "()V", sig := { parameters := [], returnType := none }, accessFlags := 1, code := some k0c0 }
/-- java/lang/Object -/
def k0 : Class := { plain "java/lang/Object" none with
  accessFlags := 33
  interfaces := #[]
  cf := some (fileOf pool0 8 #[] #[{ accessFlags := 1, nameIndex := 5, descriptorIndex := 6, attributes := #[] }] 33 0 #[] #[])
  fields := #[]
  methods := #[k0m0]
  instanceTypes := #[]
  staticTypes := #[]
  resolved := Array.replicate 124 none
  statics := none }

def pool1 : Array CpInfo := pool [(2, .class_ 4), (1, u "java/lang/Object"), (0, u "<init>"), (0, u "()V"), (2, .long 9223372036854775807), (1, .class_ 12), (0, u "com/example/keystripe/keystripe/model/Prefix"), (0, .methodref 11 14), (0, .nameAndType 5 15), (0, u "(J)V"), (0, .methodref 11 17), (0, .nameAndType 18 19), (0, u "bytes"), (0, u "()[B"), (0, .methodref 21 22), (0, .class_ 23), (0, .nameAndType 24 25), (0, u "com/example/keystripe/keystripe/model/PrefixBytesPinLaw"), (0, u "refLength"), (0, u "(J)I"), (0, .methodref 21 27), (0, .nameAndType 28 29), (0, u "step"), (0, u "(J[BII)J"), (0, .long 255), (1, .long 256), (1, .long 65536), (1, .long 16777216), (1, .long 4294967296), (1, .long 1099511627776), (1, .long 281474976710656), (1, .long 72057594037927936), (3, u "law"), (0, u "(JI)Z")] 5

def k1m0 : Method := { name := "<init>", desc := "()V", sig := { parameters := [], returnType := none }, accessFlags := 1, code := none }
def k1c1 : Code := { maxStack := 5, maxLocals := 11, code := code, exceptionTable := #[], attributes := #[] }
def k1m1 : Method := { name := "law", desc := "(JI)Z", sig := { parameters := [.long, .int], returnType := some .boolean }, accessFlags := 9, code := some k1c1 }
def k1c2 : Code := { maxStack := 6, maxLocals := 5, code := method_3_code, exceptionTable := #[], attributes := #[] }
def k1m2 : Method := { name := "step", desc := "(J[BII)J", sig := { parameters := [.long, (.array .byte), .int, .int], returnType := some .long }, accessFlags := 10, code := some k1c2 }
def k1c3 : Code := { maxStack := 4, maxLocals := 2, code := method_4_code, exceptionTable := #[], attributes := #[] }
def k1m3 : Method := { name := "refLength", desc := "(J)I", sig := { parameters := [.long], returnType := some .int }, accessFlags := 10, code := some k1c3 }
/-- com/example/keystripe/keystripe/model/PrefixBytesPinLaw -/
def k1 : Class := { plain "com/example/keystripe/keystripe/model/PrefixBytesPinLaw" (some 0) with
  accessFlags := 49
  interfaces := #[]
  cf := some (fileOf pool1 21 #[] #[{ accessFlags := 1, nameIndex := 5, descriptorIndex := 6, attributes := #[] }, { accessFlags := 9, nameIndex := 48, descriptorIndex := 49, attributes := #[] }, { accessFlags := 10, nameIndex := 28, descriptorIndex := 29, attributes := #[] }, { accessFlags := 10, nameIndex := 24, descriptorIndex := 25, attributes := #[] }] 49 2 #[] #[])
  fields := #[]
  methods := #[k1m0, k1m1, k1m2, k1m3]
  instanceTypes := #[]
  staticTypes := #[]
  resolved := Array.replicate 55 none
  statics := none }

def pool2 : Array CpInfo := pool [(1, .methodref 2 3), (0, .class_ 4), (0, .nameAndType 5 6), (0, u "java/lang/Object"), (0, u "<init>"), (0, u "()V"), (0, .class_ 8), (0, u "java/lang/Record")] 13

def k2c0 : Code := { maxStack := 1, maxLocals := 1, code := jdk_30_method_1_code, exceptionTable := #[], attributes := #[] }
def k2m0 : Method := { name := "<init>", desc := "()V", sig := { parameters := [], returnType := none }, accessFlags := 4, code := some k2c0 }
/-- java/lang/Record -/
def k2 : Class := { plain "java/lang/Record" (some 0) with
  accessFlags := 1057
  interfaces := #[]
  cf := some (fileOf pool2 7 #[] #[{ accessFlags := 4, nameIndex := 5, descriptorIndex := 6, attributes := #[] }] 1057 2 #[] #[])
  fields := #[]
  methods := #[k2m0]
  instanceTypes := #[]
  staticTypes := #[]
  resolved := Array.replicate 22 none
  statics := none }

def pool3 : Array CpInfo := pool [(1, .methodref 2 3), (0, .class_ 4), (0, .nameAndType 5 6), (0, u "java/lang/Record"), (0, u "<init>"), (0, u "()V"), (9, .fieldref 17 18), (0, .class_ 19), (0, .nameAndType 20 21), (0, u "com/example/keystripe/keystripe/model/Prefix"), (0, u "number"), (0, u "J"), (0, .class_ 23), (0, u "java/lang/Long"), (0, .methodref 22 25), (0, .nameAndType 26 27), (0, u "numberOfLeadingZeros"), (0, u "(J)I"), (2, .methodref 31 32), (0, .class_ 33), (0, .nameAndType 34 35), (0, u "java/lang/Math"), (0, u "max"), (0, u "(II)I"), (8, u "bytes"), (0, u "()[B"), (16, u "(J)V")] 38

def k3c0 : Code := { maxStack := 4, maxLocals := 3, code := prog_19_method_1_code, exceptionTable := #[], attributes := #[] }
def k3m0 : Method := { name := "<init>", desc := "(J)V", sig := { parameters := [.long], returnType := none }, accessFlags := 1, code := some k3c0 }
def k3c1 : Code := { maxStack := 6, maxLocals := 4, code := prog_19_method_2_code, exceptionTable := #[], attributes := #[] }
def k3m1 : Method := { name := "bytes", desc := "()[B", sig := { parameters := [], returnType := some (.array .byte) }, accessFlags := 1, code := some k3c1 }
/-- com/example/keystripe/keystripe/model/Prefix -/
def k3 : Class := { plain "com/example/keystripe/keystripe/model/Prefix" (some 2) with
  accessFlags := 49
  interfaces := #[]
  cf := some (fileOf pool3 17 #[] #[{ accessFlags := 1, nameIndex := 5, descriptorIndex := 62, attributes := #[] }, { accessFlags := 1, nameIndex := 44, descriptorIndex := 45, attributes := #[] }] 49 2 #[] #[{ accessFlags := 18, nameIndex := 20, descriptorIndex := 21, attributes := #[] }])
  fields := #[{ name := "number", type := .long, accessFlags := 18, slot := 0, constantValue := 0 }]
  methods := #[k3m0, k3m1]
  instanceTypes := #[.long]
  staticTypes := #[]
  resolved := Array.replicate 101 none
  statics := none }

def pool4 : Array CpInfo := pool [(1, .class_ 2), (0, u "java/io/Serializable"), (0, .class_ 4), (0, u "java/lang/Object")] 2

/-- java/io/Serializable -/
def k4 : Class := { plain "java/io/Serializable" (some 0) with
  accessFlags := 1537
  interfaces := #[]
  cf := some (fileOf pool4 1 #[] #[] 1537 3 #[] #[])
  fields := #[]
  methods := #[]
  instanceTypes := #[]
  staticTypes := #[]
  resolved := Array.replicate 7 none
  statics := none }

def pool5 : Array CpInfo := pool [(2, .class_ 4), (1, u "java/lang/Object"), (0, u "<init>"), (0, u "()V"), (1, .class_ 10), (1, u "java/lang/Number"), (2, .class_ 14), (0, u "java/io/Serializable"), (0, u "serialVersionUID"), (0, u "J")] 20

def k5m0 : Method := { name := "<init>", desc := "()V", sig := { parameters := [], returnType := none }, accessFlags := 1, code := none }
/-- java/lang/Number -/
def k5 : Class := { plain "java/lang/Number" (some 0) with
  accessFlags := 1057
  interfaces := #[4]
  cf := some (fileOf pool5 8 #[] #[{ accessFlags := 1, nameIndex := 5, descriptorIndex := 6, attributes := #[] }] 1057 2 #[13] #[{ accessFlags := 26, nameIndex := 15, descriptorIndex := 16, attributes := #[] }])
  fields := #[{ name := "serialVersionUID", type := .long, accessFlags := 26, slot := 0, constantValue := 0 }]
  methods := #[k5m0]
  instanceTypes := #[]
  staticTypes := #[.long]
  resolved := Array.replicate 37 none
  statics := none }

def pool6 : Array CpInfo := pool [(1, .class_ 2), (0, u "java/lang/Comparable"), (0, .class_ 4), (0, u "java/lang/Object")] 7

/-- java/lang/Comparable -/
def k6 : Class := { plain "java/lang/Comparable" (some 0) with
  accessFlags := 1537
  interfaces := #[]
  cf := some (fileOf pool6 1 #[] #[] 1537 3 #[] #[])
  fields := #[]
  methods := #[]
  instanceTypes := #[]
  staticTypes := #[]
  resolved := Array.replicate 12 none
  statics := none }

def pool7 : Array CpInfo := pool [(1, .class_ 2), (0, u "java/lang/constant/Constable"), (0, .class_ 4), (0, u "java/lang/Object")] 6

/-- java/lang/constant/Constable -/
def k7 : Class := { plain "java/lang/constant/Constable" (some 0) with
  accessFlags := 1537
  interfaces := #[]
  cf := some (fileOf pool7 1 #[] #[] 1537 3 #[] #[])
  fields := #[]
  methods := #[]
  instanceTypes := #[]
  staticTypes := #[]
  resolved := Array.replicate 11 none
  statics := none }

def pool8 : Array CpInfo := pool [(1, .class_ 2), (0, u "java/lang/constant/ConstantDesc"), (0, .class_ 4), (0, u "java/lang/Object")] 32

/-- java/lang/constant/ConstantDesc -/
def k8 : Class := { plain "java/lang/constant/ConstantDesc" (some 0) with
  accessFlags := 1537
  interfaces := #[]
  cf := some (fileOf pool8 1 #[] #[] 1537 3 #[] #[])
  fields := #[]
  methods := #[]
  instanceTypes := #[]
  staticTypes := #[]
  resolved := Array.replicate 37 none
  statics := none }

def pool9 : Array CpInfo := pool [(1, .class_ 2), (0, u "java/lang/Long"), (15, .class_ 20), (1, u "java/lang/Integer"), (79, u "numberOfLeadingZeros"), (0, u "(J)I"), (133, .class_ 237), (1, u "java/lang/Long$LongCache"), (33, .class_ 272), (0, u "java/lang/Number"), (2, u "value"), (0, u "J"), (31, .methodref 18 309), (0, .nameAndType 100 310), (0, u "(I)I"), (50, u "TYPE"), (0, u "Ljava/lang/Class;"), (0, .class_ 364), (0, u "java/lang/Comparable"), (0, .class_ 366), (0, u "java/lang/constant/Constable"), (0, .class_ 368), (0, u "java/lang/constant/ConstantDesc"), (0, u "MIN_VALUE"), (1, u "MAX_VALUE"), (4, u "SIZE"), (0, u "I"), (1, u "BYTES"), (1, u "serialVersionUID")] 142

def k9c0 : Code := { maxStack := 3, maxLocals := 3, code := jdk_35_method_48_code, exceptionTable := #[], attributes := #[] }
def k9m0 : Method := { name := "numberOfLeadingZeros", desc := "(J)I", sig := { parameters := [.long], returnType := some .int }, accessFlags := 9, code := some k9c0 }
/-- java/lang/Long -/
def k9 : Class := { plain "java/lang/Long" (some 5) with
  accessFlags := 49
  interfaces := #[6, 7, 8]
  cf := some (fileOf pool9 1 #[.nestMembers #[235]] #[{ accessFlags := 9, nameIndex := 100, descriptorIndex := 101, attributes := #[] }] 49 271 #[363, 365, 367] #[{ accessFlags := 25, nameIndex := 369, descriptorIndex := 276, attributes := #[] }, { accessFlags := 25, nameIndex := 371, descriptorIndex := 276, attributes := #[] }, { accessFlags := 25, nameIndex := 361, descriptorIndex := 362, attributes := #[] }, { accessFlags := 18, nameIndex := 275, descriptorIndex := 276, attributes := #[] }, { accessFlags := 25, nameIndex := 376, descriptorIndex := 377, attributes := #[] }, { accessFlags := 25, nameIndex := 379, descriptorIndex := 377, attributes := #[] }, { accessFlags := 26, nameIndex := 381, descriptorIndex := 276, attributes := #[] }])
  fields := #[{ name := "MIN_VALUE", type := .long, accessFlags := 25, slot := 0, constantValue := 0 }, { name := "MAX_VALUE", type := .long, accessFlags := 25, slot := 1, constantValue := 0 }, { name := "TYPE", type := (.object "java/lang/Class"), accessFlags := 25, slot := 2, constantValue := 0 }, { name := "value", type := .long, accessFlags := 18, slot := 0, constantValue := 0 }, { name := "SIZE", type := .int, accessFlags := 25, slot := 3, constantValue := 0 }, { name := "BYTES", type := .int, accessFlags := 25, slot := 4, constantValue := 0 }, { name := "serialVersionUID", type := .long, accessFlags := 26, slot := 5, constantValue := 0 }]
  methods := #[k9m0]
  instanceTypes := #[.long]
  staticTypes := #[.long, .long, (.object "java/lang/Class"), .int, .int, .long]
  resolved := Array.replicate 524 none
  statics := none }

def pool10 : Array CpInfo := pool [(1, .class_ 2), (0, u "java/lang/Integer"), (16, u "digits"), (0, u "[C"), (32, u "numberOfLeadingZeros"), (0, u "(I)I"), (30, u "DigitOnes"), (0, u "[B"), (2, u "DigitTens"), (99, .class_ 190), (0, u "java/lang/Integer$IntegerCache"), (3, u "I"), (8, .class_ 204), (0, u "java/lang/Number"), (2, u "value"), (56, .integer 65536), (37, u "TYPE"), (0, u "Ljava/lang/Class;"), (0, .class_ 305), (0, u "java/lang/Comparable"), (0, .class_ 307), (0, u "java/lang/constant/Constable"), (0, .class_ 309), (0, u "java/lang/constant/ConstantDesc"), (0, u "MIN_VALUE"), (1, u "MAX_VALUE"), (3, u "SIZE"), (1, u "BYTES"), (1, u "serialVersionUID"), (0, u "J")] 131

def k10c0 : Code := { maxStack := 3, maxLocals := 2, code := jdk_33_method_47_code, exceptionTable := #[], attributes := #[] }
def k10m0 : Method := { name := "numberOfLeadingZeros", desc := "(I)I", sig := { parameters := [.int], returnType := some .int }, accessFlags := 9, code := some k10c0 }
/-- java/lang/Integer -/
def k10 : Class := { plain "java/lang/Integer" (some 5) with
  accessFlags := 49
  interfaces := #[6, 7, 8]
  cf := some (fileOf pool10 1 #[.nestMembers #[189]] #[{ accessFlags := 9, nameIndex := 53, descriptorIndex := 54, attributes := #[] }] 49 203 #[304, 306, 308] #[{ accessFlags := 25, nameIndex := 310, descriptorIndex := 194, attributes := #[] }, { accessFlags := 25, nameIndex := 312, descriptorIndex := 194, attributes := #[] }, { accessFlags := 25, nameIndex := 302, descriptorIndex := 303, attributes := #[] }, { accessFlags := 24, nameIndex := 19, descriptorIndex := 20, attributes := #[] }, { accessFlags := 24, nameIndex := 89, descriptorIndex := 86, attributes := #[] }, { accessFlags := 24, nameIndex := 85, descriptorIndex := 86, attributes := #[] }, { accessFlags := 18, nameIndex := 207, descriptorIndex := 194, attributes := #[] }, { accessFlags := 25, nameIndex := 316, descriptorIndex := 194, attributes := #[] }, { accessFlags := 25, nameIndex := 318, descriptorIndex := 194, attributes := #[] }, { accessFlags := 26, nameIndex := 320, descriptorIndex := 321, attributes := #[] }])
  fields := #[{ name := "MIN_VALUE", type := .int, accessFlags := 25, slot := 0, constantValue := 0 }, { name := "MAX_VALUE", type := .int, accessFlags := 25, slot := 1, constantValue := 0 }, { name := "TYPE", type := (.object "java/lang/Class"), accessFlags := 25, slot := 2, constantValue := 0 }, { name := "digits", type := (.array .char), accessFlags := 24, slot := 3, constantValue := 0 }, { name := "DigitTens", type := (.array .byte), accessFlags := 24, slot := 4, constantValue := 0 }, { name := "DigitOnes", type := (.array .byte), accessFlags := 24, slot := 5, constantValue := 0 }, { name := "value", type := .int, accessFlags := 18, slot := 0, constantValue := 0 }, { name := "SIZE", type := .int, accessFlags := 25, slot := 6, constantValue := 0 }, { name := "BYTES", type := .int, accessFlags := 25, slot := 7, constantValue := 0 }, { name := "serialVersionUID", type := .long, accessFlags := 26, slot := 8, constantValue := 0 }]
  methods := #[k10m0]
  instanceTypes := #[.int]
  staticTypes := #[.int, .int, (.object "java/lang/Class"), (.array .char), (.array .byte), (.array .byte), .int, .int, .long]
  resolved := Array.replicate 453 none
  statics := none }

def pool11 : Array CpInfo := pool [(1, .class_ 2), (0, u "java/lang/Math"), (1, .class_ 6), (1, u "java/lang/Object"), (0, u "<init>"), (0, u "()V"), (89, .class_ 100), (1, u "java/lang/Math$RandomNumberGeneratorHolder"), (71, u "negativeZeroFloatBits"), (0, u "J"), (2, u "negativeZeroDoubleBits"), (21, u "max"), (46, u "$assertionsDisabled"), (0, u "Z"), (88, u "(II)I"), (2, u "twoToTheDoubleScaleDown"), (0, u "D"), (4, u "twoToTheDoubleScaleUp"), (9, u "E"), (3, u "PI"), (2, u "TAU"), (2, u "DEGREES_TO_RADIANS"), (0, u "RADIANS_TO_DEGREES")] 94

def k11m0 : Method := { name := "<init>", desc := "()V", sig := { parameters := [], returnType := none }, accessFlags := 2, code := none }
def k11c1 : Code := { maxStack := 2, maxLocals := 2, code := jdk_29_method_65_code, exceptionTable := #[], attributes := #[] }
def k11m1 : Method := { name := "max", desc := "(II)I", sig := { parameters := [.int, .int], returnType := some .int }, accessFlags := 9, code := some k11c1 }
/-- java/lang/Math -/
def k11 : Class := { plain "java/lang/Math" (some 0) with
  accessFlags := 49
  interfaces := #[]
  cf := some (fileOf pool11 1 #[.nestMembers #[98]] #[{ accessFlags := 2, nameIndex := 7, descriptorIndex := 8, attributes := #[] }, { accessFlags := 9, nameIndex := 198, descriptorIndex := 335, attributes := #[] }] 49 4 #[] #[{ accessFlags := 25, nameIndex := 354, descriptorIndex := 339, attributes := #[] }, { accessFlags := 25, nameIndex := 358, descriptorIndex := 339, attributes := #[] }, { accessFlags := 25, nameIndex := 361, descriptorIndex := 339, attributes := #[] }, { accessFlags := 26, nameIndex := 364, descriptorIndex := 339, attributes := #[] }, { accessFlags := 26, nameIndex := 365, descriptorIndex := 339, attributes := #[] }, { accessFlags := 26, nameIndex := 172, descriptorIndex := 173, attributes := #[] }, { accessFlags := 26, nameIndex := 176, descriptorIndex := 173, attributes := #[] }, { accessFlags := 8, nameIndex := 344, descriptorIndex := 339, attributes := #[] }, { accessFlags := 8, nameIndex := 338, descriptorIndex := 339, attributes := #[] }, { accessFlags := 4120, nameIndex := 245, descriptorIndex := 246, attributes := #[] }])
  fields := #[{ name := "E", type := .double, accessFlags := 25, slot := 0, constantValue := 0 }, { name := "PI", type := .double, accessFlags := 25, slot := 1, constantValue := 0 }, { name := "TAU", type := .double, accessFlags := 25, slot := 2, constantValue := 0 }, { name := "DEGREES_TO_RADIANS", type := .double, accessFlags := 26, slot := 3, constantValue := 0 }, { name := "RADIANS_TO_DEGREES", type := .double, accessFlags := 26, slot := 4, constantValue := 0 }, { name := "negativeZeroFloatBits", type := .long, accessFlags := 26, slot := 5, constantValue := 0 }, { name := "negativeZeroDoubleBits", type := .long, accessFlags := 26, slot := 6, constantValue := 0 }, { name := "twoToTheDoubleScaleUp", type := .double, accessFlags := 8, slot := 7, constantValue := 0 }, { name := "twoToTheDoubleScaleDown", type := .double, accessFlags := 8, slot := 8, constantValue := 0 }, { name := "$assertionsDisabled", type := .boolean, accessFlags := 4120, slot := 9, constantValue := 0 }]
  methods := #[k11m0, k11m1]
  instanceTypes := #[]
  staticTypes := #[.double, .double, .double, .double, .double, .long, .long, .double, .double, .boolean]
  resolved := Array.replicate 460 none
  statics := none }

def pool12 : Array CpInfo := pool [(1, u "java/lang/Cloneable"), (0, .class_ 1), (0, u "java/lang/Object"), (0, .class_ 3)] 3

/-- java/lang/Cloneable -/
def k12 : Class := { plain "java/lang/Cloneable" (some 0) with
  accessFlags := 1537
  interfaces := #[]
  cf := some (fileOf pool12 2 #[] #[] 1537 4 #[] #[])
  fields := #[]
  methods := #[]
  instanceTypes := #[]
  staticTypes := #[]
  resolved := Array.replicate 8 none
  statics := none }

/-- the primitive byte -/
def k13 : Class := { plain "byte" none with kind := .primitive 'B', accessFlags := 0x411 }
/-- [B -/
def k14 : Class := { plain "[B" (some 0) with kind := .array 13 .byte, interfaces := #[12, 4], accessFlags := 1041 }

/-- the primitive int -/
def k15 : Class := { plain "int" none with kind := .primitive 'I', accessFlags := 0x411 }
/-- [I -/
def k16 : Class := { plain "[I" (some 0) with kind := .array 15 .int, interfaces := #[12, 4], accessFlags := 1041 }

def heap : Heap := #[]
def classes : Array Class := #[k0, k1, k2, k3, k4, k5, k6, k7, k8, k9, k10, k11, k12, k13, k14, k15, k16]
def interned : List (Array UInt16 × Addr) := []
def slotsUsed : Nat := 0
def theMethod : MethodId := ⟨1, 1⟩
def args0 : Array Value := #[.long 5, .int 7]
def aboutOver (below : List Frame) : State where
  vm := { classes := classes, interned := interned.toArray }
  heap := heap
  slotsUsed := slotsUsed
  threads := #[{ frames := .invoking theMethod args0 :: below }]
def below0 : List Frame := [.native { method := ⟨0, 0⟩, args := #[] }]
def about1 : State := aboutOver below0
def p0 : Program := .bare "" "" ""
def e0 : Env := launch0.env 0 0 0
theorem w_frames : about1.frames = Frame.invoking theMethod args0 :: below0 := rfl
set_option maxRecDepth 65536 in
theorem w_args : argsFit about1.vm theMethod args0 = true := by decide +kernel
set_option maxRecDepth 65536 in
theorem w_heap : heapFits about1 = true := by decide +kernel
set_option maxRecDepth 65536 in
theorem w_runnable : about1.curStatus? = some .runnable := by decide +kernel
set_option maxRecDepth 65536 in
theorem w_alone : about1.alone = true := by decide +kernel
set_option maxRecDepth 65536 in
theorem w_named : about1.methodNamed? x = some theMethod := by decide +kernel
set_option maxRecDepth 65536 in
theorem w_hears : about1.hears theMethod below0 = true := by decide +kernel
set_option maxRecDepth 65536 in
theorem w_ripe : about1.ripe theMethod args0 below0 = true := by decide +kernel
theorem w_running : about1.status = .running := rfl
set_option maxRecDepth 65536 in
theorem w_room : about1.hasRoom e0.platform room_1 = true :=
  launch0.hasRoom_least _ room_1 (by decide +kernel) (by decide +kernel) (by decide +kernel) (by decide +kernel) (by decide +kernel) (by decide +kernel)
theorem allAtoms_all (ts : List Jvm.Cond) (a : Array Jvm.Value) (st : Jvm.State) : (allAtoms ts).before a st = ts.all (fun c => c.before a st) := by
  induction ts with
  | nil => rfl
  | cons c t ih =>
    show (Jvm.Cond.and c (allAtoms t)).before a st = _
    rw [Jvm.Cond.before_and, ih, List.all_cons]
def words1 : List Jvm.Cond := Jvm.Cond.code x code maxLocals ret :: tables_1
/-- a 'code' word, met by the world's own term for the bytes: nothing is compared byte by byte -/
theorem code_word {y : MethodName} {bytes : ByteArray} {mx : Nat} {rt : Option FieldType} {a : Array Value} {s : State} {m : MethodId} {meth : Method} {c : Code} (h1 : s.methodNamed? y = some m) (h2 : s.vm.method? m = some meth) (h3 : meth.code = some c) (h4 : c.code = bytes)
    (h5 : (c.maxLocals == mx && c.exceptionTable.isEmpty && decide (c.maxStack ≤ mostOperands) && decide (meth.sig.returnType = rt) && !meth.locks && decide (parseMethodDescriptor y.desc = some meth.sig)) = true) : (Jvm.Cond.code y bytes mx rt).before a s = true := by
  simp only [Bool.and_eq_true, beq_iff_eq, Bool.not_eq_true', decide_eq_true_eq] at h5
  obtain ⟨⟨⟨⟨⟨g1, g2⟩, g3⟩, g4⟩, g5⟩, g6⟩ := h5
  simp [Cond.before, Cond.holds, Cond.value, h1, h2, h3, h4, g1, g2, g3, g4, g5, g6]
def isCode : Jvm.Cond → Bool
  | .code _ _ _ _ => true
  | _ => false
theorem all_split {L : List Jvm.Cond} {P : Jvm.Cond → Bool} (h1 : L.all (fun c => isCode c || P c) = true) (h2 : ∀ c ∈ L.filter isCode, P c = true) : L.all P = true := by
  refine List.all_eq_true.mpr fun c hc => ?_
  have h := List.all_eq_true.mp h1 c hc
  rcases Bool.eq_false_or_eq_true (isCode c) with hi | hi
  · exact h2 c (List.mem_filter.mpr ⟨hc, hi⟩)
  · simpa [hi] using h
set_option maxRecDepth 65536 in
theorem w_c0 : (Jvm.Cond.code x code maxLocals ret).before args0 about1 = true := code_word (m := ⟨1, 1⟩) (meth := k1m1) (c := k1c1) (by decide +kernel) rfl rfl rfl (by decide +kernel)
set_option maxRecDepth 65536 in
theorem w_c1 : (Jvm.Cond.code ({ cls := "com/example/keystripe/keystripe/model/Prefix", name := "<init>", desc := "(J)V" } : Jvm.MethodName) prog_19_method_1_code (3 : Nat) (Option.none : Option Jvm.ClassFile.FieldType)).before args0 about1 = true := code_word (m := ⟨3, 0⟩) (meth := k3m0) (c := k3c0) (by decide +kernel) rfl rfl rfl (by decide +kernel)
set_option maxRecDepth 65536 in
theorem w_c2 : (Jvm.Cond.code ({ cls := "java/lang/Record", name := "<init>", desc := "()V" } : Jvm.MethodName) jdk_30_method_1_code (1 : Nat) (Option.none : Option Jvm.ClassFile.FieldType)).before args0 about1 = true := code_word (m := ⟨2, 0⟩) (meth := k2m0) (c := k2c0) (by decide +kernel) rfl rfl rfl (by decide +kernel)
set_option maxRecDepth 65536 in
theorem w_c3 : (Jvm.Cond.code ({ cls := "java/lang/Object", name := "<init>", desc := "()V" } : Jvm.MethodName) object_method_1_code (1 : Nat) (Option.none : Option Jvm.ClassFile.FieldType)).before args0 about1 = true := code_word (m := ⟨0, 0⟩) (meth := k0m0) (c := k0c0) (by decide +kernel) rfl rfl rfl (by decide +kernel)
set_option maxRecDepth 65536 in
theorem w_c4 : (Jvm.Cond.code ({ cls := "com/example/keystripe/keystripe/model/Prefix", name := "bytes", desc := "()[B" } : Jvm.MethodName) prog_19_method_2_code (4 : Nat) (Option.some (Jvm.ClassFile.FieldType.array Jvm.ClassFile.FieldType.byte))).before args0 about1 = true := code_word (m := ⟨3, 1⟩) (meth := k3m1) (c := k3c1) (by decide +kernel) rfl rfl rfl (by decide +kernel)
set_option maxRecDepth 65536 in
theorem w_c5 : (Jvm.Cond.code ({ cls := "java/lang/Long", name := "numberOfLeadingZeros", desc := "(J)I" } : Jvm.MethodName) jdk_35_method_48_code (3 : Nat) (Option.some Jvm.ClassFile.FieldType.int)).before args0 about1 = true := code_word (m := ⟨9, 0⟩) (meth := k9m0) (c := k9c0) (by decide +kernel) rfl rfl rfl (by decide +kernel)
set_option maxRecDepth 65536 in
theorem w_c6 : (Jvm.Cond.code ({ cls := "java/lang/Integer", name := "numberOfLeadingZeros", desc := "(I)I" } : Jvm.MethodName) jdk_33_method_47_code (2 : Nat) (Option.some Jvm.ClassFile.FieldType.int)).before args0 about1 = true := code_word (m := ⟨10, 0⟩) (meth := k10m0) (c := k10c0) (by decide +kernel) rfl rfl rfl (by decide +kernel)
set_option maxRecDepth 65536 in
theorem w_c7 : (Jvm.Cond.code ({ cls := "java/lang/Math", name := "max", desc := "(II)I" } : Jvm.MethodName) jdk_29_method_65_code (2 : Nat) (Option.some Jvm.ClassFile.FieldType.int)).before args0 about1 = true := code_word (m := ⟨11, 1⟩) (meth := k11m1) (c := k11c1) (by decide +kernel) rfl rfl rfl (by decide +kernel)
set_option maxRecDepth 65536 in
theorem w_c8 : (Jvm.Cond.code ({ cls := "com/example/keystripe/keystripe/model/PrefixBytesPinLaw", name := "refLength", desc := "(J)I" } : Jvm.MethodName) method_4_code (2 : Nat) (Option.some Jvm.ClassFile.FieldType.int)).before args0 about1 = true := code_word (m := ⟨1, 3⟩) (meth := k1m3) (c := k1c3) (by decide +kernel) rfl rfl rfl (by decide +kernel)
set_option maxRecDepth 65536 in
theorem w_c9 : (Jvm.Cond.code ({ cls := "com/example/keystripe/keystripe/model/PrefixBytesPinLaw", name := "step", desc := "(J[BII)J" } : Jvm.MethodName) method_3_code (5 : Nat) (Option.some Jvm.ClassFile.FieldType.long)).before args0 about1 = true := code_word (m := ⟨1, 2⟩) (meth := k1m2) (c := k1c2) (by decide +kernel) rfl rfl rfl (by decide +kernel)
def codes1 : List Jvm.Cond := [Jvm.Cond.code x code maxLocals ret, Jvm.Cond.code ({ cls := "com/example/keystripe/keystripe/model/Prefix", name := "<init>", desc := "(J)V" } : Jvm.MethodName) prog_19_method_1_code (3 : Nat) (Option.none : Option Jvm.ClassFile.FieldType), Jvm.Cond.code ({ cls := "java/lang/Record", name := "<init>", desc := "()V" } : Jvm.MethodName) jdk_30_method_1_code (1 : Nat) (Option.none : Option Jvm.ClassFile.FieldType), Jvm.Cond.code ({ cls := "java/lang/Object", name := "<init>", desc := "()V" } : Jvm.MethodName) object_method_1_code (1 : Nat) (Option.none : Option Jvm.ClassFile.FieldType), Jvm.Cond.code ({ cls := "com/example/keystripe/keystripe/model/Prefix", name := "bytes", desc := "()[B" } : Jvm.MethodName) prog_19_method_2_code (4 : Nat) (Option.some (Jvm.ClassFile.FieldType.array Jvm.ClassFile.FieldType.byte)), Jvm.Cond.code ({ cls := "java/lang/Long", name := "numberOfLeadingZeros", desc := "(J)I" } : Jvm.MethodName) jdk_35_method_48_code (3 : Nat) (Option.some Jvm.ClassFile.FieldType.int), Jvm.Cond.code ({ cls := "java/lang/Integer", name := "numberOfLeadingZeros", desc := "(I)I" } : Jvm.MethodName) jdk_33_method_47_code (2 : Nat) (Option.some Jvm.ClassFile.FieldType.int), Jvm.Cond.code ({ cls := "java/lang/Math", name := "max", desc := "(II)I" } : Jvm.MethodName) jdk_29_method_65_code (2 : Nat) (Option.some Jvm.ClassFile.FieldType.int), Jvm.Cond.code ({ cls := "com/example/keystripe/keystripe/model/PrefixBytesPinLaw", name := "refLength", desc := "(J)I" } : Jvm.MethodName) method_4_code (2 : Nat) (Option.some Jvm.ClassFile.FieldType.int), Jvm.Cond.code ({ cls := "com/example/keystripe/keystripe/model/PrefixBytesPinLaw", name := "step", desc := "(J[BII)J" } : Jvm.MethodName) method_3_code (5 : Nat) (Option.some Jvm.ClassFile.FieldType.long)]
set_option maxRecDepth 65536 in
theorem codes_eq : words1.filter isCode = codes1 := rfl
theorem w_codes : ∀ c ∈ words1.filter isCode, c.before args0 about1 = true := by
  rw [codes_eq]
  intro c hc
  simp only [codes1, List.mem_cons, List.not_mem_nil, or_false] at hc
  rcases hc with rfl | rfl | rfl | rfl | rfl | rfl | rfl | rfl | rfl | rfl
  · exact w_c0
  · exact w_c1
  · exact w_c2
  · exact w_c3
  · exact w_c4
  · exact w_c5
  · exact w_c6
  · exact w_c7
  · exact w_c8
  · exact w_c9
set_option maxRecDepth 65536 in
theorem w_t1 : (words1.take 24).all (fun c => isCode c || c.before args0 about1) = true := by decide +kernel
set_option maxRecDepth 65536 in
theorem w_t2 : ((words1.drop 24).take 24).all (fun c => isCode c || c.before args0 about1) = true := by decide +kernel
set_option maxRecDepth 65536 in
theorem w_t3 : ((words1.drop 24).drop 24).all (fun c => isCode c || c.before args0 about1) = true := by decide +kernel
theorem w_tables : (allAtoms (Jvm.Cond.code x code maxLocals ret :: tables_1)).before args0 about1 = true := by
  rw [allAtoms_all]
  show words1.all (fun c => c.before args0 about1) = true
  refine all_split ?_ w_codes
  rw [← List.take_append_drop 24 words1, List.all_append, w_t1, ← List.take_append_drop 24 (words1.drop 24), List.all_append, w_t2, w_t3]
  rfl
set_option maxRecDepth 65536 in
theorem w_case : (Jvm.Cond.and given_1 narrow_1).before args0 about1 = true := by decide +kernel
theorem w_applies : (headSpec (Jvm.Cond.code x code maxLocals ret :: tables_1) room_1).applies x e0.platform about1 = true :=
  (Spec.applies_iff w_frames).mpr ⟨w_running, w_runnable, w_alone, w_named, w_hears, w_ripe, w_room, w_tables⟩
theorem atStart : AtStart classFile x code maxLocals ret World_1 tables_1 room_1 Calls_1 rest_1 Pre_1 launch0 p0 e0 about1 theMethod args0 below0 :=
  ⟨lists_1, trivial, launch0.admits_env _ _ _, launch0.least_env, fairChoices_fair.cas, fairChoices_fair.clock, w_frames, w_args, w_heap, w_applies, trivial, trivial, w_case⟩
end start1
theorem witness_1 : WitnessClaimed_1 := ⟨start1.p0, start1.e0, start1.about1, start1.theMethod, start1.args0, start1.below0, start1.atStart⟩
end Jvm.Pilot.@@N@@
