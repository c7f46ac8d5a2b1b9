import JvmDerived
import JvmDerived.Pilot.@@N@@Statement
import JvmDerived.Pilot.@@N@@Code
set_option linter.unusedVariables false
set_option linter.unusedSimpArgs false
namespace Jvm.RoadKit
open Sem ClassFile Op Lib Jvm.Stand Jvm.Free Jvm.LawKit
section OwnKit
variable {p : Program} {l : Launch} {e : Env} {R : Room} {s : State} {m : MethodId} {args : Array Value} {below : List Frame} {meth : Method} {c : Code} {T : State} {locs : List Loc} {cells slots : Nat} {Z : State} {a0 : Array Value} {Q : Option Value → Heap → List Loc → Prop} {kc ks : Nat}
/-- the run from A ends, returns, and leaves what Q says -/
def own_Fin (p : Program) (e : Env) (below : List Frame) (s : State) (Q : Option Value → Heap → List Loc → Prop) (kc ks : Nat) (A : State) : Prop :=
  ∃ s₂ o, Steps p.tables e below A s₂ ∧ s₂.status = .running ∧ Ended s₂ below o ∧ ∃ v L, o = .returned v ∧ Q v s₂.heap L ∧ FrameEnd s o s₂ L kc ks
theorem own_go {A A' : State} (h : ∀ t, Steps p.tables e below A' t → Steps p.tables e below A t) (k : own_Fin p e below s Q kc ks A') : own_Fin p e below s Q kc ks A := by
  obtain ⟨s₂, o, h1, r⟩ := k
  exact ⟨s₂, o, h _ h1, r⟩
theorem own_to {A A' : State} (h : Steps p.tables e below A A') (k : own_Fin p e below s Q kc ks A') : own_Fin p e below s Q kc ks A := own_go (fun _ q => h.trans q) k
theorem own_mono {A : State} {Q' : Option Value → Heap → List Loc → Prop} (k : own_Fin p e below s Q kc ks A) (q : ∀ v h L, Q v h L → Q' v h L) : own_Fin p e below s Q' kc ks A := by
  obtain ⟨s₂, o, h1, h2, h3, v, L, h4, h5, h6⟩ := k
  exact ⟨s₂, o, h1, h2, h3, v, L, h4, q _ _ _ h5, h6⟩
/-- what a body knows of itself -/
def own_Ctx (p : Program) (s : State) (m : MethodId) (meth : Method) (c : Code) (Z : State) (a0 : Array Value) (tb : List Cond) (y : MethodName) (bytes : ByteArray) (maxL : Nat) (ret : Option FieldType) : Prop :=
  p.tables.exec = Jvm.exec ∧ c.code = bytes ∧ c.maxLocals = maxL ∧ Z.Warmed39 s.vm ∧ s.vm.findClass y.cls = some m.cls ∧ meth.name = y.name ∧ meth.sig.returnType = ret ∧ meth.locks = false ∧ (∀ d ∈ tb, d.before a0 Z = true)
/-- a contract -/
def own_Met (l : Launch) (Z : State) (y : MethodName) (bytes : ByteArray) (maxL : Nat) (ret : Option FieldType) (ws : List Cond) (rm : Room) (as' : Array Value) (h0 : Heap) (Q : Option Value → Heap → List Loc → Prop) : Prop :=
  MetFree l y (head1 (Cond.code y bytes maxL ret :: ws) rm) (fun a U => a = as' ∧ Z.Warmed39 U.vm ∧ U.heap = h0) (fun _ _ _ _ _ => True) (fun _ U o U' => ∃ v L, o = .returned v ∧ Q v U'.heap L ∧ FrameEnd U o U' L rm.cells rm.slots)
theorem own_enter {y : MethodName} {bytes : ByteArray} {maxL : Nat} {ret : Option FieldType} {rm : Room} {as' : Array Value} {h0 : Heap} {ws tb : List Cond} {Ls : Array Slot} (hp : plainFor y = true) (hef : ∀ m, entryFrame m as' maxL = mkF m 0 Ls []) (hw : ∀ d ∈ tb, d.before a0 Z = true)
    (body : ∀ (p : Program) (e : Env) (s : State) (m : MethodId) (below : List Frame) (meth : Method) (c : Code) (T : State), Stand p l e rm s m as' below meth c T [] 0 0 → own_Ctx p s m meth c Z a0 tb y bytes maxL ret → T.heap = h0 → own_Fin p e below s Q rm.cells rm.slots (T.setTop (mkF m 0 Ls []))) :
    own_Met l Z y bytes maxL ret ws rm as' h0 Q := by
  refine MetFree.of_bodySF hp hisR ?_
  intro p e s m args below meth c s₁ Bd hml0 hP hK
  obtain ⟨rfl, hZ, hh⟩ := hP
  have e0 : s₁.heap = h0 := by rw [← hh, Bd.state]; rfl
  obtain ⟨s₂, o, h1, r⟩ := body p e s m below meth c s₁ (Stand.of_body Bd) ⟨Bd.exec, Bd.bytes, hml0, hZ, findClass_of_methodNamed Bd.named, (name_of_methodNamed Bd.named Bd.method).1, Bd.returns, Bd.notSynchronized, hw⟩ e0
  exact ⟨s₂, o, castTop (hef m) h1, r⟩
/-- a return of a value -/
theorem own_ret (X : Stand p l e R s m args below meth c T locs cells slots) (hlk : meth.locks = false) (hx : p.tables.exec = Jvm.exec) {pc : Nat} {Ls : Array Slot} {w : Value} {t : FieldType} {i : Instr} {rest : List Value} (hret : meth.sig.returnType = some t) (hn : narrow t w = w)
    (hi : (i = .ireturn ∧ (t = .int ∨ t = .boolean ∨ t = .byte ∨ t = .char ∨ t = .short) ∧ ∃ z, w = .int z) ∨ (i = .lreturn ∧ t = .long ∧ ∃ z, w = .long z) ∨ (i = .dreturn ∧ t = .double ∧ ∃ z, w = .double z) ∨ (i = .freturn ∧ t = .float ∧ ∃ z, w = .float z) ∨ (i = .areturn ∧ t.isReference = true ∧ w.isRef = true))
    (hd : decode c.code pc = .ok (i, 1)) (hq : Q (some w) T.heap locs) (hc : cells ≤ kc) (hs : slots ≤ ks) : own_Fin p e below s Q kc ks (T.setTop (mkF m pc Ls (w :: rest))) := by
  obtain ⟨fs, hr, hrun, hended, hW, hsame⟩ := X.leave (v := some w) (fun h => by rw [hret] at h; cases h) hlk
  exact ⟨_, _, retOut X hx hret hn hi hd hr, hrun, hended, _, _, rfl, hq, ⟨_, rfl⟩, hW, hsame.mono hc hs⟩
/-- a return of a boolean, byte, char, short that may be narrowed -/
theorem own_retN (X : Stand p l e R s m args below meth c T locs cells slots) (hlk : meth.locks = false) (hx : p.tables.exec = Jvm.exec) {pc : Nat} {Ls : Array Slot} {z : Int32} {t : FieldType} {rest : List Value} (hret : meth.sig.returnType = some t) (ht : t = .boolean ∨ t = .byte ∨ t = .char ∨ t = .short)
    (hd : decode c.code pc = .ok (.ireturn, 1)) (hq : Q (some (.int (nar t z))) T.heap locs) (hc : cells ≤ kc) (hs : slots ≤ ks) : own_Fin p e below s Q kc ks (T.setTop (mkF m pc Ls (.int z :: rest))) := by
  obtain ⟨fs, hr, hrun, hended, hW, hsame⟩ := X.leave (v := some (.int (nar t z))) (fun h => by rw [hret] at h; cases h) hlk
  exact ⟨_, _, retN X hx hret ht hd hr, hrun, hended, _, _, rfl, hq, ⟨_, rfl⟩, hW, hsame.mono hc hs⟩
/-- a return of nothing -/
theorem own_ret0 (X : Stand p l e R s m args below meth c T locs cells slots) (hlk : meth.locks = false) (hx : p.tables.exec = Jvm.exec) {pc : Nat} {Ls : Array Slot} (hret : meth.sig.returnType = none)
    (hd : decode c.code pc = .ok (.return_, 1)) (hq : Q none T.heap locs) (hc : cells ≤ kc) (hs : slots ≤ ks) : own_Fin p e below s Q kc ks (T.setTop (mkF m pc Ls [])) := by
  obtain ⟨fs, hr, hrun, hended, hW, hsame⟩ := X.leave (v := none) (fun _ => rfl) hlk
  exact ⟨_, _, X.returnOut hx hret hd hr, hrun, hended, _, _, rfl, hq, ⟨_, rfl⟩, hW, hsame.mono hc hs⟩
/-- calls by contract -/
theorem own_callS (X : Stand p l e R s m args below meth c T locs cells slots) (hx : p.tables.exec = Jvm.exec) (hZ : Z.Warmed39 s.vm) {h : Heap} (eT : T.heap = h) {own : String} {index : Nat} {y : MethodName} {bytes : ByteArray} {maxL : Nat} {ret : Option FieldType} (hown : s.vm.findClass own = some m.cls)
    (w1 : (Cond.methodLink own index y).before a0 Z = true) (w2 : (Cond.static y).before a0 Z = true) (w3 : (Cond.initialized y.cls).before a0 Z = true) (w4 : (Cond.code y bytes maxL ret).before a0 Z = true) (hy : y.cls ≠ "java/lang/invoke/MethodHandle" ∧ y.cls ≠ "java/lang/invoke/VarHandle")
    {rm : Room} {argsL rest : List Value} (hM : own_Met l Z y bytes maxL ret [] rm argsL.toArray h Q) (hf : rm.frames + 1 ≤ R.frames) (W : Nat) (hl : W + (maxL + 11) + rm.locals ≤ R.locals) (hcR : cells + rm.cells ≤ R.cells) (hsR : slots + rm.slots ≤ R.slots)
    {g : JFrame} (hg : g.method = m) (hsize : g.locals.size = c.maxLocals) (hlen : ∀ sig, parseMethodDescriptor y.desc = some sig → argsL.length = sig.parameters.length) (hstack : g.stack = argsL.reverse ++ rest) (hW : 2 * g.monitorRoom + (rest.map fun v => v.category).sum ≤ W) (hdg : decode c.code g.pc = .ok (.invokestatic index, 3)) :
    ∃ v T' L, Stand p l e R s m args below meth c T' (locs ++ L) (cells + rm.cells) (slots + rm.slots) ∧ Q v T'.heap L ∧ ∀ target, Steps p.tables e below (T'.setTop { g with pc := g.pc + 3, stack := v.toList ++ rest }) target → Steps p.tables e below (T.setTop g) target := by
  obtain ⟨v, _, ⟨T', L', k', n'⟩, -, X', ⟨L, hQ, l1, y1, z1⟩, st⟩ := Jvm.LawKit.callS X hx hown (mvT hZ w1) (mvT hZ w2) (mvT hZ w3) (mvT hZ w4) hy (backOf (W := W) hM hZ w4 w3 hf hl) hg hsize hlen hstack hW hdg (fun _ _ => ⟨rfl, eT, hcR, hsR⟩)
  dsimp only [Pt.U, Pt.locs, Pt.cells, Pt.slots] at X' l1 y1 z1 st hQ
  subst l1 y1 z1
  exact ⟨v, T', L, X', hQ, st⟩
/-- a result, and nothing else -/
def own_QP (r : Option Value) (h0 : Heap) (v : Option Value) (h : Heap) (L : List Loc) : Prop := v = r ∧ L = [] ∧ h = h0
theorem own_callP (X : Stand p l e R s m args below meth c T locs cells slots) (hx : p.tables.exec = Jvm.exec) (hZ : Z.Warmed39 s.vm) {h : Heap} (eT : T.heap = h) {own : String} {index : Nat} {y : MethodName} {bytes : ByteArray} {maxL : Nat} {ret : Option FieldType} (hown : s.vm.findClass own = some m.cls)
    (w1 : (Cond.methodLink own index y).before a0 Z = true) (w2 : (Cond.static y).before a0 Z = true) (w3 : (Cond.initialized y.cls).before a0 Z = true) (w4 : (Cond.code y bytes maxL ret).before a0 Z = true) (hy : y.cls ≠ "java/lang/invoke/MethodHandle" ∧ y.cls ≠ "java/lang/invoke/VarHandle")
    {fr lo : Nat} {r : Option Value} {argsL rest : List Value} (hM : own_Met l Z y bytes maxL ret [] { frames := fr, cells := 0, slots := 0, locals := lo } argsL.toArray h (own_QP r h)) (hf : fr + 1 ≤ R.frames) (W : Nat) (hl : W + (maxL + 11) + lo ≤ R.locals) (hcR : cells ≤ R.cells) (hsR : slots ≤ R.slots)
    {g : JFrame} (hg : g.method = m) (hsize : g.locals.size = c.maxLocals) (hlen : ∀ sig, parseMethodDescriptor y.desc = some sig → argsL.length = sig.parameters.length) (hstack : g.stack = argsL.reverse ++ rest) (hW : 2 * g.monitorRoom + (rest.map fun v => v.category).sum ≤ W) (hdg : decode c.code g.pc = .ok (.invokestatic index, 3)) :
    ∃ T', Stand p l e R s m args below meth c T' locs cells slots ∧ T'.heap = h ∧ ∀ target, Steps p.tables e below (T'.setTop { g with pc := g.pc + 3, stack := r.toList ++ rest }) target → Steps p.tables e below (T.setTop g) target := by
  obtain ⟨v, T', L, X', ⟨rfl, rfl, e1⟩, st⟩ := own_callS X hx hZ eT hown w1 w2 w3 w4 hy hM hf W hl hcR hsR hg hsize hlen hstack hW hdg
  rw [List.append_nil] at X'
  exact ⟨T', X', e1, st⟩
theorem own_callI (X : Stand p l e R s m args below meth c T locs cells slots) (hx : p.tables.exec = Jvm.exec) (hZ : Z.Warmed39 s.vm) {h : Heap} (eT : T.heap = h) {own : String} {index : Nat} {y : MethodName} {bytes : ByteArray} {maxL : Nat} (hy1 : y.name = "<init>") (hown : s.vm.findClass own = some m.cls)
    (w1 : (Cond.methodLink own index y).before a0 Z = true) (w2 : (Cond.instanceMethod y).before a0 Z = true) (w3 : (Cond.initialized y.cls).before a0 Z = true) (w4 : (Cond.code y bytes maxL none).before a0 Z = true) (hy : y.cls ≠ "java/lang/invoke/MethodHandle" ∧ y.cls ≠ "java/lang/invoke/VarHandle")
    {rm : Room} {a : Addr} {argsL rest : List Value} (hM : own_Met l Z y bytes maxL none [] rm (.ref a :: argsL).toArray h Q) (hf : rm.frames + 1 ≤ R.frames) (W : Nat) (hl : W + (maxL + 11) + rm.locals ≤ R.locals) (hcR : cells + rm.cells ≤ R.cells) (hsR : slots + rm.slots ≤ R.slots)
    {g : JFrame} (hg : g.method = m) (hsize : g.locals.size = c.maxLocals) (hlen : ∀ sig, parseMethodDescriptor y.desc = some sig → argsL.length = sig.parameters.length) (hstack : g.stack = argsL.reverse ++ .ref a :: rest) (hW : 2 * g.monitorRoom + (rest.map fun v => v.category).sum ≤ W) (hdg : decode c.code g.pc = .ok (.invokespecial index, 3)) :
    ∃ v T' L, Stand p l e R s m args below meth c T' (locs ++ L) (cells + rm.cells) (slots + rm.slots) ∧ Q v T'.heap L ∧ ∀ target, Steps p.tables e below (T'.setTop { g with pc := g.pc + 3, stack := v.toList ++ rest }) target → Steps p.tables e below (T.setTop g) target := by
  obtain ⟨v, _, ⟨T', L', k', n'⟩, -, X', ⟨L, hQ, l1, y1, z1⟩, st⟩ := X.specialBack hx hy1 hown (mvT hZ w1) (mvT hZ w2) (mvT hZ w4) hy (backOf (W := W) hM hZ w4 w3 hf hl) hg hsize (Steps.refl _) hlen hstack hW hdg (fun _ _ => ⟨rfl, eT, hcR, hsR⟩)
  dsimp only [Pt.U, Pt.locs, Pt.cells, Pt.slots] at X' l1 y1 z1 st hQ
  subst l1 y1 z1
  exact ⟨v, T', L, X', hQ, fun _ q => st.trans q⟩
theorem own_callIP (X : Stand p l e R s m args below meth c T locs cells slots) (hx : p.tables.exec = Jvm.exec) (hZ : Z.Warmed39 s.vm) {h : Heap} (eT : T.heap = h) {own : String} {index : Nat} {y : MethodName} {bytes : ByteArray} {maxL : Nat} (hy1 : y.name = "<init>") (hown : s.vm.findClass own = some m.cls)
    (w1 : (Cond.methodLink own index y).before a0 Z = true) (w2 : (Cond.instanceMethod y).before a0 Z = true) (w3 : (Cond.initialized y.cls).before a0 Z = true) (w4 : (Cond.code y bytes maxL none).before a0 Z = true) (hy : y.cls ≠ "java/lang/invoke/MethodHandle" ∧ y.cls ≠ "java/lang/invoke/VarHandle")
    {fr lo : Nat} {a : Addr} {argsL rest : List Value} (hM : own_Met l Z y bytes maxL none [] { frames := fr, cells := 0, slots := 0, locals := lo } (.ref a :: argsL).toArray h (own_QP none h)) (hf : fr + 1 ≤ R.frames) (W : Nat) (hl : W + (maxL + 11) + lo ≤ R.locals) (hcR : cells ≤ R.cells) (hsR : slots ≤ R.slots)
    {g : JFrame} (hg : g.method = m) (hsize : g.locals.size = c.maxLocals) (hlen : ∀ sig, parseMethodDescriptor y.desc = some sig → argsL.length = sig.parameters.length) (hstack : g.stack = argsL.reverse ++ .ref a :: rest) (hW : 2 * g.monitorRoom + (rest.map fun v => v.category).sum ≤ W) (hdg : decode c.code g.pc = .ok (.invokespecial index, 3)) :
    ∃ T', Stand p l e R s m args below meth c T' locs cells slots ∧ T'.heap = h ∧ ∀ target, Steps p.tables e below (T'.setTop { g with pc := g.pc + 3, stack := rest }) target → Steps p.tables e below (T.setTop g) target := by
  obtain ⟨v, T', L, X', ⟨rfl, rfl, e1⟩, st⟩ := own_callI X hx hZ eT hy1 hown w1 w2 w3 w4 hy hM hf W hl hcR hsR hg hsize hlen hstack hW hdg
  rw [List.append_nil] at X'
  exact ⟨T', X', e1, st⟩
theorem own_callV (X : Stand p l e R s m args below meth c T locs cells slots) (hx : p.tables.exec = Jvm.exec) (hZ : Z.Warmed39 s.vm) {h : Heap} (eT : T.heap = h) {own C : String} {index : Nat} {y : MethodName} {bytes : ByteArray} {maxL : Nat} {ret : Option FieldType} (hown : s.vm.findClass own = some m.cls)
    (w1 : (Cond.methodLink own index y).before a0 Z = true) (wd : (Cond.declares y).before a0 Z = true) (ws : (Cond.selects C y y).before a0 Z = true) (w2 : (Cond.instanceMethod y).before a0 Z = true) (w3 : (Cond.initialized y.cls).before a0 Z = true) (w4 : (Cond.code y bytes maxL ret).before a0 Z = true) (hy : y.cls ≠ "java/lang/invoke/MethodHandle" ∧ y.cls ≠ "java/lang/invoke/VarHandle")
    {rm : Room} {a : Addr} (hE : Exa Z h a C) {argsL rest : List Value} (hM : own_Met l Z y bytes maxL ret [] rm (.ref a :: argsL).toArray h Q) (hf : rm.frames + 1 ≤ R.frames) (W : Nat) (hl : W + (maxL + 11) + rm.locals ≤ R.locals) (hcR : cells + rm.cells ≤ R.cells) (hsR : slots + rm.slots ≤ R.slots)
    {g : JFrame} (hg : g.method = m) (hsize : g.locals.size = c.maxLocals) (hlen : ∀ sig, parseMethodDescriptor y.desc = some sig → argsL.length = sig.parameters.length) (hstack : g.stack = argsL.reverse ++ .ref a :: rest) (hW : 2 * g.monitorRoom + (rest.map fun v => v.category).sum ≤ W) (hdg : decode c.code g.pc = .ok (.invokevirtual index, 3)) :
    ∃ v T' L, Stand p l e R s m args below meth c T' (locs ++ L) (cells + rm.cells) (slots + rm.slots) ∧ Q v T'.heap L ∧ ∀ target, Steps p.tables e below (T'.setTop { g with pc := g.pc + 3, stack := v.toList ++ rest }) target → Steps p.tables e below (T.setTop g) target := by
  obtain ⟨cq, kq, qa, qb, qc⟩ := isOf hZ eT hE
  obtain ⟨v, _, ⟨T', L', k', n'⟩, -, X', ⟨L, hQ, l1, y1, z1⟩, st⟩ := X.virtualBack hx hown (mvT hZ w1) (mvT hZ wd) (notFace_of_selects (args := #[]) (mvT hZ ws)) (mvT hZ ws) (mvT hZ w2) hy (backOf (W := W) hM hZ w4 w3 hf hl) qa qc hg hsize (Steps.refl _) hlen hstack hW hdg (fun _ _ => ⟨rfl, eT, hcR, hsR⟩)
  dsimp only [Pt.U, Pt.locs, Pt.cells, Pt.slots] at X' l1 y1 z1 st hQ
  subst l1 y1 z1
  exact ⟨v, T', L, X', hQ, fun _ q => st.trans q⟩
/-- a virtual call that only reads -/
theorem own_callVP (X : Stand p l e R s m args below meth c T locs cells slots) (hx : p.tables.exec = Jvm.exec) (hZ : Z.Warmed39 s.vm) {h : Heap} (eT : T.heap = h) {own C : String} {index : Nat} {y : MethodName} {bytes : ByteArray} {maxL : Nat} {ret : Option FieldType} (hown : s.vm.findClass own = some m.cls)
    (w1 : (Cond.methodLink own index y).before a0 Z = true) (wd : (Cond.declares y).before a0 Z = true) (ws : (Cond.selects C y y).before a0 Z = true) (w2 : (Cond.instanceMethod y).before a0 Z = true) (w3 : (Cond.initialized y.cls).before a0 Z = true) (w4 : (Cond.code y bytes maxL ret).before a0 Z = true) (hy : y.cls ≠ "java/lang/invoke/MethodHandle" ∧ y.cls ≠ "java/lang/invoke/VarHandle")
    {fr lo : Nat} {r : Option Value} {a : Addr} (hE : Exa Z h a C) {argsL rest : List Value} (hM : own_Met l Z y bytes maxL ret [] { frames := fr, cells := 0, slots := 0, locals := lo } (.ref a :: argsL).toArray h (own_QP r h)) (hf : fr + 1 ≤ R.frames) (W : Nat) (hl : W + (maxL + 11) + lo ≤ R.locals) (hcR : cells ≤ R.cells) (hsR : slots ≤ R.slots)
    {g : JFrame} (hg : g.method = m) (hsize : g.locals.size = c.maxLocals) (hlen : ∀ sig, parseMethodDescriptor y.desc = some sig → argsL.length = sig.parameters.length) (hstack : g.stack = argsL.reverse ++ .ref a :: rest) (hW : 2 * g.monitorRoom + (rest.map fun v => v.category).sum ≤ W) (hdg : decode c.code g.pc = .ok (.invokevirtual index, 3)) :
    ∃ T', Stand p l e R s m args below meth c T' locs cells slots ∧ T'.heap = h ∧ ∀ target, Steps p.tables e below (T'.setTop { g with pc := g.pc + 3, stack := r.toList ++ rest }) target → Steps p.tables e below (T.setTop g) target := by
  obtain ⟨v, T', L, X', ⟨rfl, rfl, e1⟩, st⟩ := own_callV X hx hZ eT hown w1 wd ws w2 w3 w4 hy hE hM hf W hl hcR hsR hg hsize hlen hstack hW hdg
  rw [List.append_nil] at X'
  exact ⟨T', X', e1, st⟩
/-- an array of ints or bytes, its elements by a function -/
def own_A (Z : State) (h : Heap) (a : Addr) (ty : FieldType) (z : Int32) (f : Int32 → Int32) : Prop :=
  ∃ cl : Cell, Arr Z h a cl ty ∧ cl.slots.size = z.toNatClampNeg ∧ ¬ z < 0 ∧ ∀ j : Int32, ¬ j < 0 → j < z → cl.slots[j.toNatClampNeg]? = some (.int (f j))
section A
variable {h h' : Heap} {a b : Addr} {ty : FieldType} {z : Int32} {f : Int32 → Int32} {ws : List Addr} {sl : Nat} {v : Value}
theorem own_A.lt (F : own_A Z h a ty z f) : a < h.size := by obtain ⟨cl, A, -⟩ := F; exact A.lt
theorem own_A.ext (F : own_A Z h a ty z f) (E : Ext h h') : own_A Z h' a ty z f := by obtain ⟨cl, A, r⟩ := F; exact ⟨cl, A.ext E, r⟩
theorem own_A.other (F : own_A Z h a ty z f) (W : Wr h h' b sl v) (q : a ≠ b) : own_A Z h' a ty z f := by obtain ⟨cl, A, r⟩ := F; exact ⟨cl, A.other W q, r⟩
theorem own_A.keep (F : own_A Z h a ty z f) (K : Keep h h' ws) (q : a ∉ ws) : own_A Z h' a ty z f := by obtain ⟨cl, A, r⟩ := F; exact ⟨cl, ⟨K.2.1 a cl A.1 q, A.2⟩, r⟩
theorem own_A.cong (F : own_A Z h a ty z f) {f' : Int32 → Int32} (q : ∀ j : Int32, ¬ j < 0 → j < z → f j = f' j) : own_A Z h a ty z f' := by
  obtain ⟨cl, A, S, n, H⟩ := F
  exact ⟨cl, A, S, n, fun j h1 h2 => by rw [← q j h1 h2]; exact H j h1 h2⟩
theorem own_A.set (F : own_A Z h a ty z f) {j w : Int32} (h0 : ¬ j < 0) (hj : j < z) (W : Wr h h' a j.toNatClampNeg (.int w)) : own_A Z h' a ty z (fun i => if i = j then w else f i) := by
  obtain ⟨cl, A, S, n, H⟩ := F
  refine ⟨_, A.same W, by rw [sz_set]; exact S, n, fun i h1 h2 => ?_⟩
  by_cases q : i = j
  · rw [get_hit (inb_of S ⟨h0, hj⟩) q]; show _ = some (Value.int (if i = j then w else f i)); rw [if_pos q]
  · rw [get_miss h0 h1 q, H i h1 h2]; show _ = some (Value.int (if i = j then w else f i)); rw [if_neg q]
theorem own_A.new {k : ClassId} (A : Arr Z h a (newA k ty z) ty) (q : ¬ z < 0) (d : defaultValue ty = .int 0) : own_A Z h a ty z (fun _ => 0) :=
  ⟨_, A, sz_new _ _ _, q, fun j h1 h2 => by rw [get_new (by have := inb_of (sz_new k ty z) ⟨h1, h2⟩; rw [sz_new] at this; exact this), d]⟩
theorem own_A.nn (F : own_A Z h a ty z f) : ¬ z < 0 := by obtain ⟨cl, A, S, n, H⟩ := F; exact n
end A
theorem own_newI (X : Stand p l e R s m args below meth c T locs cells slots) (hx : p.tables.exec = Jvm.exec) (hZ : Z.Warmed39 s.vm) {h : Heap} (eT : T.heap = h) (w : (Cond.arrayClass .int).before a0 Z = true) {g : JFrame} (hg : g.method = m) (hd : decode c.code g.pc = .ok (.newarray .int, 2)) {n : Int32} {rest : List Value} (hs : g.stack = .int n :: rest)
    (hn : ¬ n < 0) (cap : Nat) (hcap : n.toNatClampNeg ≤ cap) (hb : cap * 8 ≤ 536870912) (hc : cells + 1 ≤ R.cells) (hl : slots + cap ≤ R.slots) :
    ∃ T' a, Stand p l e R s m args below meth c T' locs (cells + 1) (slots + cap) ∧ Ext h T'.heap ∧ a = h.size ∧ own_A Z T'.heap a .int n (fun _ => 0) ∧ ∀ target, Steps p.tables e below (T'.setTop { g with pc := g.pc + 2, stack := .ref a :: rest }) target → Steps p.tables e below (T.setTop g) target := by
  obtain ⟨T', h', cA, X', e1, E, A, st⟩ := newP (aty := .int) X hx hZ w eT hg hd hs hn hcap hb hc hl
  subst e1
  exact ⟨T', _, X', E, rfl, own_A.new A hn rfl, st⟩
theorem own_newB (X : Stand p l e R s m args below meth c T locs cells slots) (hx : p.tables.exec = Jvm.exec) (hZ : Z.Warmed39 s.vm) {h : Heap} (eT : T.heap = h) (w : (Cond.arrayClass .byte).before a0 Z = true) {g : JFrame} (hg : g.method = m) (hd : decode c.code g.pc = .ok (.newarray .byte, 2)) {n : Int32} {rest : List Value} (hs : g.stack = .int n :: rest)
    (hn : ¬ n < 0) (cap : Nat) (hcap : n.toNatClampNeg ≤ cap) (hb : cap * 8 ≤ 536870912) (hc : cells + 1 ≤ R.cells) (hl : slots + cap ≤ R.slots) :
    ∃ T' a, Stand p l e R s m args below meth c T' locs (cells + 1) (slots + cap) ∧ Ext h T'.heap ∧ a = h.size ∧ own_A Z T'.heap a .byte n (fun _ => 0) ∧ ∀ target, Steps p.tables e below (T'.setTop { g with pc := g.pc + 2, stack := .ref a :: rest }) target → Steps p.tables e below (T.setTop g) target := by
  obtain ⟨T', h', cA, X', e1, E, A, st⟩ := newP (aty := .byte) X hx hZ w eT hg hd hs hn hcap hb hc hl
  subst e1
  exact ⟨T', _, X', E, rfl, own_A.new A hn rfl, st⟩
theorem own_stI (X : Stand p l e R s m args below meth c T locs cells slots) (hx : p.tables.exec = Jvm.exec) (hZ : Z.Warmed39 s.vm) {h : Heap} (eT : T.heap = h) {a : Addr} {z : Int32} {f : Int32 → Int32} (F : own_A Z h a .int z f) {j x : Int32} (h0 : ¬ j < 0) (hj : j < z) {g : JFrame} (hg : g.method = m) {rest : List Value} (hs : g.stack = .int x :: .int j :: .ref a :: rest) (hd : decode c.code g.pc = .ok (.iastore, 1)) :
    ∃ T', Stand p l e R s m args below meth c T' (locs ++ [⟨a, j.toNatClampNeg⟩]) cells slots ∧ Wr h T'.heap a j.toNatClampNeg (.int x) ∧ own_A Z T'.heap a .int z (fun i => if i = j then x else f i) ∧ ∀ target, Steps p.tables e below (T'.setTop { g with pc := g.pc + 1, stack := rest }) target → Steps p.tables e below (T.setTop g) target := by
  obtain ⟨cl, A, S, n, H⟩ := id F
  obtain ⟨T', h', X', e1, W, st⟩ := stI X hx hZ eT A (inb_of S ⟨h0, hj⟩) hg hs hd
  subst e1
  exact ⟨T', X', W, F.set h0 hj W, st⟩
theorem own_stB (X : Stand p l e R s m args below meth c T locs cells slots) (hx : p.tables.exec = Jvm.exec) (hZ : Z.Warmed39 s.vm) {h : Heap} (eT : T.heap = h) {a : Addr} {z : Int32} {f : Int32 → Int32} (F : own_A Z h a .byte z f) {j x : Int32} (h0 : ¬ j < 0) (hj : j < z) {g : JFrame} (hg : g.method = m) {rest : List Value} (hs : g.stack = .int x :: .int j :: .ref a :: rest) (hd : decode c.code g.pc = .ok (.bastore, 1)) :
    ∃ T', Stand p l e R s m args below meth c T' (locs ++ [⟨a, j.toNatClampNeg⟩]) cells slots ∧ Wr h T'.heap a j.toNatClampNeg (.int x.toInt8.toInt32) ∧ own_A Z T'.heap a .byte z (fun i => if i = j then x.toInt8.toInt32 else f i) ∧ ∀ target, Steps p.tables e below (T'.setTop { g with pc := g.pc + 1, stack := rest }) target → Steps p.tables e below (T.setTop g) target := by
  obtain ⟨cl, A, S, n, H⟩ := id F
  obtain ⟨T', h', X', e1, W, st⟩ := stB X hx hZ eT A (inb_of S ⟨h0, hj⟩) hg hs hd
  subst e1
  exact ⟨T', X', W, F.set h0 hj W, st⟩
theorem own_ldI (X : Stand p l e R s m args below meth c T locs cells slots) (hx : p.tables.exec = Jvm.exec) (hZ : Z.Warmed39 s.vm) {h : Heap} (eT : T.heap = h) {a : Addr} {z : Int32} {f : Int32 → Int32} (F : own_A Z h a .int z f) {j : Int32} (h0 : ¬ j < 0) (hj : j < z) {g : JFrame} (hg : g.method = m) {rest : List Value} (hs : g.stack = .int j :: .ref a :: rest) (hd : decode c.code g.pc = .ok (.iaload, 1)) :
    ∀ target, Steps p.tables e below (T.setTop { g with pc := g.pc + 1, stack := .int (f j) :: rest }) target → Steps p.tables e below (T.setTop g) target := by
  obtain ⟨cl, A, S, n, H⟩ := id F
  exact fun target q => X.iaload hx (by rw [eT]; exact A.1) (State.isArrayOf_alike hZ.alike A.2.1) A.2.2 (inb_of S ⟨h0, hj⟩) (H j h0 hj) hg hs hd target q
theorem own_ldB (X : Stand p l e R s m args below meth c T locs cells slots) (hx : p.tables.exec = Jvm.exec) (hZ : Z.Warmed39 s.vm) {h : Heap} (eT : T.heap = h) {a : Addr} {z : Int32} {f : Int32 → Int32} (F : own_A Z h a .byte z f) {j : Int32} (h0 : ¬ j < 0) (hj : j < z) {g : JFrame} (hg : g.method = m) {rest : List Value} (hs : g.stack = .int j :: .ref a :: rest) (hd : decode c.code g.pc = .ok (.baload, 1)) :
    ∀ target, Steps p.tables e below (T.setTop { g with pc := g.pc + 1, stack := .int (f j) :: rest }) target → Steps p.tables e below (T.setTop g) target := by
  obtain ⟨cl, A, S, n, H⟩ := id F
  exact fun target q => X.baloadBytes hx (by rw [eT]; exact A.1) (State.isArrayOf_alike hZ.alike A.2.1) A.2.2 (inb_of S ⟨h0, hj⟩) (H j h0 hj) hg hs hd target q
theorem own_len (X : Stand p l e R s m args below meth c T locs cells slots) (hx : p.tables.exec = Jvm.exec) (hZ : Z.Warmed39 s.vm) {h : Heap} (eT : T.heap = h) {a : Addr} {ty : FieldType} {z : Int32} {f : Int32 → Int32} (F : own_A Z h a ty z f) {g : JFrame} (hg : g.method = m) {rest : List Value} (hs : g.stack = .ref a :: rest) (hd : decode c.code g.pc = .ok (.arraylength, 1)) :
    ∀ target, Steps p.tables e below (T.setTop { g with pc := g.pc + 1, stack := .int z :: rest }) target → Steps p.tables e below (T.setTop g) target := by
  obtain ⟨cl, A, S, n, H⟩ := id F
  exact fun target q => X.arraylength hx (by rw [eT]; exact A.1) (State.isArrayOf_alike hZ.alike A.2.1) hg hs hd target (by rw [len_of S n]; exact q)
/-- fields -/
theorem own_getF (X : Stand p l e R s m args below meth c T locs cells slots) (hx : p.tables.exec = Jvm.exec) (hZ : Z.Warmed39 s.vm) {h : Heap} (eT : T.heap = h) {own O n d : String} {index : Nat} (hown : s.vm.findClass own = some m.cls) (w : (Cond.fieldLink own index O n d).before a0 Z = true)
    {a : Addr} {v : Value} (F : Fld Z h a O n d v) {g : JFrame} (hg : g.method = m) {rest : List Value} (hs : g.stack = .ref a :: rest) (hd : decode c.code g.pc = .ok (.getfield index, 3)) :
    ∃ T', Stand p l e R s m args below meth c T' locs cells slots ∧ T'.heap = h ∧ ∀ target, Steps p.tables e below (T'.setTop { g with pc := g.pc + 3, stack := v :: rest }) target → Steps p.tables e below (T.setTop g) target :=
  getF X hx hZ hown (host := "") (Or.inl w) Via.refl eT F hg hs hd
theorem own_putF (X : Stand p l e R s m args below meth c T locs cells slots) (hx : p.tables.exec = Jvm.exec) (hZ : Z.Warmed39 s.vm) {h : Heap} (eT : T.heap = h) {own O n d C : String} {index kk : Nat} {ty : FieldType} (hown : s.vm.findClass own = some m.cls) (w : (Cond.fieldLink own index O n d).before a0 Z = true)
    {a : Addr} {v old : Value} (F : Fld Z h a O n d old) (E : Exa Z h a C) (L : (Cond.lays C O n d).before a0 Z = true ∨ ((Cond.laysFinal C O n d).before a0 Z = true ∧ own = O ∧ meth.name = "<init>")) (wi : (Cond.instantiable C kk).before a0 Z = true)
    (hty : parseFieldDescriptor d = some ty) (hn : narrow ty v = v) (hf : fits ty v = true) {g : JFrame} (hg : g.method = m) {rest : List Value} (hs : g.stack = v :: .ref a :: rest) (hd : decode c.code g.pc = .ok (.putfield index, 3)) :
    ∃ T', Stand p l e R s m args below meth c T' (locs ++ [⟨a, slotOf Z O n d⟩]) cells slots ∧ Wr h T'.heap a (slotOf Z O n d) v ∧ ∀ target, Steps p.tables e below (T'.setTop { g with pc := g.pc + 3, stack := rest }) target → Steps p.tables e below (T.setTop g) target := by
  obtain ⟨T', h', X', e1, W, st⟩ := putF X hx hZ hown (host := "") (Or.inl w) Via.refl eT F E L wi hty hn hf hg hs hd
  subst e1
  exact ⟨T', X', W, st⟩
/-- comparisons with literals, through Int -/
theorem own_lt {x k : Int32} (K : Int) (hk : k.toInt = K) (h : x.toInt < K) : x < k := by rw [Int32.lt_iff_toInt_lt, hk]; exact h
theorem own_nlt {x k : Int32} (K : Int) (hk : k.toInt = K) (h : K ≤ x.toInt) : ¬ x < k := by rw [Int32.lt_iff_toInt_lt, hk]; omega
theorem own_gt {x k : Int32} (K : Int) (hk : k.toInt = K) (h : K < x.toInt) : k < x := by rw [Int32.lt_iff_toInt_lt, hk]; exact h
theorem own_ngt {x k : Int32} (K : Int) (hk : k.toInt = K) (h : x.toInt ≤ K) : ¬ k < x := by rw [Int32.lt_iff_toInt_lt, hk]; omega
theorem own_ieq {x k : Int32} (K : Int) (hk : k.toInt = K) (h : x.toInt = K) : x = k := Int32.toInt_inj.mp (by rw [hk]; exact h)
theorem own_ineq {x k : Int32} (K : Int) (hk : k.toInt = K) (h : x.toInt < K ∨ K < x.toInt) : ¬ x = k := fun q => by subst q; omega
end OwnKit
end Jvm.RoadKit
namespace Jvm.RoadKit
open Sem ClassFile Op Lib Jvm.Stand Jvm.Free Jvm.LawKit
theorem own_mask31 (b : Int32) : 0 ≤ (b &&& 2147483647).toInt := by
  have h := c_mask b 2147483647 31 (by decide) (by decide)
  rw [h]; exact Int.emod_nonneg _ (by decide)
theorem own_modpos (b k : Int32) (K : Int) (hk : k.toInt = K) (h0 : 0 < K) : 0 ≤ ((b &&& 2147483647) % k).toInt ∧ ((b &&& 2147483647) % k).toInt < K := by
  rw [(c_irem (b &&& 2147483647) k K hk).1 (own_mask31 b)]
  exact ⟨Int.emod_nonneg _ (by omega), Int.emod_lt_of_pos _ h0⟩
theorem own_maskpos (b m : Int32) (k : Nat) (hk : k ≤ 31) (hm : m.toBitVec.toNat = 2 ^ k - 1) (K : Int) (hK : K = ((2 ^ k : Nat) : Int)) (h0 : 0 < K) : 0 ≤ (b &&& m).toInt ∧ (b &&& m).toInt < K := by
  rw [c_mask b m k hk hm, ← hK]
  exact ⟨Int.emod_nonneg _ (by omega), Int.emod_lt_of_pos _ h0⟩
end Jvm.RoadKit
namespace Jvm.RoadKit
open Sem ClassFile Op Lib Jvm.Stand Jvm.Free Jvm.LawKit
theorem own_clamp (n : Int32) (k : Nat) (h : n.toInt ≤ k) : n.toNatClampNeg ≤ k := by
  show n.toInt.toNat ≤ k
  omega
theorem own_bb (x : Int32) : x.toInt8.toInt32.toInt8.toInt32 = x.toInt8.toInt32 := by rw [Int8.toInt8_toInt32]
theorem own_ltT {x y : Int32} (h : x < y) : x.toInt < y.toInt := Int32.lt_iff_toInt_lt.mp h
theorem own_nltT {x y : Int32} (h : ¬ x < y) : y.toInt ≤ x.toInt := by rw [Int32.lt_iff_toInt_lt] at h; omega
theorem own_Tlt {x y : Int32} (h : x.toInt < y.toInt) : x < y := Int32.lt_iff_toInt_lt.mpr h
theorem own_Tnlt {x y : Int32} (h : y.toInt ≤ x.toInt) : ¬ x < y := by rw [Int32.lt_iff_toInt_lt]; omega
theorem own_neT {x y : Int32} (h : ¬ x = y) : ¬ x.toInt = y.toInt := fun q => h (Int32.toInt_inj.mp q)
end Jvm.RoadKit
namespace Jvm.Pilot.@@N@@
open Jvm Jvm.ClassFile Sem Op Lib Jvm.Free Jvm.Stand Jvm.LawKit Jvm.RoadKit Bundle Jvm.Pilot.@@N@@.Jvm.D
theorem own_d1_0 : decode prog_114_method_4_code 0 = .ok (.iload_n 0, 1) := by decide +kernel
theorem own_d1_1 : decode prog_114_method_4_code 1 = .ok (.bipush 97, 2) := by decide +kernel
theorem own_d1_3 : decode prog_114_method_4_code 3 = .ok (.if_icmp .lt 9, 3) := by decide +kernel
theorem own_d1_6 : decode prog_114_method_4_code 6 = .ok (.iload_n 0, 1) := by decide +kernel
theorem own_d1_7 : decode prog_114_method_4_code 7 = .ok (.bipush 122, 2) := by decide +kernel
theorem own_d1_9 : decode prog_114_method_4_code 9 = .ok (.if_icmp .le 155, 3) := by decide +kernel
theorem own_d1_12 : decode prog_114_method_4_code 12 = .ok (.iload_n 0, 1) := by decide +kernel
theorem own_d1_13 : decode prog_114_method_4_code 13 = .ok (.bipush 65, 2) := by decide +kernel
theorem own_d1_15 : decode prog_114_method_4_code 15 = .ok (.if_icmp .lt 9, 3) := by decide +kernel
theorem own_d1_18 : decode prog_114_method_4_code 18 = .ok (.iload_n 0, 1) := by decide +kernel
theorem own_d1_19 : decode prog_114_method_4_code 19 = .ok (.bipush 90, 2) := by decide +kernel
theorem own_d1_21 : decode prog_114_method_4_code 21 = .ok (.if_icmp .le 143, 3) := by decide +kernel
theorem own_d1_24 : decode prog_114_method_4_code 24 = .ok (.iload_n 0, 1) := by decide +kernel
theorem own_d1_25 : decode prog_114_method_4_code 25 = .ok (.bipush 95, 2) := by decide +kernel
theorem own_d1_27 : decode prog_114_method_4_code 27 = .ok (.if_icmp .eq 137, 3) := by decide +kernel
theorem own_d1_30 : decode prog_114_method_4_code 30 = .ok (.iload_n 0, 1) := by decide +kernel
theorem own_d1_31 : decode prog_114_method_4_code 31 = .ok (.bipush 58, 2) := by decide +kernel
theorem own_d1_33 : decode prog_114_method_4_code 33 = .ok (.if_icmp .eq 131, 3) := by decide +kernel
theorem own_d1_36 : decode prog_114_method_4_code 36 = .ok (.iload_n 0, 1) := by decide +kernel
theorem own_d1_37 : decode prog_114_method_4_code 37 = .ok (.sipush 192, 3) := by decide +kernel
theorem own_d1_40 : decode prog_114_method_4_code 40 = .ok (.if_icmp .lt 24, 3) := by decide +kernel
theorem own_d1_43 : decode prog_114_method_4_code 43 = .ok (.iload_n 0, 1) := by decide +kernel
theorem own_d1_44 : decode prog_114_method_4_code 44 = .ok (.sipush 767, 3) := by decide +kernel
theorem own_d1_47 : decode prog_114_method_4_code 47 = .ok (.if_icmp .gt 17, 3) := by decide +kernel
theorem own_d1_50 : decode prog_114_method_4_code 50 = .ok (.iload_n 0, 1) := by decide +kernel
theorem own_d1_51 : decode prog_114_method_4_code 51 = .ok (.sipush 215, 3) := by decide +kernel
theorem own_d1_54 : decode prog_114_method_4_code 54 = .ok (.if_icmp .eq 10, 3) := by decide +kernel
theorem own_d1_57 : decode prog_114_method_4_code 57 = .ok (.iload_n 0, 1) := by decide +kernel
theorem own_d1_58 : decode prog_114_method_4_code 58 = .ok (.sipush 247, 3) := by decide +kernel
theorem own_d1_61 : decode prog_114_method_4_code 61 = .ok (.if_icmp .ne 103, 3) := by decide +kernel
theorem own_d1_64 : decode prog_114_method_4_code 64 = .ok (.iload_n 0, 1) := by decide +kernel
theorem own_d1_65 : decode prog_114_method_4_code 65 = .ok (.sipush 880, 3) := by decide +kernel
theorem own_d1_68 : decode prog_114_method_4_code 68 = .ok (.if_icmp .lt 17, 3) := by decide +kernel
theorem own_d1_71 : decode prog_114_method_4_code 71 = .ok (.iload_n 0, 1) := by decide +kernel
theorem own_d1_72 : decode prog_114_method_4_code 72 = .ok (.sipush 8191, 3) := by decide +kernel
theorem own_d1_75 : decode prog_114_method_4_code 75 = .ok (.if_icmp .gt 10, 3) := by decide +kernel
theorem own_d1_78 : decode prog_114_method_4_code 78 = .ok (.iload_n 0, 1) := by decide +kernel
theorem own_d1_79 : decode prog_114_method_4_code 79 = .ok (.sipush 894, 3) := by decide +kernel
theorem own_d1_82 : decode prog_114_method_4_code 82 = .ok (.if_icmp .ne 82, 3) := by decide +kernel
theorem own_d1_85 : decode prog_114_method_4_code 85 = .ok (.iload_n 0, 1) := by decide +kernel
theorem own_d1_86 : decode prog_114_method_4_code 86 = .ok (.sipush 8204, 3) := by decide +kernel
theorem own_d1_89 : decode prog_114_method_4_code 89 = .ok (.if_icmp .lt 10, 3) := by decide +kernel
theorem own_d1_92 : decode prog_114_method_4_code 92 = .ok (.iload_n 0, 1) := by decide +kernel
theorem own_d1_93 : decode prog_114_method_4_code 93 = .ok (.sipush 8205, 3) := by decide +kernel
theorem own_d1_96 : decode prog_114_method_4_code 96 = .ok (.if_icmp .le 68, 3) := by decide +kernel
theorem own_d1_99 : decode prog_114_method_4_code 99 = .ok (.iload_n 0, 1) := by decide +kernel
theorem own_d1_100 : decode prog_114_method_4_code 100 = .ok (.sipush 8304, 3) := by decide +kernel
theorem own_d1_103 : decode prog_114_method_4_code 103 = .ok (.if_icmp .lt 10, 3) := by decide +kernel
theorem own_d1_106 : decode prog_114_method_4_code 106 = .ok (.iload_n 0, 1) := by decide +kernel
theorem own_d1_107 : decode prog_114_method_4_code 107 = .ok (.sipush 8591, 3) := by decide +kernel
theorem own_d1_110 : decode prog_114_method_4_code 110 = .ok (.if_icmp .le 54, 3) := by decide +kernel
theorem own_d1_113 : decode prog_114_method_4_code 113 = .ok (.iload_n 0, 1) := by decide +kernel
theorem own_d1_114 : decode prog_114_method_4_code 114 = .ok (.sipush 11264, 3) := by decide +kernel
theorem own_d1_117 : decode prog_114_method_4_code 117 = .ok (.if_icmp .lt 10, 3) := by decide +kernel
theorem own_d1_120 : decode prog_114_method_4_code 120 = .ok (.iload_n 0, 1) := by decide +kernel
theorem own_d1_121 : decode prog_114_method_4_code 121 = .ok (.sipush 12271, 3) := by decide +kernel
theorem own_d1_124 : decode prog_114_method_4_code 124 = .ok (.if_icmp .le 40, 3) := by decide +kernel
theorem own_d1_127 : decode prog_114_method_4_code 127 = .ok (.iload_n 0, 1) := by decide +kernel
theorem own_d1_128 : decode prog_114_method_4_code 128 = .ok (.sipush 12289, 3) := by decide +kernel
theorem own_d1_131 : decode prog_114_method_4_code 131 = .ok (.if_icmp .lt 9, 3) := by decide +kernel
theorem own_d1_134 : decode prog_114_method_4_code 134 = .ok (.iload_n 0, 1) := by decide +kernel
theorem own_d1_135 : decode prog_114_method_4_code 135 = .ok (.ldc 7, 2) := by decide +kernel
theorem own_d1_137 : decode prog_114_method_4_code 137 = .ok (.if_icmp .le 27, 3) := by decide +kernel
theorem own_d1_140 : decode prog_114_method_4_code 140 = .ok (.iload_n 0, 1) := by decide +kernel
theorem own_d1_141 : decode prog_114_method_4_code 141 = .ok (.ldc 12, 2) := by decide +kernel
theorem own_d1_143 : decode prog_114_method_4_code 143 = .ok (.if_icmp .lt 9, 3) := by decide +kernel
theorem own_d1_146 : decode prog_114_method_4_code 146 = .ok (.iload_n 0, 1) := by decide +kernel
theorem own_d1_147 : decode prog_114_method_4_code 147 = .ok (.ldc 13, 2) := by decide +kernel
theorem own_d1_149 : decode prog_114_method_4_code 149 = .ok (.if_icmp .le 15, 3) := by decide +kernel
theorem own_d1_152 : decode prog_114_method_4_code 152 = .ok (.iload_n 0, 1) := by decide +kernel
theorem own_d1_153 : decode prog_114_method_4_code 153 = .ok (.ldc 14, 2) := by decide +kernel
theorem own_d1_155 : decode prog_114_method_4_code 155 = .ok (.if_icmp .lt 13, 3) := by decide +kernel
theorem own_d1_158 : decode prog_114_method_4_code 158 = .ok (.iload_n 0, 1) := by decide +kernel
theorem own_d1_159 : decode prog_114_method_4_code 159 = .ok (.ldc 9, 2) := by decide +kernel
theorem own_d1_161 : decode prog_114_method_4_code 161 = .ok (.if_icmp .gt 7, 3) := by decide +kernel
theorem own_d1_164 : decode prog_114_method_4_code 164 = .ok (.iconst 1, 1) := by decide +kernel
theorem own_d1_165 : decode prog_114_method_4_code 165 = .ok (.goto 4, 3) := by decide +kernel
theorem own_d1_168 : decode prog_114_method_4_code 168 = .ok (.iconst 0, 1) := by decide +kernel
theorem own_d1_169 : decode prog_114_method_4_code 169 = .ok (.ireturn, 1) := by decide +kernel
theorem own_ef1 (x0 : Int32) : ∀ m, entryFrame m #[(.int x0)] 1 = mkF m 0 #[.val (.int x0)] [] := fun m => by first | (simp [entryFrame, mkF, argsToLocals, Value.category]; done) | rfl
def own_f1_164 (v0 : Int32) : Int32 := (1 : Int32)
set_option maxRecDepth 65536 in
theorem own_b1_164 {l : Launch} {p : Program} {e : Env} {below : List Frame} {s : State} {m : MethodId} {meth : Method} {c : Code} {Z : State} {a0 args : Array Value} {T : State} {h0 : Heap} (X : Stand p l e ({ frames := 0, cells := 0, slots := 0, locals := 0 } : Room) s m args below meth c T [] 0 0) (C : own_Ctx p s m meth c Z a0 tables_1 (⟨"com/example/where/where/parsing/XmlChars", "isNameStartChar", "(C)Z"⟩ : MethodName) prog_114_method_4_code 1 (some .boolean)) (hh : T.heap = h0) (v0 : Int32) :
    own_Fin p e below s (own_QP (some (.int (own_f1_164 v0))) h0) 0 0 (T.setTop (mkF m 164 #[.val (.int v0)] [])) := by
  obtain ⟨hx, hby, hml, hZ, hown, hnm, hret, hlk, hw⟩ := id C
  refine own_go (fun t => XS.iconst X.here hx rfl (hb hby own_d1_164)) ?_
  show own_Fin p e below s (own_QP (some (.int (own_f1_164 v0))) h0) 0 0 (T.setTop (mkF m 165 #[.val (.int v0)] [(.int (1 : Int32))]))
  refine own_go (fun t => XS.goto X.here hx rfl (pc0 := 165) (pc' := 169) rfl (hb hby own_d1_165) (by decide) (by decide)) ?_
  show own_Fin p e below s (own_QP (some (.int (own_f1_164 v0))) h0) 0 0 (T.setTop (mkF m 169 #[.val (.int v0)] [(.int (1 : Int32))]))
  exact own_ret X hlk hx (t := .boolean) hret rfl (Or.inl ⟨rfl, by simp, _, rfl⟩) (hb hby own_d1_169) ⟨rfl, rfl, hh⟩ (by decide) (by decide)
def own_f1_168 (v0 : Int32) : Int32 := (0 : Int32)
set_option maxRecDepth 65536 in
theorem own_b1_168 {l : Launch} {p : Program} {e : Env} {below : List Frame} {s : State} {m : MethodId} {meth : Method} {c : Code} {Z : State} {a0 args : Array Value} {T : State} {h0 : Heap} (X : Stand p l e ({ frames := 0, cells := 0, slots := 0, locals := 0 } : Room) s m args below meth c T [] 0 0) (C : own_Ctx p s m meth c Z a0 tables_1 (⟨"com/example/where/where/parsing/XmlChars", "isNameStartChar", "(C)Z"⟩ : MethodName) prog_114_method_4_code 1 (some .boolean)) (hh : T.heap = h0) (v0 : Int32) :
    own_Fin p e below s (own_QP (some (.int (own_f1_168 v0))) h0) 0 0 (T.setTop (mkF m 168 #[.val (.int v0)] [])) := by
  obtain ⟨hx, hby, hml, hZ, hown, hnm, hret, hlk, hw⟩ := id C
  refine own_go (fun t => XS.iconst X.here hx rfl (hb hby own_d1_168)) ?_
  show own_Fin p e below s (own_QP (some (.int (own_f1_168 v0))) h0) 0 0 (T.setTop (mkF m 169 #[.val (.int v0)] [(.int (0 : Int32))]))
  exact own_ret X hlk hx (t := .boolean) hret rfl (Or.inl ⟨rfl, by simp, _, rfl⟩) (hb hby own_d1_169) ⟨rfl, rfl, hh⟩ (by decide) (by decide)
def own_f1_158 (v0 : Int32) : Int32 := if (65533 : Int32) < v0 then (own_f1_168 v0) else (own_f1_164 v0)
set_option maxRecDepth 65536 in
theorem own_b1_158 {l : Launch} {p : Program} {e : Env} {below : List Frame} {s : State} {m : MethodId} {meth : Method} {c : Code} {Z : State} {a0 args : Array Value} {T : State} {h0 : Heap} (X : Stand p l e ({ frames := 0, cells := 0, slots := 0, locals := 0 } : Room) s m args below meth c T [] 0 0) (C : own_Ctx p s m meth c Z a0 tables_1 (⟨"com/example/where/where/parsing/XmlChars", "isNameStartChar", "(C)Z"⟩ : MethodName) prog_114_method_4_code 1 (some .boolean)) (hh : T.heap = h0) (v0 : Int32) :
    own_Fin p e below s (own_QP (some (.int (own_f1_158 v0))) h0) 0 0 (T.setTop (mkF m 158 #[.val (.int v0)] [])) := by
  obtain ⟨hx, hby, hml, hZ, hown, hnm, hret, hlk, hw⟩ := id C
  refine own_go (fun t => XS.iloadN X.here hx rfl (hb hby own_d1_158) rfl) ?_
  show own_Fin p e below s (own_QP (some (.int (own_f1_158 v0))) h0) 0 0 (T.setTop (mkF m 159 #[.val (.int v0)] [(.int v0)]))
  refine own_go (fun t => X.ldcInt hx hown (mvT hZ (hw _ (List.mem_of_getElem? (i := 14) rfl))) (g := (mkF m 159 #[.val (.int v0)] [(.int v0)])) rfl (hb hby own_d1_159) t) ?_
  show own_Fin p e below s (own_QP (some (.int (own_f1_158 v0))) h0) 0 0 (T.setTop (mkF m 161 #[.val (.int v0)] [(.int (65533 : Int32)), (.int v0)]))
  by_cases hq : (65533 : Int32) < v0
  · show own_Fin p e below s (own_QP (some (.int (own_f1_158 v0))) h0) 0 0 _
    rw [show (own_f1_158 v0) = (own_f1_168 v0) from if_pos hq]
    refine own_go (fun t => XS.icmpYes X.here hx rfl (pc0 := 161) (pc' := 168) rfl (hb hby own_d1_161) rfl (tlt hq).2.2.1 (by decide) (by decide)) ?_
    show own_Fin p e below s (own_QP (some (.int (own_f1_168 v0))) h0) 0 0 (T.setTop (mkF m 168 #[.val (.int v0)] []))
    exact own_b1_168 X C hh v0
  · show own_Fin p e below s (own_QP (some (.int (own_f1_158 v0))) h0) 0 0 _
    rw [show (own_f1_158 v0) = (own_f1_164 v0) from if_neg hq]
    refine own_go (fun t => XS.icmpNo X.here hx rfl (hb hby own_d1_161) rfl (flt hq).2.2.1) ?_
    show own_Fin p e below s (own_QP (some (.int (own_f1_164 v0))) h0) 0 0 (T.setTop (mkF m 164 #[.val (.int v0)] []))
    exact own_b1_164 X C hh v0
def own_f1_152 (v0 : Int32) : Int32 := if v0 < (65008 : Int32) then (own_f1_168 v0) else (own_f1_158 v0)
set_option maxRecDepth 65536 in
theorem own_b1_152 {l : Launch} {p : Program} {e : Env} {below : List Frame} {s : State} {m : MethodId} {meth : Method} {c : Code} {Z : State} {a0 args : Array Value} {T : State} {h0 : Heap} (X : Stand p l e ({ frames := 0, cells := 0, slots := 0, locals := 0 } : Room) s m args below meth c T [] 0 0) (C : own_Ctx p s m meth c Z a0 tables_1 (⟨"com/example/where/where/parsing/XmlChars", "isNameStartChar", "(C)Z"⟩ : MethodName) prog_114_method_4_code 1 (some .boolean)) (hh : T.heap = h0) (v0 : Int32) :
    own_Fin p e below s (own_QP (some (.int (own_f1_152 v0))) h0) 0 0 (T.setTop (mkF m 152 #[.val (.int v0)] [])) := by
  obtain ⟨hx, hby, hml, hZ, hown, hnm, hret, hlk, hw⟩ := id C
  refine own_go (fun t => XS.iloadN X.here hx rfl (hb hby own_d1_152) rfl) ?_
  show own_Fin p e below s (own_QP (some (.int (own_f1_152 v0))) h0) 0 0 (T.setTop (mkF m 153 #[.val (.int v0)] [(.int v0)]))
  refine own_go (fun t => X.ldcInt hx hown (mvT hZ (hw _ (List.mem_of_getElem? (i := 6) rfl))) (g := (mkF m 153 #[.val (.int v0)] [(.int v0)])) rfl (hb hby own_d1_153) t) ?_
  show own_Fin p e below s (own_QP (some (.int (own_f1_152 v0))) h0) 0 0 (T.setTop (mkF m 155 #[.val (.int v0)] [(.int (65008 : Int32)), (.int v0)]))
  by_cases hq : v0 < (65008 : Int32)
  · show own_Fin p e below s (own_QP (some (.int (own_f1_152 v0))) h0) 0 0 _
    rw [show (own_f1_152 v0) = (own_f1_168 v0) from if_pos hq]
    refine own_go (fun t => XS.icmpYes X.here hx rfl (pc0 := 155) (pc' := 168) rfl (hb hby own_d1_155) rfl (tlt hq).1 (by decide) (by decide)) ?_
    show own_Fin p e below s (own_QP (some (.int (own_f1_168 v0))) h0) 0 0 (T.setTop (mkF m 168 #[.val (.int v0)] []))
    exact own_b1_168 X C hh v0
  · show own_Fin p e below s (own_QP (some (.int (own_f1_152 v0))) h0) 0 0 _
    rw [show (own_f1_152 v0) = (own_f1_158 v0) from if_neg hq]
    refine own_go (fun t => XS.icmpNo X.here hx rfl (hb hby own_d1_155) rfl (flt hq).1) ?_
    show own_Fin p e below s (own_QP (some (.int (own_f1_158 v0))) h0) 0 0 (T.setTop (mkF m 158 #[.val (.int v0)] []))
    exact own_b1_158 X C hh v0
def own_f1_146 (v0 : Int32) : Int32 := if (64975 : Int32) < v0 then (own_f1_152 v0) else (own_f1_164 v0)
set_option maxRecDepth 65536 in
theorem own_b1_146 {l : Launch} {p : Program} {e : Env} {below : List Frame} {s : State} {m : MethodId} {meth : Method} {c : Code} {Z : State} {a0 args : Array Value} {T : State} {h0 : Heap} (X : Stand p l e ({ frames := 0, cells := 0, slots := 0, locals := 0 } : Room) s m args below meth c T [] 0 0) (C : own_Ctx p s m meth c Z a0 tables_1 (⟨"com/example/where/where/parsing/XmlChars", "isNameStartChar", "(C)Z"⟩ : MethodName) prog_114_method_4_code 1 (some .boolean)) (hh : T.heap = h0) (v0 : Int32) :
    own_Fin p e below s (own_QP (some (.int (own_f1_146 v0))) h0) 0 0 (T.setTop (mkF m 146 #[.val (.int v0)] [])) := by
  obtain ⟨hx, hby, hml, hZ, hown, hnm, hret, hlk, hw⟩ := id C
  refine own_go (fun t => XS.iloadN X.here hx rfl (hb hby own_d1_146) rfl) ?_
  show own_Fin p e below s (own_QP (some (.int (own_f1_146 v0))) h0) 0 0 (T.setTop (mkF m 147 #[.val (.int v0)] [(.int v0)]))
  refine own_go (fun t => X.ldcInt hx hown (mvT hZ (hw _ (List.mem_of_getElem? (i := 13) rfl))) (g := (mkF m 147 #[.val (.int v0)] [(.int v0)])) rfl (hb hby own_d1_147) t) ?_
  show own_Fin p e below s (own_QP (some (.int (own_f1_146 v0))) h0) 0 0 (T.setTop (mkF m 149 #[.val (.int v0)] [(.int (64975 : Int32)), (.int v0)]))
  by_cases hq : (64975 : Int32) < v0
  · show own_Fin p e below s (own_QP (some (.int (own_f1_146 v0))) h0) 0 0 _
    rw [show (own_f1_146 v0) = (own_f1_152 v0) from if_pos hq]
    refine own_go (fun t => XS.icmpNo X.here hx rfl (hb hby own_d1_149) rfl (tlt hq).2.2.2) ?_
    show own_Fin p e below s (own_QP (some (.int (own_f1_152 v0))) h0) 0 0 (T.setTop (mkF m 152 #[.val (.int v0)] []))
    exact own_b1_152 X C hh v0
  · show own_Fin p e below s (own_QP (some (.int (own_f1_146 v0))) h0) 0 0 _
    rw [show (own_f1_146 v0) = (own_f1_164 v0) from if_neg hq]
    refine own_go (fun t => XS.icmpYes X.here hx rfl (pc0 := 149) (pc' := 164) rfl (hb hby own_d1_149) rfl (flt hq).2.2.2 (by decide) (by decide)) ?_
    show own_Fin p e below s (own_QP (some (.int (own_f1_164 v0))) h0) 0 0 (T.setTop (mkF m 164 #[.val (.int v0)] []))
    exact own_b1_164 X C hh v0
def own_f1_140 (v0 : Int32) : Int32 := if v0 < (63744 : Int32) then (own_f1_152 v0) else (own_f1_146 v0)
set_option maxRecDepth 65536 in
theorem own_b1_140 {l : Launch} {p : Program} {e : Env} {below : List Frame} {s : State} {m : MethodId} {meth : Method} {c : Code} {Z : State} {a0 args : Array Value} {T : State} {h0 : Heap} (X : Stand p l e ({ frames := 0, cells := 0, slots := 0, locals := 0 } : Room) s m args below meth c T [] 0 0) (C : own_Ctx p s m meth c Z a0 tables_1 (⟨"com/example/where/where/parsing/XmlChars", "isNameStartChar", "(C)Z"⟩ : MethodName) prog_114_method_4_code 1 (some .boolean)) (hh : T.heap = h0) (v0 : Int32) :
    own_Fin p e below s (own_QP (some (.int (own_f1_140 v0))) h0) 0 0 (T.setTop (mkF m 140 #[.val (.int v0)] [])) := by
  obtain ⟨hx, hby, hml, hZ, hown, hnm, hret, hlk, hw⟩ := id C
  refine own_go (fun t => XS.iloadN X.here hx rfl (hb hby own_d1_140) rfl) ?_
  show own_Fin p e below s (own_QP (some (.int (own_f1_140 v0))) h0) 0 0 (T.setTop (mkF m 141 #[.val (.int v0)] [(.int v0)]))
  refine own_go (fun t => X.ldcInt hx hown (mvT hZ (hw _ (List.mem_of_getElem? (i := 5) rfl))) (g := (mkF m 141 #[.val (.int v0)] [(.int v0)])) rfl (hb hby own_d1_141) t) ?_
  show own_Fin p e below s (own_QP (some (.int (own_f1_140 v0))) h0) 0 0 (T.setTop (mkF m 143 #[.val (.int v0)] [(.int (63744 : Int32)), (.int v0)]))
  by_cases hq : v0 < (63744 : Int32)
  · show own_Fin p e below s (own_QP (some (.int (own_f1_140 v0))) h0) 0 0 _
    rw [show (own_f1_140 v0) = (own_f1_152 v0) from if_pos hq]
    refine own_go (fun t => XS.icmpYes X.here hx rfl (pc0 := 143) (pc' := 152) rfl (hb hby own_d1_143) rfl (tlt hq).1 (by decide) (by decide)) ?_
    show own_Fin p e below s (own_QP (some (.int (own_f1_152 v0))) h0) 0 0 (T.setTop (mkF m 152 #[.val (.int v0)] []))
    exact own_b1_152 X C hh v0
  · show own_Fin p e below s (own_QP (some (.int (own_f1_140 v0))) h0) 0 0 _
    rw [show (own_f1_140 v0) = (own_f1_146 v0) from if_neg hq]
    refine own_go (fun t => XS.icmpNo X.here hx rfl (hb hby own_d1_143) rfl (flt hq).1) ?_
    show own_Fin p e below s (own_QP (some (.int (own_f1_146 v0))) h0) 0 0 (T.setTop (mkF m 146 #[.val (.int v0)] []))
    exact own_b1_146 X C hh v0
def own_f1_134 (v0 : Int32) : Int32 := if (55295 : Int32) < v0 then (own_f1_140 v0) else (own_f1_164 v0)
set_option maxRecDepth 65536 in
theorem own_b1_134 {l : Launch} {p : Program} {e : Env} {below : List Frame} {s : State} {m : MethodId} {meth : Method} {c : Code} {Z : State} {a0 args : Array Value} {T : State} {h0 : Heap} (X : Stand p l e ({ frames := 0, cells := 0, slots := 0, locals := 0 } : Room) s m args below meth c T [] 0 0) (C : own_Ctx p s m meth c Z a0 tables_1 (⟨"com/example/where/where/parsing/XmlChars", "isNameStartChar", "(C)Z"⟩ : MethodName) prog_114_method_4_code 1 (some .boolean)) (hh : T.heap = h0) (v0 : Int32) :
    own_Fin p e below s (own_QP (some (.int (own_f1_134 v0))) h0) 0 0 (T.setTop (mkF m 134 #[.val (.int v0)] [])) := by
  obtain ⟨hx, hby, hml, hZ, hown, hnm, hret, hlk, hw⟩ := id C
  refine own_go (fun t => XS.iloadN X.here hx rfl (hb hby own_d1_134) rfl) ?_
  show own_Fin p e below s (own_QP (some (.int (own_f1_134 v0))) h0) 0 0 (T.setTop (mkF m 135 #[.val (.int v0)] [(.int v0)]))
  refine own_go (fun t => X.ldcInt hx hown (mvT hZ (hw _ (List.mem_of_getElem? (i := 11) rfl))) (g := (mkF m 135 #[.val (.int v0)] [(.int v0)])) rfl (hb hby own_d1_135) t) ?_
  show own_Fin p e below s (own_QP (some (.int (own_f1_134 v0))) h0) 0 0 (T.setTop (mkF m 137 #[.val (.int v0)] [(.int (55295 : Int32)), (.int v0)]))
  by_cases hq : (55295 : Int32) < v0
  · show own_Fin p e below s (own_QP (some (.int (own_f1_134 v0))) h0) 0 0 _
    rw [show (own_f1_134 v0) = (own_f1_140 v0) from if_pos hq]
    refine own_go (fun t => XS.icmpNo X.here hx rfl (hb hby own_d1_137) rfl (tlt hq).2.2.2) ?_
    show own_Fin p e below s (own_QP (some (.int (own_f1_140 v0))) h0) 0 0 (T.setTop (mkF m 140 #[.val (.int v0)] []))
    exact own_b1_140 X C hh v0
  · show own_Fin p e below s (own_QP (some (.int (own_f1_134 v0))) h0) 0 0 _
    rw [show (own_f1_134 v0) = (own_f1_164 v0) from if_neg hq]
    refine own_go (fun t => XS.icmpYes X.here hx rfl (pc0 := 137) (pc' := 164) rfl (hb hby own_d1_137) rfl (flt hq).2.2.2 (by decide) (by decide)) ?_
    show own_Fin p e below s (own_QP (some (.int (own_f1_164 v0))) h0) 0 0 (T.setTop (mkF m 164 #[.val (.int v0)] []))
    exact own_b1_164 X C hh v0
def own_f1_127 (v0 : Int32) : Int32 := if v0 < (12289 : Int32) then (own_f1_140 v0) else (own_f1_134 v0)
set_option maxRecDepth 65536 in
theorem own_b1_127 {l : Launch} {p : Program} {e : Env} {below : List Frame} {s : State} {m : MethodId} {meth : Method} {c : Code} {Z : State} {a0 args : Array Value} {T : State} {h0 : Heap} (X : Stand p l e ({ frames := 0, cells := 0, slots := 0, locals := 0 } : Room) s m args below meth c T [] 0 0) (C : own_Ctx p s m meth c Z a0 tables_1 (⟨"com/example/where/where/parsing/XmlChars", "isNameStartChar", "(C)Z"⟩ : MethodName) prog_114_method_4_code 1 (some .boolean)) (hh : T.heap = h0) (v0 : Int32) :
    own_Fin p e below s (own_QP (some (.int (own_f1_127 v0))) h0) 0 0 (T.setTop (mkF m 127 #[.val (.int v0)] [])) := by
  obtain ⟨hx, hby, hml, hZ, hown, hnm, hret, hlk, hw⟩ := id C
  refine own_go (fun t => XS.iloadN X.here hx rfl (hb hby own_d1_127) rfl) ?_
  show own_Fin p e below s (own_QP (some (.int (own_f1_127 v0))) h0) 0 0 (T.setTop (mkF m 128 #[.val (.int v0)] [(.int v0)]))
  refine own_go (fun t => XS.sipush X.here hx rfl (hb hby own_d1_128)) ?_
  show own_Fin p e below s (own_QP (some (.int (own_f1_127 v0))) h0) 0 0 (T.setTop (mkF m 131 #[.val (.int v0)] [(.int (12289 : Int32)), (.int v0)]))
  by_cases hq : v0 < (12289 : Int32)
  · show own_Fin p e below s (own_QP (some (.int (own_f1_127 v0))) h0) 0 0 _
    rw [show (own_f1_127 v0) = (own_f1_140 v0) from if_pos hq]
    refine own_go (fun t => XS.icmpYes X.here hx rfl (pc0 := 131) (pc' := 140) rfl (hb hby own_d1_131) rfl (tlt hq).1 (by decide) (by decide)) ?_
    show own_Fin p e below s (own_QP (some (.int (own_f1_140 v0))) h0) 0 0 (T.setTop (mkF m 140 #[.val (.int v0)] []))
    exact own_b1_140 X C hh v0
  · show own_Fin p e below s (own_QP (some (.int (own_f1_127 v0))) h0) 0 0 _
    rw [show (own_f1_127 v0) = (own_f1_134 v0) from if_neg hq]
    refine own_go (fun t => XS.icmpNo X.here hx rfl (hb hby own_d1_131) rfl (flt hq).1) ?_
    show own_Fin p e below s (own_QP (some (.int (own_f1_134 v0))) h0) 0 0 (T.setTop (mkF m 134 #[.val (.int v0)] []))
    exact own_b1_134 X C hh v0
def own_f1_120 (v0 : Int32) : Int32 := if (12271 : Int32) < v0 then (own_f1_127 v0) else (own_f1_164 v0)
set_option maxRecDepth 65536 in
theorem own_b1_120 {l : Launch} {p : Program} {e : Env} {below : List Frame} {s : State} {m : MethodId} {meth : Method} {c : Code} {Z : State} {a0 args : Array Value} {T : State} {h0 : Heap} (X : Stand p l e ({ frames := 0, cells := 0, slots := 0, locals := 0 } : Room) s m args below meth c T [] 0 0) (C : own_Ctx p s m meth c Z a0 tables_1 (⟨"com/example/where/where/parsing/XmlChars", "isNameStartChar", "(C)Z"⟩ : MethodName) prog_114_method_4_code 1 (some .boolean)) (hh : T.heap = h0) (v0 : Int32) :
    own_Fin p e below s (own_QP (some (.int (own_f1_120 v0))) h0) 0 0 (T.setTop (mkF m 120 #[.val (.int v0)] [])) := by
  obtain ⟨hx, hby, hml, hZ, hown, hnm, hret, hlk, hw⟩ := id C
  refine own_go (fun t => XS.iloadN X.here hx rfl (hb hby own_d1_120) rfl) ?_
  show own_Fin p e below s (own_QP (some (.int (own_f1_120 v0))) h0) 0 0 (T.setTop (mkF m 121 #[.val (.int v0)] [(.int v0)]))
  refine own_go (fun t => XS.sipush X.here hx rfl (hb hby own_d1_121)) ?_
  show own_Fin p e below s (own_QP (some (.int (own_f1_120 v0))) h0) 0 0 (T.setTop (mkF m 124 #[.val (.int v0)] [(.int (12271 : Int32)), (.int v0)]))
  by_cases hq : (12271 : Int32) < v0
  · show own_Fin p e below s (own_QP (some (.int (own_f1_120 v0))) h0) 0 0 _
    rw [show (own_f1_120 v0) = (own_f1_127 v0) from if_pos hq]
    refine own_go (fun t => XS.icmpNo X.here hx rfl (hb hby own_d1_124) rfl (tlt hq).2.2.2) ?_
    show own_Fin p e below s (own_QP (some (.int (own_f1_127 v0))) h0) 0 0 (T.setTop (mkF m 127 #[.val (.int v0)] []))
    exact own_b1_127 X C hh v0
  · show own_Fin p e below s (own_QP (some (.int (own_f1_120 v0))) h0) 0 0 _
    rw [show (own_f1_120 v0) = (own_f1_164 v0) from if_neg hq]
    refine own_go (fun t => XS.icmpYes X.here hx rfl (pc0 := 124) (pc' := 164) rfl (hb hby own_d1_124) rfl (flt hq).2.2.2 (by decide) (by decide)) ?_
    show own_Fin p e below s (own_QP (some (.int (own_f1_164 v0))) h0) 0 0 (T.setTop (mkF m 164 #[.val (.int v0)] []))
    exact own_b1_164 X C hh v0
def own_f1_113 (v0 : Int32) : Int32 := if v0 < (11264 : Int32) then (own_f1_127 v0) else (own_f1_120 v0)
set_option maxRecDepth 65536 in
theorem own_b1_113 {l : Launch} {p : Program} {e : Env} {below : List Frame} {s : State} {m : MethodId} {meth : Method} {c : Code} {Z : State} {a0 args : Array Value} {T : State} {h0 : Heap} (X : Stand p l e ({ frames := 0, cells := 0, slots := 0, locals := 0 } : Room) s m args below meth c T [] 0 0) (C : own_Ctx p s m meth c Z a0 tables_1 (⟨"com/example/where/where/parsing/XmlChars", "isNameStartChar", "(C)Z"⟩ : MethodName) prog_114_method_4_code 1 (some .boolean)) (hh : T.heap = h0) (v0 : Int32) :
    own_Fin p e below s (own_QP (some (.int (own_f1_113 v0))) h0) 0 0 (T.setTop (mkF m 113 #[.val (.int v0)] [])) := by
  obtain ⟨hx, hby, hml, hZ, hown, hnm, hret, hlk, hw⟩ := id C
  refine own_go (fun t => XS.iloadN X.here hx rfl (hb hby own_d1_113) rfl) ?_
  show own_Fin p e below s (own_QP (some (.int (own_f1_113 v0))) h0) 0 0 (T.setTop (mkF m 114 #[.val (.int v0)] [(.int v0)]))
  refine own_go (fun t => XS.sipush X.here hx rfl (hb hby own_d1_114)) ?_
  show own_Fin p e below s (own_QP (some (.int (own_f1_113 v0))) h0) 0 0 (T.setTop (mkF m 117 #[.val (.int v0)] [(.int (11264 : Int32)), (.int v0)]))
  by_cases hq : v0 < (11264 : Int32)
  · show own_Fin p e below s (own_QP (some (.int (own_f1_113 v0))) h0) 0 0 _
    rw [show (own_f1_113 v0) = (own_f1_127 v0) from if_pos hq]
    refine own_go (fun t => XS.icmpYes X.here hx rfl (pc0 := 117) (pc' := 127) rfl (hb hby own_d1_117) rfl (tlt hq).1 (by decide) (by decide)) ?_
    show own_Fin p e below s (own_QP (some (.int (own_f1_127 v0))) h0) 0 0 (T.setTop (mkF m 127 #[.val (.int v0)] []))
    exact own_b1_127 X C hh v0
  · show own_Fin p e below s (own_QP (some (.int (own_f1_113 v0))) h0) 0 0 _
    rw [show (own_f1_113 v0) = (own_f1_120 v0) from if_neg hq]
    refine own_go (fun t => XS.icmpNo X.here hx rfl (hb hby own_d1_117) rfl (flt hq).1) ?_
    show own_Fin p e below s (own_QP (some (.int (own_f1_120 v0))) h0) 0 0 (T.setTop (mkF m 120 #[.val (.int v0)] []))
    exact own_b1_120 X C hh v0
def own_f1_106 (v0 : Int32) : Int32 := if (8591 : Int32) < v0 then (own_f1_113 v0) else (own_f1_164 v0)
set_option maxRecDepth 65536 in
theorem own_b1_106 {l : Launch} {p : Program} {e : Env} {below : List Frame} {s : State} {m : MethodId} {meth : Method} {c : Code} {Z : State} {a0 args : Array Value} {T : State} {h0 : Heap} (X : Stand p l e ({ frames := 0, cells := 0, slots := 0, locals := 0 } : Room) s m args below meth c T [] 0 0) (C : own_Ctx p s m meth c Z a0 tables_1 (⟨"com/example/where/where/parsing/XmlChars", "isNameStartChar", "(C)Z"⟩ : MethodName) prog_114_method_4_code 1 (some .boolean)) (hh : T.heap = h0) (v0 : Int32) :
    own_Fin p e below s (own_QP (some (.int (own_f1_106 v0))) h0) 0 0 (T.setTop (mkF m 106 #[.val (.int v0)] [])) := by
  obtain ⟨hx, hby, hml, hZ, hown, hnm, hret, hlk, hw⟩ := id C
  refine own_go (fun t => XS.iloadN X.here hx rfl (hb hby own_d1_106) rfl) ?_
  show own_Fin p e below s (own_QP (some (.int (own_f1_106 v0))) h0) 0 0 (T.setTop (mkF m 107 #[.val (.int v0)] [(.int v0)]))
  refine own_go (fun t => XS.sipush X.here hx rfl (hb hby own_d1_107)) ?_
  show own_Fin p e below s (own_QP (some (.int (own_f1_106 v0))) h0) 0 0 (T.setTop (mkF m 110 #[.val (.int v0)] [(.int (8591 : Int32)), (.int v0)]))
  by_cases hq : (8591 : Int32) < v0
  · show own_Fin p e below s (own_QP (some (.int (own_f1_106 v0))) h0) 0 0 _
    rw [show (own_f1_106 v0) = (own_f1_113 v0) from if_pos hq]
    refine own_go (fun t => XS.icmpNo X.here hx rfl (hb hby own_d1_110) rfl (tlt hq).2.2.2) ?_
    show own_Fin p e below s (own_QP (some (.int (own_f1_113 v0))) h0) 0 0 (T.setTop (mkF m 113 #[.val (.int v0)] []))
    exact own_b1_113 X C hh v0
  · show own_Fin p e below s (own_QP (some (.int (own_f1_106 v0))) h0) 0 0 _
    rw [show (own_f1_106 v0) = (own_f1_164 v0) from if_neg hq]
    refine own_go (fun t => XS.icmpYes X.here hx rfl (pc0 := 110) (pc' := 164) rfl (hb hby own_d1_110) rfl (flt hq).2.2.2 (by decide) (by decide)) ?_
    show own_Fin p e below s (own_QP (some (.int (own_f1_164 v0))) h0) 0 0 (T.setTop (mkF m 164 #[.val (.int v0)] []))
    exact own_b1_164 X C hh v0
def own_f1_99 (v0 : Int32) : Int32 := if v0 < (8304 : Int32) then (own_f1_113 v0) else (own_f1_106 v0)
set_option maxRecDepth 65536 in
theorem own_b1_99 {l : Launch} {p : Program} {e : Env} {below : List Frame} {s : State} {m : MethodId} {meth : Method} {c : Code} {Z : State} {a0 args : Array Value} {T : State} {h0 : Heap} (X : Stand p l e ({ frames := 0, cells := 0, slots := 0, locals := 0 } : Room) s m args below meth c T [] 0 0) (C : own_Ctx p s m meth c Z a0 tables_1 (⟨"com/example/where/where/parsing/XmlChars", "isNameStartChar", "(C)Z"⟩ : MethodName) prog_114_method_4_code 1 (some .boolean)) (hh : T.heap = h0) (v0 : Int32) :
    own_Fin p e below s (own_QP (some (.int (own_f1_99 v0))) h0) 0 0 (T.setTop (mkF m 99 #[.val (.int v0)] [])) := by
  obtain ⟨hx, hby, hml, hZ, hown, hnm, hret, hlk, hw⟩ := id C
  refine own_go (fun t => XS.iloadN X.here hx rfl (hb hby own_d1_99) rfl) ?_
  show own_Fin p e below s (own_QP (some (.int (own_f1_99 v0))) h0) 0 0 (T.setTop (mkF m 100 #[.val (.int v0)] [(.int v0)]))
  refine own_go (fun t => XS.sipush X.here hx rfl (hb hby own_d1_100)) ?_
  show own_Fin p e below s (own_QP (some (.int (own_f1_99 v0))) h0) 0 0 (T.setTop (mkF m 103 #[.val (.int v0)] [(.int (8304 : Int32)), (.int v0)]))
  by_cases hq : v0 < (8304 : Int32)
  · show own_Fin p e below s (own_QP (some (.int (own_f1_99 v0))) h0) 0 0 _
    rw [show (own_f1_99 v0) = (own_f1_113 v0) from if_pos hq]
    refine own_go (fun t => XS.icmpYes X.here hx rfl (pc0 := 103) (pc' := 113) rfl (hb hby own_d1_103) rfl (tlt hq).1 (by decide) (by decide)) ?_
    show own_Fin p e below s (own_QP (some (.int (own_f1_113 v0))) h0) 0 0 (T.setTop (mkF m 113 #[.val (.int v0)] []))
    exact own_b1_113 X C hh v0
  · show own_Fin p e below s (own_QP (some (.int (own_f1_99 v0))) h0) 0 0 _
    rw [show (own_f1_99 v0) = (own_f1_106 v0) from if_neg hq]
    refine own_go (fun t => XS.icmpNo X.here hx rfl (hb hby own_d1_103) rfl (flt hq).1) ?_
    show own_Fin p e below s (own_QP (some (.int (own_f1_106 v0))) h0) 0 0 (T.setTop (mkF m 106 #[.val (.int v0)] []))
    exact own_b1_106 X C hh v0
def own_f1_92 (v0 : Int32) : Int32 := if (8205 : Int32) < v0 then (own_f1_99 v0) else (own_f1_164 v0)
set_option maxRecDepth 65536 in
theorem own_b1_92 {l : Launch} {p : Program} {e : Env} {below : List Frame} {s : State} {m : MethodId} {meth : Method} {c : Code} {Z : State} {a0 args : Array Value} {T : State} {h0 : Heap} (X : Stand p l e ({ frames := 0, cells := 0, slots := 0, locals := 0 } : Room) s m args below meth c T [] 0 0) (C : own_Ctx p s m meth c Z a0 tables_1 (⟨"com/example/where/where/parsing/XmlChars", "isNameStartChar", "(C)Z"⟩ : MethodName) prog_114_method_4_code 1 (some .boolean)) (hh : T.heap = h0) (v0 : Int32) :
    own_Fin p e below s (own_QP (some (.int (own_f1_92 v0))) h0) 0 0 (T.setTop (mkF m 92 #[.val (.int v0)] [])) := by
  obtain ⟨hx, hby, hml, hZ, hown, hnm, hret, hlk, hw⟩ := id C
  refine own_go (fun t => XS.iloadN X.here hx rfl (hb hby own_d1_92) rfl) ?_
  show own_Fin p e below s (own_QP (some (.int (own_f1_92 v0))) h0) 0 0 (T.setTop (mkF m 93 #[.val (.int v0)] [(.int v0)]))
  refine own_go (fun t => XS.sipush X.here hx rfl (hb hby own_d1_93)) ?_
  show own_Fin p e below s (own_QP (some (.int (own_f1_92 v0))) h0) 0 0 (T.setTop (mkF m 96 #[.val (.int v0)] [(.int (8205 : Int32)), (.int v0)]))
  by_cases hq : (8205 : Int32) < v0
  · show own_Fin p e below s (own_QP (some (.int (own_f1_92 v0))) h0) 0 0 _
    rw [show (own_f1_92 v0) = (own_f1_99 v0) from if_pos hq]
    refine own_go (fun t => XS.icmpNo X.here hx rfl (hb hby own_d1_96) rfl (tlt hq).2.2.2) ?_
    show own_Fin p e below s (own_QP (some (.int (own_f1_99 v0))) h0) 0 0 (T.setTop (mkF m 99 #[.val (.int v0)] []))
    exact own_b1_99 X C hh v0
  · show own_Fin p e below s (own_QP (some (.int (own_f1_92 v0))) h0) 0 0 _
    rw [show (own_f1_92 v0) = (own_f1_164 v0) from if_neg hq]
    refine own_go (fun t => XS.icmpYes X.here hx rfl (pc0 := 96) (pc' := 164) rfl (hb hby own_d1_96) rfl (flt hq).2.2.2 (by decide) (by decide)) ?_
    show own_Fin p e below s (own_QP (some (.int (own_f1_164 v0))) h0) 0 0 (T.setTop (mkF m 164 #[.val (.int v0)] []))
    exact own_b1_164 X C hh v0
def own_f1_85 (v0 : Int32) : Int32 := if v0 < (8204 : Int32) then (own_f1_99 v0) else (own_f1_92 v0)
set_option maxRecDepth 65536 in
theorem own_b1_85 {l : Launch} {p : Program} {e : Env} {below : List Frame} {s : State} {m : MethodId} {meth : Method} {c : Code} {Z : State} {a0 args : Array Value} {T : State} {h0 : Heap} (X : Stand p l e ({ frames := 0, cells := 0, slots := 0, locals := 0 } : Room) s m args below meth c T [] 0 0) (C : own_Ctx p s m meth c Z a0 tables_1 (⟨"com/example/where/where/parsing/XmlChars", "isNameStartChar", "(C)Z"⟩ : MethodName) prog_114_method_4_code 1 (some .boolean)) (hh : T.heap = h0) (v0 : Int32) :
    own_Fin p e below s (own_QP (some (.int (own_f1_85 v0))) h0) 0 0 (T.setTop (mkF m 85 #[.val (.int v0)] [])) := by
  obtain ⟨hx, hby, hml, hZ, hown, hnm, hret, hlk, hw⟩ := id C
  refine own_go (fun t => XS.iloadN X.here hx rfl (hb hby own_d1_85) rfl) ?_
  show own_Fin p e below s (own_QP (some (.int (own_f1_85 v0))) h0) 0 0 (T.setTop (mkF m 86 #[.val (.int v0)] [(.int v0)]))
  refine own_go (fun t => XS.sipush X.here hx rfl (hb hby own_d1_86)) ?_
  show own_Fin p e below s (own_QP (some (.int (own_f1_85 v0))) h0) 0 0 (T.setTop (mkF m 89 #[.val (.int v0)] [(.int (8204 : Int32)), (.int v0)]))
  by_cases hq : v0 < (8204 : Int32)
  · show own_Fin p e below s (own_QP (some (.int (own_f1_85 v0))) h0) 0 0 _
    rw [show (own_f1_85 v0) = (own_f1_99 v0) from if_pos hq]
    refine own_go (fun t => XS.icmpYes X.here hx rfl (pc0 := 89) (pc' := 99) rfl (hb hby own_d1_89) rfl (tlt hq).1 (by decide) (by decide)) ?_
    show own_Fin p e below s (own_QP (some (.int (own_f1_99 v0))) h0) 0 0 (T.setTop (mkF m 99 #[.val (.int v0)] []))
    exact own_b1_99 X C hh v0
  · show own_Fin p e below s (own_QP (some (.int (own_f1_85 v0))) h0) 0 0 _
    rw [show (own_f1_85 v0) = (own_f1_92 v0) from if_neg hq]
    refine own_go (fun t => XS.icmpNo X.here hx rfl (hb hby own_d1_89) rfl (flt hq).1) ?_
    show own_Fin p e below s (own_QP (some (.int (own_f1_92 v0))) h0) 0 0 (T.setTop (mkF m 92 #[.val (.int v0)] []))
    exact own_b1_92 X C hh v0
def own_f1_78 (v0 : Int32) : Int32 := if v0 = (894 : Int32) then (own_f1_85 v0) else (own_f1_164 v0)
set_option maxRecDepth 65536 in
theorem own_b1_78 {l : Launch} {p : Program} {e : Env} {below : List Frame} {s : State} {m : MethodId} {meth : Method} {c : Code} {Z : State} {a0 args : Array Value} {T : State} {h0 : Heap} (X : Stand p l e ({ frames := 0, cells := 0, slots := 0, locals := 0 } : Room) s m args below meth c T [] 0 0) (C : own_Ctx p s m meth c Z a0 tables_1 (⟨"com/example/where/where/parsing/XmlChars", "isNameStartChar", "(C)Z"⟩ : MethodName) prog_114_method_4_code 1 (some .boolean)) (hh : T.heap = h0) (v0 : Int32) :
    own_Fin p e below s (own_QP (some (.int (own_f1_78 v0))) h0) 0 0 (T.setTop (mkF m 78 #[.val (.int v0)] [])) := by
  obtain ⟨hx, hby, hml, hZ, hown, hnm, hret, hlk, hw⟩ := id C
  refine own_go (fun t => XS.iloadN X.here hx rfl (hb hby own_d1_78) rfl) ?_
  show own_Fin p e below s (own_QP (some (.int (own_f1_78 v0))) h0) 0 0 (T.setTop (mkF m 79 #[.val (.int v0)] [(.int v0)]))
  refine own_go (fun t => XS.sipush X.here hx rfl (hb hby own_d1_79)) ?_
  show own_Fin p e below s (own_QP (some (.int (own_f1_78 v0))) h0) 0 0 (T.setTop (mkF m 82 #[.val (.int v0)] [(.int (894 : Int32)), (.int v0)]))
  by_cases hq : v0 = (894 : Int32)
  · show own_Fin p e below s (own_QP (some (.int (own_f1_78 v0))) h0) 0 0 _
    rw [show (own_f1_78 v0) = (own_f1_85 v0) from if_pos hq]
    refine own_go (fun t => XS.icmpNo X.here hx rfl (hb hby own_d1_82) rfl (teq hq).2) ?_
    show own_Fin p e below s (own_QP (some (.int (own_f1_85 v0))) h0) 0 0 (T.setTop (mkF m 85 #[.val (.int v0)] []))
    exact own_b1_85 X C hh v0
  · show own_Fin p e below s (own_QP (some (.int (own_f1_78 v0))) h0) 0 0 _
    rw [show (own_f1_78 v0) = (own_f1_164 v0) from if_neg hq]
    refine own_go (fun t => XS.icmpYes X.here hx rfl (pc0 := 82) (pc' := 164) rfl (hb hby own_d1_82) rfl (feq hq).2 (by decide) (by decide)) ?_
    show own_Fin p e below s (own_QP (some (.int (own_f1_164 v0))) h0) 0 0 (T.setTop (mkF m 164 #[.val (.int v0)] []))
    exact own_b1_164 X C hh v0
def own_f1_71 (v0 : Int32) : Int32 := if (8191 : Int32) < v0 then (own_f1_85 v0) else (own_f1_78 v0)
set_option maxRecDepth 65536 in
theorem own_b1_71 {l : Launch} {p : Program} {e : Env} {below : List Frame} {s : State} {m : MethodId} {meth : Method} {c : Code} {Z : State} {a0 args : Array Value} {T : State} {h0 : Heap} (X : Stand p l e ({ frames := 0, cells := 0, slots := 0, locals := 0 } : Room) s m args below meth c T [] 0 0) (C : own_Ctx p s m meth c Z a0 tables_1 (⟨"com/example/where/where/parsing/XmlChars", "isNameStartChar", "(C)Z"⟩ : MethodName) prog_114_method_4_code 1 (some .boolean)) (hh : T.heap = h0) (v0 : Int32) :
    own_Fin p e below s (own_QP (some (.int (own_f1_71 v0))) h0) 0 0 (T.setTop (mkF m 71 #[.val (.int v0)] [])) := by
  obtain ⟨hx, hby, hml, hZ, hown, hnm, hret, hlk, hw⟩ := id C
  refine own_go (fun t => XS.iloadN X.here hx rfl (hb hby own_d1_71) rfl) ?_
  show own_Fin p e below s (own_QP (some (.int (own_f1_71 v0))) h0) 0 0 (T.setTop (mkF m 72 #[.val (.int v0)] [(.int v0)]))
  refine own_go (fun t => XS.sipush X.here hx rfl (hb hby own_d1_72)) ?_
  show own_Fin p e below s (own_QP (some (.int (own_f1_71 v0))) h0) 0 0 (T.setTop (mkF m 75 #[.val (.int v0)] [(.int (8191 : Int32)), (.int v0)]))
  by_cases hq : (8191 : Int32) < v0
  · show own_Fin p e below s (own_QP (some (.int (own_f1_71 v0))) h0) 0 0 _
    rw [show (own_f1_71 v0) = (own_f1_85 v0) from if_pos hq]
    refine own_go (fun t => XS.icmpYes X.here hx rfl (pc0 := 75) (pc' := 85) rfl (hb hby own_d1_75) rfl (tlt hq).2.2.1 (by decide) (by decide)) ?_
    show own_Fin p e below s (own_QP (some (.int (own_f1_85 v0))) h0) 0 0 (T.setTop (mkF m 85 #[.val (.int v0)] []))
    exact own_b1_85 X C hh v0
  · show own_Fin p e below s (own_QP (some (.int (own_f1_71 v0))) h0) 0 0 _
    rw [show (own_f1_71 v0) = (own_f1_78 v0) from if_neg hq]
    refine own_go (fun t => XS.icmpNo X.here hx rfl (hb hby own_d1_75) rfl (flt hq).2.2.1) ?_
    show own_Fin p e below s (own_QP (some (.int (own_f1_78 v0))) h0) 0 0 (T.setTop (mkF m 78 #[.val (.int v0)] []))
    exact own_b1_78 X C hh v0
def own_f1_64 (v0 : Int32) : Int32 := if v0 < (880 : Int32) then (own_f1_85 v0) else (own_f1_71 v0)
set_option maxRecDepth 65536 in
theorem own_b1_64 {l : Launch} {p : Program} {e : Env} {below : List Frame} {s : State} {m : MethodId} {meth : Method} {c : Code} {Z : State} {a0 args : Array Value} {T : State} {h0 : Heap} (X : Stand p l e ({ frames := 0, cells := 0, slots := 0, locals := 0 } : Room) s m args below meth c T [] 0 0) (C : own_Ctx p s m meth c Z a0 tables_1 (⟨"com/example/where/where/parsing/XmlChars", "isNameStartChar", "(C)Z"⟩ : MethodName) prog_114_method_4_code 1 (some .boolean)) (hh : T.heap = h0) (v0 : Int32) :
    own_Fin p e below s (own_QP (some (.int (own_f1_64 v0))) h0) 0 0 (T.setTop (mkF m 64 #[.val (.int v0)] [])) := by
  obtain ⟨hx, hby, hml, hZ, hown, hnm, hret, hlk, hw⟩ := id C
  refine own_go (fun t => XS.iloadN X.here hx rfl (hb hby own_d1_64) rfl) ?_
  show own_Fin p e below s (own_QP (some (.int (own_f1_64 v0))) h0) 0 0 (T.setTop (mkF m 65 #[.val (.int v0)] [(.int v0)]))
  refine own_go (fun t => XS.sipush X.here hx rfl (hb hby own_d1_65)) ?_
  show own_Fin p e below s (own_QP (some (.int (own_f1_64 v0))) h0) 0 0 (T.setTop (mkF m 68 #[.val (.int v0)] [(.int (880 : Int32)), (.int v0)]))
  by_cases hq : v0 < (880 : Int32)
  · show own_Fin p e below s (own_QP (some (.int (own_f1_64 v0))) h0) 0 0 _
    rw [show (own_f1_64 v0) = (own_f1_85 v0) from if_pos hq]
    refine own_go (fun t => XS.icmpYes X.here hx rfl (pc0 := 68) (pc' := 85) rfl (hb hby own_d1_68) rfl (tlt hq).1 (by decide) (by decide)) ?_
    show own_Fin p e below s (own_QP (some (.int (own_f1_85 v0))) h0) 0 0 (T.setTop (mkF m 85 #[.val (.int v0)] []))
    exact own_b1_85 X C hh v0
  · show own_Fin p e below s (own_QP (some (.int (own_f1_64 v0))) h0) 0 0 _
    rw [show (own_f1_64 v0) = (own_f1_71 v0) from if_neg hq]
    refine own_go (fun t => XS.icmpNo X.here hx rfl (hb hby own_d1_68) rfl (flt hq).1) ?_
    show own_Fin p e below s (own_QP (some (.int (own_f1_71 v0))) h0) 0 0 (T.setTop (mkF m 71 #[.val (.int v0)] []))
    exact own_b1_71 X C hh v0
def own_f1_57 (v0 : Int32) : Int32 := if v0 = (247 : Int32) then (own_f1_64 v0) else (own_f1_164 v0)
set_option maxRecDepth 65536 in
theorem own_b1_57 {l : Launch} {p : Program} {e : Env} {below : List Frame} {s : State} {m : MethodId} {meth : Method} {c : Code} {Z : State} {a0 args : Array Value} {T : State} {h0 : Heap} (X : Stand p l e ({ frames := 0, cells := 0, slots := 0, locals := 0 } : Room) s m args below meth c T [] 0 0) (C : own_Ctx p s m meth c Z a0 tables_1 (⟨"com/example/where/where/parsing/XmlChars", "isNameStartChar", "(C)Z"⟩ : MethodName) prog_114_method_4_code 1 (some .boolean)) (hh : T.heap = h0) (v0 : Int32) :
    own_Fin p e below s (own_QP (some (.int (own_f1_57 v0))) h0) 0 0 (T.setTop (mkF m 57 #[.val (.int v0)] [])) := by
  obtain ⟨hx, hby, hml, hZ, hown, hnm, hret, hlk, hw⟩ := id C
  refine own_go (fun t => XS.iloadN X.here hx rfl (hb hby own_d1_57) rfl) ?_
  show own_Fin p e below s (own_QP (some (.int (own_f1_57 v0))) h0) 0 0 (T.setTop (mkF m 58 #[.val (.int v0)] [(.int v0)]))
  refine own_go (fun t => XS.sipush X.here hx rfl (hb hby own_d1_58)) ?_
  show own_Fin p e below s (own_QP (some (.int (own_f1_57 v0))) h0) 0 0 (T.setTop (mkF m 61 #[.val (.int v0)] [(.int (247 : Int32)), (.int v0)]))
  by_cases hq : v0 = (247 : Int32)
  · show own_Fin p e below s (own_QP (some (.int (own_f1_57 v0))) h0) 0 0 _
    rw [show (own_f1_57 v0) = (own_f1_64 v0) from if_pos hq]
    refine own_go (fun t => XS.icmpNo X.here hx rfl (hb hby own_d1_61) rfl (teq hq).2) ?_
    show own_Fin p e below s (own_QP (some (.int (own_f1_64 v0))) h0) 0 0 (T.setTop (mkF m 64 #[.val (.int v0)] []))
    exact own_b1_64 X C hh v0
  · show own_Fin p e below s (own_QP (some (.int (own_f1_57 v0))) h0) 0 0 _
    rw [show (own_f1_57 v0) = (own_f1_164 v0) from if_neg hq]
    refine own_go (fun t => XS.icmpYes X.here hx rfl (pc0 := 61) (pc' := 164) rfl (hb hby own_d1_61) rfl (feq hq).2 (by decide) (by decide)) ?_
    show own_Fin p e below s (own_QP (some (.int (own_f1_164 v0))) h0) 0 0 (T.setTop (mkF m 164 #[.val (.int v0)] []))
    exact own_b1_164 X C hh v0
def own_f1_50 (v0 : Int32) : Int32 := if v0 = (215 : Int32) then (own_f1_64 v0) else (own_f1_57 v0)
set_option maxRecDepth 65536 in
theorem own_b1_50 {l : Launch} {p : Program} {e : Env} {below : List Frame} {s : State} {m : MethodId} {meth : Method} {c : Code} {Z : State} {a0 args : Array Value} {T : State} {h0 : Heap} (X : Stand p l e ({ frames := 0, cells := 0, slots := 0, locals := 0 } : Room) s m args below meth c T [] 0 0) (C : own_Ctx p s m meth c Z a0 tables_1 (⟨"com/example/where/where/parsing/XmlChars", "isNameStartChar", "(C)Z"⟩ : MethodName) prog_114_method_4_code 1 (some .boolean)) (hh : T.heap = h0) (v0 : Int32) :
    own_Fin p e below s (own_QP (some (.int (own_f1_50 v0))) h0) 0 0 (T.setTop (mkF m 50 #[.val (.int v0)] [])) := by
  obtain ⟨hx, hby, hml, hZ, hown, hnm, hret, hlk, hw⟩ := id C
  refine own_go (fun t => XS.iloadN X.here hx rfl (hb hby own_d1_50) rfl) ?_
  show own_Fin p e below s (own_QP (some (.int (own_f1_50 v0))) h0) 0 0 (T.setTop (mkF m 51 #[.val (.int v0)] [(.int v0)]))
  refine own_go (fun t => XS.sipush X.here hx rfl (hb hby own_d1_51)) ?_
  show own_Fin p e below s (own_QP (some (.int (own_f1_50 v0))) h0) 0 0 (T.setTop (mkF m 54 #[.val (.int v0)] [(.int (215 : Int32)), (.int v0)]))
  by_cases hq : v0 = (215 : Int32)
  · show own_Fin p e below s (own_QP (some (.int (own_f1_50 v0))) h0) 0 0 _
    rw [show (own_f1_50 v0) = (own_f1_64 v0) from if_pos hq]
    refine own_go (fun t => XS.icmpYes X.here hx rfl (pc0 := 54) (pc' := 64) rfl (hb hby own_d1_54) rfl (teq hq).1 (by decide) (by decide)) ?_
    show own_Fin p e below s (own_QP (some (.int (own_f1_64 v0))) h0) 0 0 (T.setTop (mkF m 64 #[.val (.int v0)] []))
    exact own_b1_64 X C hh v0
  · show own_Fin p e below s (own_QP (some (.int (own_f1_50 v0))) h0) 0 0 _
    rw [show (own_f1_50 v0) = (own_f1_57 v0) from if_neg hq]
    refine own_go (fun t => XS.icmpNo X.here hx rfl (hb hby own_d1_54) rfl (feq hq).1) ?_
    show own_Fin p e below s (own_QP (some (.int (own_f1_57 v0))) h0) 0 0 (T.setTop (mkF m 57 #[.val (.int v0)] []))
    exact own_b1_57 X C hh v0
def own_f1_43 (v0 : Int32) : Int32 := if (767 : Int32) < v0 then (own_f1_64 v0) else (own_f1_50 v0)
set_option maxRecDepth 65536 in
theorem own_b1_43 {l : Launch} {p : Program} {e : Env} {below : List Frame} {s : State} {m : MethodId} {meth : Method} {c : Code} {Z : State} {a0 args : Array Value} {T : State} {h0 : Heap} (X : Stand p l e ({ frames := 0, cells := 0, slots := 0, locals := 0 } : Room) s m args below meth c T [] 0 0) (C : own_Ctx p s m meth c Z a0 tables_1 (⟨"com/example/where/where/parsing/XmlChars", "isNameStartChar", "(C)Z"⟩ : MethodName) prog_114_method_4_code 1 (some .boolean)) (hh : T.heap = h0) (v0 : Int32) :
    own_Fin p e below s (own_QP (some (.int (own_f1_43 v0))) h0) 0 0 (T.setTop (mkF m 43 #[.val (.int v0)] [])) := by
  obtain ⟨hx, hby, hml, hZ, hown, hnm, hret, hlk, hw⟩ := id C
  refine own_go (fun t => XS.iloadN X.here hx rfl (hb hby own_d1_43) rfl) ?_
  show own_Fin p e below s (own_QP (some (.int (own_f1_43 v0))) h0) 0 0 (T.setTop (mkF m 44 #[.val (.int v0)] [(.int v0)]))
  refine own_go (fun t => XS.sipush X.here hx rfl (hb hby own_d1_44)) ?_
  show own_Fin p e below s (own_QP (some (.int (own_f1_43 v0))) h0) 0 0 (T.setTop (mkF m 47 #[.val (.int v0)] [(.int (767 : Int32)), (.int v0)]))
  by_cases hq : (767 : Int32) < v0
  · show own_Fin p e below s (own_QP (some (.int (own_f1_43 v0))) h0) 0 0 _
    rw [show (own_f1_43 v0) = (own_f1_64 v0) from if_pos hq]
    refine own_go (fun t => XS.icmpYes X.here hx rfl (pc0 := 47) (pc' := 64) rfl (hb hby own_d1_47) rfl (tlt hq).2.2.1 (by decide) (by decide)) ?_
    show own_Fin p e below s (own_QP (some (.int (own_f1_64 v0))) h0) 0 0 (T.setTop (mkF m 64 #[.val (.int v0)] []))
    exact own_b1_64 X C hh v0
  · show own_Fin p e below s (own_QP (some (.int (own_f1_43 v0))) h0) 0 0 _
    rw [show (own_f1_43 v0) = (own_f1_50 v0) from if_neg hq]
    refine own_go (fun t => XS.icmpNo X.here hx rfl (hb hby own_d1_47) rfl (flt hq).2.2.1) ?_
    show own_Fin p e below s (own_QP (some (.int (own_f1_50 v0))) h0) 0 0 (T.setTop (mkF m 50 #[.val (.int v0)] []))
    exact own_b1_50 X C hh v0
def own_f1_36 (v0 : Int32) : Int32 := if v0 < (192 : Int32) then (own_f1_64 v0) else (own_f1_43 v0)
set_option maxRecDepth 65536 in
theorem own_b1_36 {l : Launch} {p : Program} {e : Env} {below : List Frame} {s : State} {m : MethodId} {meth : Method} {c : Code} {Z : State} {a0 args : Array Value} {T : State} {h0 : Heap} (X : Stand p l e ({ frames := 0, cells := 0, slots := 0, locals := 0 } : Room) s m args below meth c T [] 0 0) (C : own_Ctx p s m meth c Z a0 tables_1 (⟨"com/example/where/where/parsing/XmlChars", "isNameStartChar", "(C)Z"⟩ : MethodName) prog_114_method_4_code 1 (some .boolean)) (hh : T.heap = h0) (v0 : Int32) :
    own_Fin p e below s (own_QP (some (.int (own_f1_36 v0))) h0) 0 0 (T.setTop (mkF m 36 #[.val (.int v0)] [])) := by
  obtain ⟨hx, hby, hml, hZ, hown, hnm, hret, hlk, hw⟩ := id C
  refine own_go (fun t => XS.iloadN X.here hx rfl (hb hby own_d1_36) rfl) ?_
  show own_Fin p e below s (own_QP (some (.int (own_f1_36 v0))) h0) 0 0 (T.setTop (mkF m 37 #[.val (.int v0)] [(.int v0)]))
  refine own_go (fun t => XS.sipush X.here hx rfl (hb hby own_d1_37)) ?_
  show own_Fin p e below s (own_QP (some (.int (own_f1_36 v0))) h0) 0 0 (T.setTop (mkF m 40 #[.val (.int v0)] [(.int (192 : Int32)), (.int v0)]))
  by_cases hq : v0 < (192 : Int32)
  · show own_Fin p e below s (own_QP (some (.int (own_f1_36 v0))) h0) 0 0 _
    rw [show (own_f1_36 v0) = (own_f1_64 v0) from if_pos hq]
    refine own_go (fun t => XS.icmpYes X.here hx rfl (pc0 := 40) (pc' := 64) rfl (hb hby own_d1_40) rfl (tlt hq).1 (by decide) (by decide)) ?_
    show own_Fin p e below s (own_QP (some (.int (own_f1_64 v0))) h0) 0 0 (T.setTop (mkF m 64 #[.val (.int v0)] []))
    exact own_b1_64 X C hh v0
  · show own_Fin p e below s (own_QP (some (.int (own_f1_36 v0))) h0) 0 0 _
    rw [show (own_f1_36 v0) = (own_f1_43 v0) from if_neg hq]
    refine own_go (fun t => XS.icmpNo X.here hx rfl (hb hby own_d1_40) rfl (flt hq).1) ?_
    show own_Fin p e below s (own_QP (some (.int (own_f1_43 v0))) h0) 0 0 (T.setTop (mkF m 43 #[.val (.int v0)] []))
    exact own_b1_43 X C hh v0
def own_f1_30 (v0 : Int32) : Int32 := if v0 = (58 : Int32) then (own_f1_164 v0) else (own_f1_36 v0)
set_option maxRecDepth 65536 in
theorem own_b1_30 {l : Launch} {p : Program} {e : Env} {below : List Frame} {s : State} {m : MethodId} {meth : Method} {c : Code} {Z : State} {a0 args : Array Value} {T : State} {h0 : Heap} (X : Stand p l e ({ frames := 0, cells := 0, slots := 0, locals := 0 } : Room) s m args below meth c T [] 0 0) (C : own_Ctx p s m meth c Z a0 tables_1 (⟨"com/example/where/where/parsing/XmlChars", "isNameStartChar", "(C)Z"⟩ : MethodName) prog_114_method_4_code 1 (some .boolean)) (hh : T.heap = h0) (v0 : Int32) :
    own_Fin p e below s (own_QP (some (.int (own_f1_30 v0))) h0) 0 0 (T.setTop (mkF m 30 #[.val (.int v0)] [])) := by
  obtain ⟨hx, hby, hml, hZ, hown, hnm, hret, hlk, hw⟩ := id C
  refine own_go (fun t => XS.iloadN X.here hx rfl (hb hby own_d1_30) rfl) ?_
  show own_Fin p e below s (own_QP (some (.int (own_f1_30 v0))) h0) 0 0 (T.setTop (mkF m 31 #[.val (.int v0)] [(.int v0)]))
  refine own_go (fun t => XS.bipush X.here hx rfl (hb hby own_d1_31)) ?_
  show own_Fin p e below s (own_QP (some (.int (own_f1_30 v0))) h0) 0 0 (T.setTop (mkF m 33 #[.val (.int v0)] [(.int (58 : Int32)), (.int v0)]))
  by_cases hq : v0 = (58 : Int32)
  · show own_Fin p e below s (own_QP (some (.int (own_f1_30 v0))) h0) 0 0 _
    rw [show (own_f1_30 v0) = (own_f1_164 v0) from if_pos hq]
    refine own_go (fun t => XS.icmpYes X.here hx rfl (pc0 := 33) (pc' := 164) rfl (hb hby own_d1_33) rfl (teq hq).1 (by decide) (by decide)) ?_
    show own_Fin p e below s (own_QP (some (.int (own_f1_164 v0))) h0) 0 0 (T.setTop (mkF m 164 #[.val (.int v0)] []))
    exact own_b1_164 X C hh v0
  · show own_Fin p e below s (own_QP (some (.int (own_f1_30 v0))) h0) 0 0 _
    rw [show (own_f1_30 v0) = (own_f1_36 v0) from if_neg hq]
    refine own_go (fun t => XS.icmpNo X.here hx rfl (hb hby own_d1_33) rfl (feq hq).1) ?_
    show own_Fin p e below s (own_QP (some (.int (own_f1_36 v0))) h0) 0 0 (T.setTop (mkF m 36 #[.val (.int v0)] []))
    exact own_b1_36 X C hh v0
def own_f1_24 (v0 : Int32) : Int32 := if v0 = (95 : Int32) then (own_f1_164 v0) else (own_f1_30 v0)
set_option maxRecDepth 65536 in
theorem own_b1_24 {l : Launch} {p : Program} {e : Env} {below : List Frame} {s : State} {m : MethodId} {meth : Method} {c : Code} {Z : State} {a0 args : Array Value} {T : State} {h0 : Heap} (X : Stand p l e ({ frames := 0, cells := 0, slots := 0, locals := 0 } : Room) s m args below meth c T [] 0 0) (C : own_Ctx p s m meth c Z a0 tables_1 (⟨"com/example/where/where/parsing/XmlChars", "isNameStartChar", "(C)Z"⟩ : MethodName) prog_114_method_4_code 1 (some .boolean)) (hh : T.heap = h0) (v0 : Int32) :
    own_Fin p e below s (own_QP (some (.int (own_f1_24 v0))) h0) 0 0 (T.setTop (mkF m 24 #[.val (.int v0)] [])) := by
  obtain ⟨hx, hby, hml, hZ, hown, hnm, hret, hlk, hw⟩ := id C
  refine own_go (fun t => XS.iloadN X.here hx rfl (hb hby own_d1_24) rfl) ?_
  show own_Fin p e below s (own_QP (some (.int (own_f1_24 v0))) h0) 0 0 (T.setTop (mkF m 25 #[.val (.int v0)] [(.int v0)]))
  refine own_go (fun t => XS.bipush X.here hx rfl (hb hby own_d1_25)) ?_
  show own_Fin p e below s (own_QP (some (.int (own_f1_24 v0))) h0) 0 0 (T.setTop (mkF m 27 #[.val (.int v0)] [(.int (95 : Int32)), (.int v0)]))
  by_cases hq : v0 = (95 : Int32)
  · show own_Fin p e below s (own_QP (some (.int (own_f1_24 v0))) h0) 0 0 _
    rw [show (own_f1_24 v0) = (own_f1_164 v0) from if_pos hq]
    refine own_go (fun t => XS.icmpYes X.here hx rfl (pc0 := 27) (pc' := 164) rfl (hb hby own_d1_27) rfl (teq hq).1 (by decide) (by decide)) ?_
    show own_Fin p e below s (own_QP (some (.int (own_f1_164 v0))) h0) 0 0 (T.setTop (mkF m 164 #[.val (.int v0)] []))
    exact own_b1_164 X C hh v0
  · show own_Fin p e below s (own_QP (some (.int (own_f1_24 v0))) h0) 0 0 _
    rw [show (own_f1_24 v0) = (own_f1_30 v0) from if_neg hq]
    refine own_go (fun t => XS.icmpNo X.here hx rfl (hb hby own_d1_27) rfl (feq hq).1) ?_
    show own_Fin p e below s (own_QP (some (.int (own_f1_30 v0))) h0) 0 0 (T.setTop (mkF m 30 #[.val (.int v0)] []))
    exact own_b1_30 X C hh v0
def own_f1_18 (v0 : Int32) : Int32 := if (90 : Int32) < v0 then (own_f1_24 v0) else (own_f1_164 v0)
set_option maxRecDepth 65536 in
theorem own_b1_18 {l : Launch} {p : Program} {e : Env} {below : List Frame} {s : State} {m : MethodId} {meth : Method} {c : Code} {Z : State} {a0 args : Array Value} {T : State} {h0 : Heap} (X : Stand p l e ({ frames := 0, cells := 0, slots := 0, locals := 0 } : Room) s m args below meth c T [] 0 0) (C : own_Ctx p s m meth c Z a0 tables_1 (⟨"com/example/where/where/parsing/XmlChars", "isNameStartChar", "(C)Z"⟩ : MethodName) prog_114_method_4_code 1 (some .boolean)) (hh : T.heap = h0) (v0 : Int32) :
    own_Fin p e below s (own_QP (some (.int (own_f1_18 v0))) h0) 0 0 (T.setTop (mkF m 18 #[.val (.int v0)] [])) := by
  obtain ⟨hx, hby, hml, hZ, hown, hnm, hret, hlk, hw⟩ := id C
  refine own_go (fun t => XS.iloadN X.here hx rfl (hb hby own_d1_18) rfl) ?_
  show own_Fin p e below s (own_QP (some (.int (own_f1_18 v0))) h0) 0 0 (T.setTop (mkF m 19 #[.val (.int v0)] [(.int v0)]))
  refine own_go (fun t => XS.bipush X.here hx rfl (hb hby own_d1_19)) ?_
  show own_Fin p e below s (own_QP (some (.int (own_f1_18 v0))) h0) 0 0 (T.setTop (mkF m 21 #[.val (.int v0)] [(.int (90 : Int32)), (.int v0)]))
  by_cases hq : (90 : Int32) < v0
  · show own_Fin p e below s (own_QP (some (.int (own_f1_18 v0))) h0) 0 0 _
    rw [show (own_f1_18 v0) = (own_f1_24 v0) from if_pos hq]
    refine own_go (fun t => XS.icmpNo X.here hx rfl (hb hby own_d1_21) rfl (tlt hq).2.2.2) ?_
    show own_Fin p e below s (own_QP (some (.int (own_f1_24 v0))) h0) 0 0 (T.setTop (mkF m 24 #[.val (.int v0)] []))
    exact own_b1_24 X C hh v0
  · show own_Fin p e below s (own_QP (some (.int (own_f1_18 v0))) h0) 0 0 _
    rw [show (own_f1_18 v0) = (own_f1_164 v0) from if_neg hq]
    refine own_go (fun t => XS.icmpYes X.here hx rfl (pc0 := 21) (pc' := 164) rfl (hb hby own_d1_21) rfl (flt hq).2.2.2 (by decide) (by decide)) ?_
    show own_Fin p e below s (own_QP (some (.int (own_f1_164 v0))) h0) 0 0 (T.setTop (mkF m 164 #[.val (.int v0)] []))
    exact own_b1_164 X C hh v0
def own_f1_12 (v0 : Int32) : Int32 := if v0 < (65 : Int32) then (own_f1_24 v0) else (own_f1_18 v0)
set_option maxRecDepth 65536 in
theorem own_b1_12 {l : Launch} {p : Program} {e : Env} {below : List Frame} {s : State} {m : MethodId} {meth : Method} {c : Code} {Z : State} {a0 args : Array Value} {T : State} {h0 : Heap} (X : Stand p l e ({ frames := 0, cells := 0, slots := 0, locals := 0 } : Room) s m args below meth c T [] 0 0) (C : own_Ctx p s m meth c Z a0 tables_1 (⟨"com/example/where/where/parsing/XmlChars", "isNameStartChar", "(C)Z"⟩ : MethodName) prog_114_method_4_code 1 (some .boolean)) (hh : T.heap = h0) (v0 : Int32) :
    own_Fin p e below s (own_QP (some (.int (own_f1_12 v0))) h0) 0 0 (T.setTop (mkF m 12 #[.val (.int v0)] [])) := by
  obtain ⟨hx, hby, hml, hZ, hown, hnm, hret, hlk, hw⟩ := id C
  refine own_go (fun t => XS.iloadN X.here hx rfl (hb hby own_d1_12) rfl) ?_
  show own_Fin p e below s (own_QP (some (.int (own_f1_12 v0))) h0) 0 0 (T.setTop (mkF m 13 #[.val (.int v0)] [(.int v0)]))
  refine own_go (fun t => XS.bipush X.here hx rfl (hb hby own_d1_13)) ?_
  show own_Fin p e below s (own_QP (some (.int (own_f1_12 v0))) h0) 0 0 (T.setTop (mkF m 15 #[.val (.int v0)] [(.int (65 : Int32)), (.int v0)]))
  by_cases hq : v0 < (65 : Int32)
  · show own_Fin p e below s (own_QP (some (.int (own_f1_12 v0))) h0) 0 0 _
    rw [show (own_f1_12 v0) = (own_f1_24 v0) from if_pos hq]
    refine own_go (fun t => XS.icmpYes X.here hx rfl (pc0 := 15) (pc' := 24) rfl (hb hby own_d1_15) rfl (tlt hq).1 (by decide) (by decide)) ?_
    show own_Fin p e below s (own_QP (some (.int (own_f1_24 v0))) h0) 0 0 (T.setTop (mkF m 24 #[.val (.int v0)] []))
    exact own_b1_24 X C hh v0
  · show own_Fin p e below s (own_QP (some (.int (own_f1_12 v0))) h0) 0 0 _
    rw [show (own_f1_12 v0) = (own_f1_18 v0) from if_neg hq]
    refine own_go (fun t => XS.icmpNo X.here hx rfl (hb hby own_d1_15) rfl (flt hq).1) ?_
    show own_Fin p e below s (own_QP (some (.int (own_f1_18 v0))) h0) 0 0 (T.setTop (mkF m 18 #[.val (.int v0)] []))
    exact own_b1_18 X C hh v0
def own_f1_6 (v0 : Int32) : Int32 := if (122 : Int32) < v0 then (own_f1_12 v0) else (own_f1_164 v0)
set_option maxRecDepth 65536 in
theorem own_b1_6 {l : Launch} {p : Program} {e : Env} {below : List Frame} {s : State} {m : MethodId} {meth : Method} {c : Code} {Z : State} {a0 args : Array Value} {T : State} {h0 : Heap} (X : Stand p l e ({ frames := 0, cells := 0, slots := 0, locals := 0 } : Room) s m args below meth c T [] 0 0) (C : own_Ctx p s m meth c Z a0 tables_1 (⟨"com/example/where/where/parsing/XmlChars", "isNameStartChar", "(C)Z"⟩ : MethodName) prog_114_method_4_code 1 (some .boolean)) (hh : T.heap = h0) (v0 : Int32) :
    own_Fin p e below s (own_QP (some (.int (own_f1_6 v0))) h0) 0 0 (T.setTop (mkF m 6 #[.val (.int v0)] [])) := by
  obtain ⟨hx, hby, hml, hZ, hown, hnm, hret, hlk, hw⟩ := id C
  refine own_go (fun t => XS.iloadN X.here hx rfl (hb hby own_d1_6) rfl) ?_
  show own_Fin p e below s (own_QP (some (.int (own_f1_6 v0))) h0) 0 0 (T.setTop (mkF m 7 #[.val (.int v0)] [(.int v0)]))
  refine own_go (fun t => XS.bipush X.here hx rfl (hb hby own_d1_7)) ?_
  show own_Fin p e below s (own_QP (some (.int (own_f1_6 v0))) h0) 0 0 (T.setTop (mkF m 9 #[.val (.int v0)] [(.int (122 : Int32)), (.int v0)]))
  by_cases hq : (122 : Int32) < v0
  · show own_Fin p e below s (own_QP (some (.int (own_f1_6 v0))) h0) 0 0 _
    rw [show (own_f1_6 v0) = (own_f1_12 v0) from if_pos hq]
    refine own_go (fun t => XS.icmpNo X.here hx rfl (hb hby own_d1_9) rfl (tlt hq).2.2.2) ?_
    show own_Fin p e below s (own_QP (some (.int (own_f1_12 v0))) h0) 0 0 (T.setTop (mkF m 12 #[.val (.int v0)] []))
    exact own_b1_12 X C hh v0
  · show own_Fin p e below s (own_QP (some (.int (own_f1_6 v0))) h0) 0 0 _
    rw [show (own_f1_6 v0) = (own_f1_164 v0) from if_neg hq]
    refine own_go (fun t => XS.icmpYes X.here hx rfl (pc0 := 9) (pc' := 164) rfl (hb hby own_d1_9) rfl (flt hq).2.2.2 (by decide) (by decide)) ?_
    show own_Fin p e below s (own_QP (some (.int (own_f1_164 v0))) h0) 0 0 (T.setTop (mkF m 164 #[.val (.int v0)] []))
    exact own_b1_164 X C hh v0
def own_f1_0 (v0 : Int32) : Int32 := if v0 < (97 : Int32) then (own_f1_12 v0) else (own_f1_6 v0)
set_option maxRecDepth 65536 in
theorem own_b1_0 {l : Launch} {p : Program} {e : Env} {below : List Frame} {s : State} {m : MethodId} {meth : Method} {c : Code} {Z : State} {a0 args : Array Value} {T : State} {h0 : Heap} (X : Stand p l e ({ frames := 0, cells := 0, slots := 0, locals := 0 } : Room) s m args below meth c T [] 0 0) (C : own_Ctx p s m meth c Z a0 tables_1 (⟨"com/example/where/where/parsing/XmlChars", "isNameStartChar", "(C)Z"⟩ : MethodName) prog_114_method_4_code 1 (some .boolean)) (hh : T.heap = h0) (v0 : Int32) :
    own_Fin p e below s (own_QP (some (.int (own_f1_0 v0))) h0) 0 0 (T.setTop (mkF m 0 #[.val (.int v0)] [])) := by
  obtain ⟨hx, hby, hml, hZ, hown, hnm, hret, hlk, hw⟩ := id C
  refine own_go (fun t => XS.iloadN X.here hx rfl (hb hby own_d1_0) rfl) ?_
  show own_Fin p e below s (own_QP (some (.int (own_f1_0 v0))) h0) 0 0 (T.setTop (mkF m 1 #[.val (.int v0)] [(.int v0)]))
  refine own_go (fun t => XS.bipush X.here hx rfl (hb hby own_d1_1)) ?_
  show own_Fin p e below s (own_QP (some (.int (own_f1_0 v0))) h0) 0 0 (T.setTop (mkF m 3 #[.val (.int v0)] [(.int (97 : Int32)), (.int v0)]))
  by_cases hq : v0 < (97 : Int32)
  · show own_Fin p e below s (own_QP (some (.int (own_f1_0 v0))) h0) 0 0 _
    rw [show (own_f1_0 v0) = (own_f1_12 v0) from if_pos hq]
    refine own_go (fun t => XS.icmpYes X.here hx rfl (pc0 := 3) (pc' := 12) rfl (hb hby own_d1_3) rfl (tlt hq).1 (by decide) (by decide)) ?_
    show own_Fin p e below s (own_QP (some (.int (own_f1_12 v0))) h0) 0 0 (T.setTop (mkF m 12 #[.val (.int v0)] []))
    exact own_b1_12 X C hh v0
  · show own_Fin p e below s (own_QP (some (.int (own_f1_0 v0))) h0) 0 0 _
    rw [show (own_f1_0 v0) = (own_f1_6 v0) from if_neg hq]
    refine own_go (fun t => XS.icmpNo X.here hx rfl (hb hby own_d1_3) rfl (flt hq).1) ?_
    show own_Fin p e below s (own_QP (some (.int (own_f1_6 v0))) h0) 0 0 (T.setTop (mkF m 6 #[.val (.int v0)] []))
    exact own_b1_6 X C hh v0
theorem own_pn0 : plainName "com/example/where/where/parsing/XmlChars" = true := by first | (simp [plainName, overriddenIn]; done) | decide +kernel
theorem own_c1 (l : Launch) (Z : State) (a0 : Array Value) (hw : ∀ d ∈ tables_1, d.before a0 Z = true) (x0 : Int32) (h0 : Heap) : own_Met l Z (⟨"com/example/where/where/parsing/XmlChars", "isNameStartChar", "(C)Z"⟩ : MethodName) prog_114_method_4_code 1 (some .boolean) [] ({ frames := 0, cells := 0, slots := 0, locals := 0 } : Room) #[(.int x0)] h0 (own_QP (some (.int (own_f1_0 x0))) h0) :=
  own_enter (plainFor_of_name own_pn0) (own_ef1 x0) hw (fun p e s m below meth c T X C hh => own_b1_0 X C hh x0)
theorem own_d2_0 : decode method_3_code 0 = .ok (.iload_n 0, 1) := by decide +kernel
theorem own_d2_1 : decode method_3_code 1 = .ok (.istore_n 1, 1) := by decide +kernel
theorem own_d2_2 : decode method_3_code 2 = .ok (.iload_n 1, 1) := by decide +kernel
theorem own_d2_3 : decode method_3_code 3 = .ok (.bipush 58, 2) := by decide +kernel
theorem own_d2_5 : decode method_3_code 5 = .ok (.if_icmp .ge 5, 3) := by decide +kernel
theorem own_d2_8 : decode method_3_code 8 = .ok (.iconst 0, 1) := by decide +kernel
theorem own_d2_9 : decode method_3_code 9 = .ok (.ireturn, 1) := by decide +kernel
theorem own_d2_10 : decode method_3_code 10 = .ok (.iload_n 1, 1) := by decide +kernel
theorem own_d2_11 : decode method_3_code 11 = .ok (.bipush 58, 2) := by decide +kernel
theorem own_d2_13 : decode method_3_code 13 = .ok (.if_icmp .ne 5, 3) := by decide +kernel
theorem own_d2_16 : decode method_3_code 16 = .ok (.iconst 1, 1) := by decide +kernel
theorem own_d2_17 : decode method_3_code 17 = .ok (.ireturn, 1) := by decide +kernel
theorem own_d2_18 : decode method_3_code 18 = .ok (.iload_n 1, 1) := by decide +kernel
theorem own_d2_19 : decode method_3_code 19 = .ok (.bipush 65, 2) := by decide +kernel
theorem own_d2_21 : decode method_3_code 21 = .ok (.if_icmp .ge 5, 3) := by decide +kernel
theorem own_d2_24 : decode method_3_code 24 = .ok (.iconst 0, 1) := by decide +kernel
theorem own_d2_25 : decode method_3_code 25 = .ok (.ireturn, 1) := by decide +kernel
theorem own_d2_26 : decode method_3_code 26 = .ok (.iload_n 1, 1) := by decide +kernel
theorem own_d2_27 : decode method_3_code 27 = .ok (.bipush 90, 2) := by decide +kernel
theorem own_d2_29 : decode method_3_code 29 = .ok (.if_icmp .gt 5, 3) := by decide +kernel
theorem own_d2_32 : decode method_3_code 32 = .ok (.iconst 1, 1) := by decide +kernel
theorem own_d2_33 : decode method_3_code 33 = .ok (.ireturn, 1) := by decide +kernel
theorem own_d2_34 : decode method_3_code 34 = .ok (.iload_n 1, 1) := by decide +kernel
theorem own_d2_35 : decode method_3_code 35 = .ok (.bipush 95, 2) := by decide +kernel
theorem own_d2_37 : decode method_3_code 37 = .ok (.if_icmp .ge 5, 3) := by decide +kernel
theorem own_d2_40 : decode method_3_code 40 = .ok (.iconst 0, 1) := by decide +kernel
theorem own_d2_41 : decode method_3_code 41 = .ok (.ireturn, 1) := by decide +kernel
theorem own_d2_42 : decode method_3_code 42 = .ok (.iload_n 1, 1) := by decide +kernel
theorem own_d2_43 : decode method_3_code 43 = .ok (.bipush 95, 2) := by decide +kernel
theorem own_d2_45 : decode method_3_code 45 = .ok (.if_icmp .ne 5, 3) := by decide +kernel
theorem own_d2_48 : decode method_3_code 48 = .ok (.iconst 1, 1) := by decide +kernel
theorem own_d2_49 : decode method_3_code 49 = .ok (.ireturn, 1) := by decide +kernel
theorem own_d2_50 : decode method_3_code 50 = .ok (.iload_n 1, 1) := by decide +kernel
theorem own_d2_51 : decode method_3_code 51 = .ok (.bipush 97, 2) := by decide +kernel
theorem own_d2_53 : decode method_3_code 53 = .ok (.if_icmp .ge 5, 3) := by decide +kernel
theorem own_d2_56 : decode method_3_code 56 = .ok (.iconst 0, 1) := by decide +kernel
theorem own_d2_57 : decode method_3_code 57 = .ok (.ireturn, 1) := by decide +kernel
theorem own_d2_58 : decode method_3_code 58 = .ok (.iload_n 1, 1) := by decide +kernel
theorem own_d2_59 : decode method_3_code 59 = .ok (.bipush 122, 2) := by decide +kernel
theorem own_d2_61 : decode method_3_code 61 = .ok (.if_icmp .gt 5, 3) := by decide +kernel
theorem own_d2_64 : decode method_3_code 64 = .ok (.iconst 1, 1) := by decide +kernel
theorem own_d2_65 : decode method_3_code 65 = .ok (.ireturn, 1) := by decide +kernel
theorem own_d2_66 : decode method_3_code 66 = .ok (.iload_n 1, 1) := by decide +kernel
theorem own_d2_67 : decode method_3_code 67 = .ok (.sipush 192, 3) := by decide +kernel
theorem own_d2_70 : decode method_3_code 70 = .ok (.if_icmp .ge 5, 3) := by decide +kernel
theorem own_d2_73 : decode method_3_code 73 = .ok (.iconst 0, 1) := by decide +kernel
theorem own_d2_74 : decode method_3_code 74 = .ok (.ireturn, 1) := by decide +kernel
theorem own_d2_75 : decode method_3_code 75 = .ok (.iload_n 1, 1) := by decide +kernel
theorem own_d2_76 : decode method_3_code 76 = .ok (.sipush 214, 3) := by decide +kernel
theorem own_d2_79 : decode method_3_code 79 = .ok (.if_icmp .gt 5, 3) := by decide +kernel
theorem own_d2_82 : decode method_3_code 82 = .ok (.iconst 1, 1) := by decide +kernel
theorem own_d2_83 : decode method_3_code 83 = .ok (.ireturn, 1) := by decide +kernel
theorem own_d2_84 : decode method_3_code 84 = .ok (.iload_n 1, 1) := by decide +kernel
theorem own_d2_85 : decode method_3_code 85 = .ok (.sipush 215, 3) := by decide +kernel
theorem own_d2_88 : decode method_3_code 88 = .ok (.if_icmp .ne 5, 3) := by decide +kernel
theorem own_d2_91 : decode method_3_code 91 = .ok (.iconst 0, 1) := by decide +kernel
theorem own_d2_92 : decode method_3_code 92 = .ok (.ireturn, 1) := by decide +kernel
theorem own_d2_93 : decode method_3_code 93 = .ok (.iload_n 1, 1) := by decide +kernel
theorem own_d2_94 : decode method_3_code 94 = .ok (.sipush 246, 3) := by decide +kernel
theorem own_d2_97 : decode method_3_code 97 = .ok (.if_icmp .gt 5, 3) := by decide +kernel
theorem own_d2_100 : decode method_3_code 100 = .ok (.iconst 1, 1) := by decide +kernel
theorem own_d2_101 : decode method_3_code 101 = .ok (.ireturn, 1) := by decide +kernel
theorem own_d2_102 : decode method_3_code 102 = .ok (.iload_n 1, 1) := by decide +kernel
theorem own_d2_103 : decode method_3_code 103 = .ok (.sipush 247, 3) := by decide +kernel
theorem own_d2_106 : decode method_3_code 106 = .ok (.if_icmp .ne 5, 3) := by decide +kernel
theorem own_d2_109 : decode method_3_code 109 = .ok (.iconst 0, 1) := by decide +kernel
theorem own_d2_110 : decode method_3_code 110 = .ok (.ireturn, 1) := by decide +kernel
theorem own_d2_111 : decode method_3_code 111 = .ok (.iload_n 1, 1) := by decide +kernel
theorem own_d2_112 : decode method_3_code 112 = .ok (.sipush 767, 3) := by decide +kernel
theorem own_d2_115 : decode method_3_code 115 = .ok (.if_icmp .gt 5, 3) := by decide +kernel
theorem own_d2_118 : decode method_3_code 118 = .ok (.iconst 1, 1) := by decide +kernel
theorem own_d2_119 : decode method_3_code 119 = .ok (.ireturn, 1) := by decide +kernel
theorem own_d2_120 : decode method_3_code 120 = .ok (.iload_n 1, 1) := by decide +kernel
theorem own_d2_121 : decode method_3_code 121 = .ok (.sipush 880, 3) := by decide +kernel
theorem own_d2_124 : decode method_3_code 124 = .ok (.if_icmp .ge 5, 3) := by decide +kernel
theorem own_d2_127 : decode method_3_code 127 = .ok (.iconst 0, 1) := by decide +kernel
theorem own_d2_128 : decode method_3_code 128 = .ok (.ireturn, 1) := by decide +kernel
theorem own_d2_129 : decode method_3_code 129 = .ok (.iload_n 1, 1) := by decide +kernel
theorem own_d2_130 : decode method_3_code 130 = .ok (.sipush 893, 3) := by decide +kernel
theorem own_d2_133 : decode method_3_code 133 = .ok (.if_icmp .gt 5, 3) := by decide +kernel
theorem own_d2_136 : decode method_3_code 136 = .ok (.iconst 1, 1) := by decide +kernel
theorem own_d2_137 : decode method_3_code 137 = .ok (.ireturn, 1) := by decide +kernel
theorem own_d2_138 : decode method_3_code 138 = .ok (.iload_n 1, 1) := by decide +kernel
theorem own_d2_139 : decode method_3_code 139 = .ok (.sipush 894, 3) := by decide +kernel
theorem own_d2_142 : decode method_3_code 142 = .ok (.if_icmp .ne 5, 3) := by decide +kernel
theorem own_d2_145 : decode method_3_code 145 = .ok (.iconst 0, 1) := by decide +kernel
theorem own_d2_146 : decode method_3_code 146 = .ok (.ireturn, 1) := by decide +kernel
theorem own_d2_147 : decode method_3_code 147 = .ok (.iload_n 1, 1) := by decide +kernel
theorem own_d2_148 : decode method_3_code 148 = .ok (.sipush 8191, 3) := by decide +kernel
theorem own_d2_151 : decode method_3_code 151 = .ok (.if_icmp .gt 5, 3) := by decide +kernel
theorem own_d2_154 : decode method_3_code 154 = .ok (.iconst 1, 1) := by decide +kernel
theorem own_d2_155 : decode method_3_code 155 = .ok (.ireturn, 1) := by decide +kernel
theorem own_d2_156 : decode method_3_code 156 = .ok (.iload_n 1, 1) := by decide +kernel
theorem own_d2_157 : decode method_3_code 157 = .ok (.sipush 8204, 3) := by decide +kernel
theorem own_d2_160 : decode method_3_code 160 = .ok (.if_icmp .ge 5, 3) := by decide +kernel
theorem own_d2_163 : decode method_3_code 163 = .ok (.iconst 0, 1) := by decide +kernel
theorem own_d2_164 : decode method_3_code 164 = .ok (.ireturn, 1) := by decide +kernel
theorem own_d2_165 : decode method_3_code 165 = .ok (.iload_n 1, 1) := by decide +kernel
theorem own_d2_166 : decode method_3_code 166 = .ok (.sipush 8205, 3) := by decide +kernel
theorem own_d2_169 : decode method_3_code 169 = .ok (.if_icmp .gt 5, 3) := by decide +kernel
theorem own_d2_172 : decode method_3_code 172 = .ok (.iconst 1, 1) := by decide +kernel
theorem own_d2_173 : decode method_3_code 173 = .ok (.ireturn, 1) := by decide +kernel
theorem own_d2_174 : decode method_3_code 174 = .ok (.iload_n 1, 1) := by decide +kernel
theorem own_d2_175 : decode method_3_code 175 = .ok (.sipush 8304, 3) := by decide +kernel
theorem own_d2_178 : decode method_3_code 178 = .ok (.if_icmp .ge 5, 3) := by decide +kernel
theorem own_d2_181 : decode method_3_code 181 = .ok (.iconst 0, 1) := by decide +kernel
theorem own_d2_182 : decode method_3_code 182 = .ok (.ireturn, 1) := by decide +kernel
theorem own_d2_183 : decode method_3_code 183 = .ok (.iload_n 1, 1) := by decide +kernel
theorem own_d2_184 : decode method_3_code 184 = .ok (.sipush 8591, 3) := by decide +kernel
theorem own_d2_187 : decode method_3_code 187 = .ok (.if_icmp .gt 5, 3) := by decide +kernel
theorem own_d2_190 : decode method_3_code 190 = .ok (.iconst 1, 1) := by decide +kernel
theorem own_d2_191 : decode method_3_code 191 = .ok (.ireturn, 1) := by decide +kernel
theorem own_d2_192 : decode method_3_code 192 = .ok (.iload_n 1, 1) := by decide +kernel
theorem own_d2_193 : decode method_3_code 193 = .ok (.sipush 11264, 3) := by decide +kernel
theorem own_d2_196 : decode method_3_code 196 = .ok (.if_icmp .ge 5, 3) := by decide +kernel
theorem own_d2_199 : decode method_3_code 199 = .ok (.iconst 0, 1) := by decide +kernel
theorem own_d2_200 : decode method_3_code 200 = .ok (.ireturn, 1) := by decide +kernel
theorem own_d2_201 : decode method_3_code 201 = .ok (.iload_n 1, 1) := by decide +kernel
theorem own_d2_202 : decode method_3_code 202 = .ok (.sipush 12271, 3) := by decide +kernel
theorem own_d2_205 : decode method_3_code 205 = .ok (.if_icmp .gt 5, 3) := by decide +kernel
theorem own_d2_208 : decode method_3_code 208 = .ok (.iconst 1, 1) := by decide +kernel
theorem own_d2_209 : decode method_3_code 209 = .ok (.ireturn, 1) := by decide +kernel
theorem own_d2_210 : decode method_3_code 210 = .ok (.iload_n 1, 1) := by decide +kernel
theorem own_d2_211 : decode method_3_code 211 = .ok (.sipush 12289, 3) := by decide +kernel
theorem own_d2_214 : decode method_3_code 214 = .ok (.if_icmp .ge 5, 3) := by decide +kernel
theorem own_d2_217 : decode method_3_code 217 = .ok (.iconst 0, 1) := by decide +kernel
theorem own_d2_218 : decode method_3_code 218 = .ok (.ireturn, 1) := by decide +kernel
theorem own_d2_219 : decode method_3_code 219 = .ok (.iload_n 1, 1) := by decide +kernel
theorem own_d2_220 : decode method_3_code 220 = .ok (.ldc 19, 2) := by decide +kernel
theorem own_d2_222 : decode method_3_code 222 = .ok (.if_icmp .gt 5, 3) := by decide +kernel
theorem own_d2_225 : decode method_3_code 225 = .ok (.iconst 1, 1) := by decide +kernel
theorem own_d2_226 : decode method_3_code 226 = .ok (.ireturn, 1) := by decide +kernel
theorem own_d2_227 : decode method_3_code 227 = .ok (.iload_n 1, 1) := by decide +kernel
theorem own_d2_228 : decode method_3_code 228 = .ok (.ldc 20, 2) := by decide +kernel
theorem own_d2_230 : decode method_3_code 230 = .ok (.if_icmp .ge 5, 3) := by decide +kernel
theorem own_d2_233 : decode method_3_code 233 = .ok (.iconst 0, 1) := by decide +kernel
theorem own_d2_234 : decode method_3_code 234 = .ok (.ireturn, 1) := by decide +kernel
theorem own_d2_235 : decode method_3_code 235 = .ok (.iload_n 1, 1) := by decide +kernel
theorem own_d2_236 : decode method_3_code 236 = .ok (.ldc 21, 2) := by decide +kernel
theorem own_d2_238 : decode method_3_code 238 = .ok (.if_icmp .gt 5, 3) := by decide +kernel
theorem own_d2_241 : decode method_3_code 241 = .ok (.iconst 1, 1) := by decide +kernel
theorem own_d2_242 : decode method_3_code 242 = .ok (.ireturn, 1) := by decide +kernel
theorem own_d2_243 : decode method_3_code 243 = .ok (.iload_n 1, 1) := by decide +kernel
theorem own_d2_244 : decode method_3_code 244 = .ok (.ldc 22, 2) := by decide +kernel
theorem own_d2_246 : decode method_3_code 246 = .ok (.if_icmp .ge 5, 3) := by decide +kernel
theorem own_d2_249 : decode method_3_code 249 = .ok (.iconst 0, 1) := by decide +kernel
theorem own_d2_250 : decode method_3_code 250 = .ok (.ireturn, 1) := by decide +kernel
theorem own_d2_251 : decode method_3_code 251 = .ok (.iload_n 1, 1) := by decide +kernel
theorem own_d2_252 : decode method_3_code 252 = .ok (.ldc 23, 2) := by decide +kernel
theorem own_d2_254 : decode method_3_code 254 = .ok (.if_icmp .gt 7, 3) := by decide +kernel
theorem own_d2_257 : decode method_3_code 257 = .ok (.iconst 1, 1) := by decide +kernel
theorem own_d2_258 : decode method_3_code 258 = .ok (.goto 4, 3) := by decide +kernel
theorem own_d2_261 : decode method_3_code 261 = .ok (.iconst 0, 1) := by decide +kernel
theorem own_d2_262 : decode method_3_code 262 = .ok (.ireturn, 1) := by decide +kernel
theorem own_ef2 (x0 : Int32) : ∀ m, entryFrame m #[(.int x0)] 2 = mkF m 0 #[.val (.int x0), .unset] [] := fun m => by first | (simp [entryFrame, mkF, argsToLocals, Value.category]; done) | rfl
def own_f2_261 (v0 : Int32) (v1 : Int32) : Int32 := (0 : Int32)
set_option maxRecDepth 65536 in
theorem own_b2_261 {l : Launch} {p : Program} {e : Env} {below : List Frame} {s : State} {m : MethodId} {meth : Method} {c : Code} {Z : State} {a0 args : Array Value} {T : State} {h0 : Heap} (X : Stand p l e ({ frames := 0, cells := 0, slots := 0, locals := 0 } : Room) s m args below meth c T [] 0 0) (C : own_Ctx p s m meth c Z a0 tables_1 (⟨"com/example/where/where/parsing/XmlCharsIsNameStartCharPinLaw", "reference", "(C)Z"⟩ : MethodName) method_3_code 2 (some .boolean)) (hh : T.heap = h0) (v0 : Int32) (v1 : Int32) :
    own_Fin p e below s (own_QP (some (.int (own_f2_261 v0 v1))) h0) 0 0 (T.setTop (mkF m 261 #[.val (.int v0), .val (.int v1)] [])) := by
  obtain ⟨hx, hby, hml, hZ, hown, hnm, hret, hlk, hw⟩ := id C
  refine own_go (fun t => XS.iconst X.here hx rfl (hb hby own_d2_261)) ?_
  show own_Fin p e below s (own_QP (some (.int (own_f2_261 v0 v1))) h0) 0 0 (T.setTop (mkF m 262 #[.val (.int v0), .val (.int v1)] [(.int (0 : Int32))]))
  exact own_ret X hlk hx (t := .boolean) hret rfl (Or.inl ⟨rfl, by simp, _, rfl⟩) (hb hby own_d2_262) ⟨rfl, rfl, hh⟩ (by decide) (by decide)
def own_f2_257 (v0 : Int32) (v1 : Int32) : Int32 := (1 : Int32)
set_option maxRecDepth 65536 in
theorem own_b2_257 {l : Launch} {p : Program} {e : Env} {below : List Frame} {s : State} {m : MethodId} {meth : Method} {c : Code} {Z : State} {a0 args : Array Value} {T : State} {h0 : Heap} (X : Stand p l e ({ frames := 0, cells := 0, slots := 0, locals := 0 } : Room) s m args below meth c T [] 0 0) (C : own_Ctx p s m meth c Z a0 tables_1 (⟨"com/example/where/where/parsing/XmlCharsIsNameStartCharPinLaw", "reference", "(C)Z"⟩ : MethodName) method_3_code 2 (some .boolean)) (hh : T.heap = h0) (v0 : Int32) (v1 : Int32) :
    own_Fin p e below s (own_QP (some (.int (own_f2_257 v0 v1))) h0) 0 0 (T.setTop (mkF m 257 #[.val (.int v0), .val (.int v1)] [])) := by
  obtain ⟨hx, hby, hml, hZ, hown, hnm, hret, hlk, hw⟩ := id C
  refine own_go (fun t => XS.iconst X.here hx rfl (hb hby own_d2_257)) ?_
  show own_Fin p e below s (own_QP (some (.int (own_f2_257 v0 v1))) h0) 0 0 (T.setTop (mkF m 258 #[.val (.int v0), .val (.int v1)] [(.int (1 : Int32))]))
  refine own_go (fun t => XS.goto X.here hx rfl (pc0 := 258) (pc' := 262) rfl (hb hby own_d2_258) (by decide) (by decide)) ?_
  show own_Fin p e below s (own_QP (some (.int (own_f2_257 v0 v1))) h0) 0 0 (T.setTop (mkF m 262 #[.val (.int v0), .val (.int v1)] [(.int (1 : Int32))]))
  exact own_ret X hlk hx (t := .boolean) hret rfl (Or.inl ⟨rfl, by simp, _, rfl⟩) (hb hby own_d2_262) ⟨rfl, rfl, hh⟩ (by decide) (by decide)
def own_f2_251 (v0 : Int32) (v1 : Int32) : Int32 := if (65533 : Int32) < v1 then (own_f2_261 v0 v1) else (own_f2_257 v0 v1)
set_option maxRecDepth 65536 in
theorem own_b2_251 {l : Launch} {p : Program} {e : Env} {below : List Frame} {s : State} {m : MethodId} {meth : Method} {c : Code} {Z : State} {a0 args : Array Value} {T : State} {h0 : Heap} (X : Stand p l e ({ frames := 0, cells := 0, slots := 0, locals := 0 } : Room) s m args below meth c T [] 0 0) (C : own_Ctx p s m meth c Z a0 tables_1 (⟨"com/example/where/where/parsing/XmlCharsIsNameStartCharPinLaw", "reference", "(C)Z"⟩ : MethodName) method_3_code 2 (some .boolean)) (hh : T.heap = h0) (v0 : Int32) (v1 : Int32) :
    own_Fin p e below s (own_QP (some (.int (own_f2_251 v0 v1))) h0) 0 0 (T.setTop (mkF m 251 #[.val (.int v0), .val (.int v1)] [])) := by
  obtain ⟨hx, hby, hml, hZ, hown, hnm, hret, hlk, hw⟩ := id C
  refine own_go (fun t => XS.iloadN X.here hx rfl (hb hby own_d2_251) rfl) ?_
  show own_Fin p e below s (own_QP (some (.int (own_f2_251 v0 v1))) h0) 0 0 (T.setTop (mkF m 252 #[.val (.int v0), .val (.int v1)] [(.int v1)]))
  refine own_go (fun t => X.ldcInt hx hown (mvT hZ (hw _ (List.mem_of_getElem? (i := 18) rfl))) (g := (mkF m 252 #[.val (.int v0), .val (.int v1)] [(.int v1)])) rfl (hb hby own_d2_252) t) ?_
  show own_Fin p e below s (own_QP (some (.int (own_f2_251 v0 v1))) h0) 0 0 (T.setTop (mkF m 254 #[.val (.int v0), .val (.int v1)] [(.int (65533 : Int32)), (.int v1)]))
  by_cases hq : (65533 : Int32) < v1
  · show own_Fin p e below s (own_QP (some (.int (own_f2_251 v0 v1))) h0) 0 0 _
    rw [show (own_f2_251 v0 v1) = (own_f2_261 v0 v1) from if_pos hq]
    refine own_go (fun t => XS.icmpYes X.here hx rfl (pc0 := 254) (pc' := 261) rfl (hb hby own_d2_254) rfl (tlt hq).2.2.1 (by decide) (by decide)) ?_
    show own_Fin p e below s (own_QP (some (.int (own_f2_261 v0 v1))) h0) 0 0 (T.setTop (mkF m 261 #[.val (.int v0), .val (.int v1)] []))
    exact own_b2_261 X C hh v0 v1
  · show own_Fin p e below s (own_QP (some (.int (own_f2_251 v0 v1))) h0) 0 0 _
    rw [show (own_f2_251 v0 v1) = (own_f2_257 v0 v1) from if_neg hq]
    refine own_go (fun t => XS.icmpNo X.here hx rfl (hb hby own_d2_254) rfl (flt hq).2.2.1) ?_
    show own_Fin p e below s (own_QP (some (.int (own_f2_257 v0 v1))) h0) 0 0 (T.setTop (mkF m 257 #[.val (.int v0), .val (.int v1)] []))
    exact own_b2_257 X C hh v0 v1
def own_f2_249 (v0 : Int32) (v1 : Int32) : Int32 := (0 : Int32)
set_option maxRecDepth 65536 in
theorem own_b2_249 {l : Launch} {p : Program} {e : Env} {below : List Frame} {s : State} {m : MethodId} {meth : Method} {c : Code} {Z : State} {a0 args : Array Value} {T : State} {h0 : Heap} (X : Stand p l e ({ frames := 0, cells := 0, slots := 0, locals := 0 } : Room) s m args below meth c T [] 0 0) (C : own_Ctx p s m meth c Z a0 tables_1 (⟨"com/example/where/where/parsing/XmlCharsIsNameStartCharPinLaw", "reference", "(C)Z"⟩ : MethodName) method_3_code 2 (some .boolean)) (hh : T.heap = h0) (v0 : Int32) (v1 : Int32) :
    own_Fin p e below s (own_QP (some (.int (own_f2_249 v0 v1))) h0) 0 0 (T.setTop (mkF m 249 #[.val (.int v0), .val (.int v1)] [])) := by
  obtain ⟨hx, hby, hml, hZ, hown, hnm, hret, hlk, hw⟩ := id C
  refine own_go (fun t => XS.iconst X.here hx rfl (hb hby own_d2_249)) ?_
  show own_Fin p e below s (own_QP (some (.int (own_f2_249 v0 v1))) h0) 0 0 (T.setTop (mkF m 250 #[.val (.int v0), .val (.int v1)] [(.int (0 : Int32))]))
  exact own_ret X hlk hx (t := .boolean) hret rfl (Or.inl ⟨rfl, by simp, _, rfl⟩) (hb hby own_d2_250) ⟨rfl, rfl, hh⟩ (by decide) (by decide)
def own_f2_243 (v0 : Int32) (v1 : Int32) : Int32 := if v1 < (65008 : Int32) then (own_f2_249 v0 v1) else (own_f2_251 v0 v1)
set_option maxRecDepth 65536 in
theorem own_b2_243 {l : Launch} {p : Program} {e : Env} {below : List Frame} {s : State} {m : MethodId} {meth : Method} {c : Code} {Z : State} {a0 args : Array Value} {T : State} {h0 : Heap} (X : Stand p l e ({ frames := 0, cells := 0, slots := 0, locals := 0 } : Room) s m args below meth c T [] 0 0) (C : own_Ctx p s m meth c Z a0 tables_1 (⟨"com/example/where/where/parsing/XmlCharsIsNameStartCharPinLaw", "reference", "(C)Z"⟩ : MethodName) method_3_code 2 (some .boolean)) (hh : T.heap = h0) (v0 : Int32) (v1 : Int32) :
    own_Fin p e below s (own_QP (some (.int (own_f2_243 v0 v1))) h0) 0 0 (T.setTop (mkF m 243 #[.val (.int v0), .val (.int v1)] [])) := by
  obtain ⟨hx, hby, hml, hZ, hown, hnm, hret, hlk, hw⟩ := id C
  refine own_go (fun t => XS.iloadN X.here hx rfl (hb hby own_d2_243) rfl) ?_
  show own_Fin p e below s (own_QP (some (.int (own_f2_243 v0 v1))) h0) 0 0 (T.setTop (mkF m 244 #[.val (.int v0), .val (.int v1)] [(.int v1)]))
  refine own_go (fun t => X.ldcInt hx hown (mvT hZ (hw _ (List.mem_of_getElem? (i := 17) rfl))) (g := (mkF m 244 #[.val (.int v0), .val (.int v1)] [(.int v1)])) rfl (hb hby own_d2_244) t) ?_
  show own_Fin p e below s (own_QP (some (.int (own_f2_243 v0 v1))) h0) 0 0 (T.setTop (mkF m 246 #[.val (.int v0), .val (.int v1)] [(.int (65008 : Int32)), (.int v1)]))
  by_cases hq : v1 < (65008 : Int32)
  · show own_Fin p e below s (own_QP (some (.int (own_f2_243 v0 v1))) h0) 0 0 _
    rw [show (own_f2_243 v0 v1) = (own_f2_249 v0 v1) from if_pos hq]
    refine own_go (fun t => XS.icmpNo X.here hx rfl (hb hby own_d2_246) rfl (tlt hq).2.1) ?_
    show own_Fin p e below s (own_QP (some (.int (own_f2_249 v0 v1))) h0) 0 0 (T.setTop (mkF m 249 #[.val (.int v0), .val (.int v1)] []))
    exact own_b2_249 X C hh v0 v1
  · show own_Fin p e below s (own_QP (some (.int (own_f2_243 v0 v1))) h0) 0 0 _
    rw [show (own_f2_243 v0 v1) = (own_f2_251 v0 v1) from if_neg hq]
    refine own_go (fun t => XS.icmpYes X.here hx rfl (pc0 := 246) (pc' := 251) rfl (hb hby own_d2_246) rfl (flt hq).2.1 (by decide) (by decide)) ?_
    show own_Fin p e below s (own_QP (some (.int (own_f2_251 v0 v1))) h0) 0 0 (T.setTop (mkF m 251 #[.val (.int v0), .val (.int v1)] []))
    exact own_b2_251 X C hh v0 v1
def own_f2_241 (v0 : Int32) (v1 : Int32) : Int32 := (1 : Int32)
set_option maxRecDepth 65536 in
theorem own_b2_241 {l : Launch} {p : Program} {e : Env} {below : List Frame} {s : State} {m : MethodId} {meth : Method} {c : Code} {Z : State} {a0 args : Array Value} {T : State} {h0 : Heap} (X : Stand p l e ({ frames := 0, cells := 0, slots := 0, locals := 0 } : Room) s m args below meth c T [] 0 0) (C : own_Ctx p s m meth c Z a0 tables_1 (⟨"com/example/where/where/parsing/XmlCharsIsNameStartCharPinLaw", "reference", "(C)Z"⟩ : MethodName) method_3_code 2 (some .boolean)) (hh : T.heap = h0) (v0 : Int32) (v1 : Int32) :
    own_Fin p e below s (own_QP (some (.int (own_f2_241 v0 v1))) h0) 0 0 (T.setTop (mkF m 241 #[.val (.int v0), .val (.int v1)] [])) := by
  obtain ⟨hx, hby, hml, hZ, hown, hnm, hret, hlk, hw⟩ := id C
  refine own_go (fun t => XS.iconst X.here hx rfl (hb hby own_d2_241)) ?_
  show own_Fin p e below s (own_QP (some (.int (own_f2_241 v0 v1))) h0) 0 0 (T.setTop (mkF m 242 #[.val (.int v0), .val (.int v1)] [(.int (1 : Int32))]))
  exact own_ret X hlk hx (t := .boolean) hret rfl (Or.inl ⟨rfl, by simp, _, rfl⟩) (hb hby own_d2_242) ⟨rfl, rfl, hh⟩ (by decide) (by decide)
def own_f2_235 (v0 : Int32) (v1 : Int32) : Int32 := if (64975 : Int32) < v1 then (own_f2_243 v0 v1) else (own_f2_241 v0 v1)
set_option maxRecDepth 65536 in
theorem own_b2_235 {l : Launch} {p : Program} {e : Env} {below : List Frame} {s : State} {m : MethodId} {meth : Method} {c : Code} {Z : State} {a0 args : Array Value} {T : State} {h0 : Heap} (X : Stand p l e ({ frames := 0, cells := 0, slots := 0, locals := 0 } : Room) s m args below meth c T [] 0 0) (C : own_Ctx p s m meth c Z a0 tables_1 (⟨"com/example/where/where/parsing/XmlCharsIsNameStartCharPinLaw", "reference", "(C)Z"⟩ : MethodName) method_3_code 2 (some .boolean)) (hh : T.heap = h0) (v0 : Int32) (v1 : Int32) :
    own_Fin p e below s (own_QP (some (.int (own_f2_235 v0 v1))) h0) 0 0 (T.setTop (mkF m 235 #[.val (.int v0), .val (.int v1)] [])) := by
  obtain ⟨hx, hby, hml, hZ, hown, hnm, hret, hlk, hw⟩ := id C
  refine own_go (fun t => XS.iloadN X.here hx rfl (hb hby own_d2_235) rfl) ?_
  show own_Fin p e below s (own_QP (some (.int (own_f2_235 v0 v1))) h0) 0 0 (T.setTop (mkF m 236 #[.val (.int v0), .val (.int v1)] [(.int v1)]))
  refine own_go (fun t => X.ldcInt hx hown (mvT hZ (hw _ (List.mem_of_getElem? (i := 16) rfl))) (g := (mkF m 236 #[.val (.int v0), .val (.int v1)] [(.int v1)])) rfl (hb hby own_d2_236) t) ?_
  show own_Fin p e below s (own_QP (some (.int (own_f2_235 v0 v1))) h0) 0 0 (T.setTop (mkF m 238 #[.val (.int v0), .val (.int v1)] [(.int (64975 : Int32)), (.int v1)]))
  by_cases hq : (64975 : Int32) < v1
  · show own_Fin p e below s (own_QP (some (.int (own_f2_235 v0 v1))) h0) 0 0 _
    rw [show (own_f2_235 v0 v1) = (own_f2_243 v0 v1) from if_pos hq]
    refine own_go (fun t => XS.icmpYes X.here hx rfl (pc0 := 238) (pc' := 243) rfl (hb hby own_d2_238) rfl (tlt hq).2.2.1 (by decide) (by decide)) ?_
    show own_Fin p e below s (own_QP (some (.int (own_f2_243 v0 v1))) h0) 0 0 (T.setTop (mkF m 243 #[.val (.int v0), .val (.int v1)] []))
    exact own_b2_243 X C hh v0 v1
  · show own_Fin p e below s (own_QP (some (.int (own_f2_235 v0 v1))) h0) 0 0 _
    rw [show (own_f2_235 v0 v1) = (own_f2_241 v0 v1) from if_neg hq]
    refine own_go (fun t => XS.icmpNo X.here hx rfl (hb hby own_d2_238) rfl (flt hq).2.2.1) ?_
    show own_Fin p e below s (own_QP (some (.int (own_f2_241 v0 v1))) h0) 0 0 (T.setTop (mkF m 241 #[.val (.int v0), .val (.int v1)] []))
    exact own_b2_241 X C hh v0 v1
def own_f2_233 (v0 : Int32) (v1 : Int32) : Int32 := (0 : Int32)
set_option maxRecDepth 65536 in
theorem own_b2_233 {l : Launch} {p : Program} {e : Env} {below : List Frame} {s : State} {m : MethodId} {meth : Method} {c : Code} {Z : State} {a0 args : Array Value} {T : State} {h0 : Heap} (X : Stand p l e ({ frames := 0, cells := 0, slots := 0, locals := 0 } : Room) s m args below meth c T [] 0 0) (C : own_Ctx p s m meth c Z a0 tables_1 (⟨"com/example/where/where/parsing/XmlCharsIsNameStartCharPinLaw", "reference", "(C)Z"⟩ : MethodName) method_3_code 2 (some .boolean)) (hh : T.heap = h0) (v0 : Int32) (v1 : Int32) :
    own_Fin p e below s (own_QP (some (.int (own_f2_233 v0 v1))) h0) 0 0 (T.setTop (mkF m 233 #[.val (.int v0), .val (.int v1)] [])) := by
  obtain ⟨hx, hby, hml, hZ, hown, hnm, hret, hlk, hw⟩ := id C
  refine own_go (fun t => XS.iconst X.here hx rfl (hb hby own_d2_233)) ?_
  show own_Fin p e below s (own_QP (some (.int (own_f2_233 v0 v1))) h0) 0 0 (T.setTop (mkF m 234 #[.val (.int v0), .val (.int v1)] [(.int (0 : Int32))]))
  exact own_ret X hlk hx (t := .boolean) hret rfl (Or.inl ⟨rfl, by simp, _, rfl⟩) (hb hby own_d2_234) ⟨rfl, rfl, hh⟩ (by decide) (by decide)
def own_f2_227 (v0 : Int32) (v1 : Int32) : Int32 := if v1 < (63744 : Int32) then (own_f2_233 v0 v1) else (own_f2_235 v0 v1)
set_option maxRecDepth 65536 in
theorem own_b2_227 {l : Launch} {p : Program} {e : Env} {below : List Frame} {s : State} {m : MethodId} {meth : Method} {c : Code} {Z : State} {a0 args : Array Value} {T : State} {h0 : Heap} (X : Stand p l e ({ frames := 0, cells := 0, slots := 0, locals := 0 } : Room) s m args below meth c T [] 0 0) (C : own_Ctx p s m meth c Z a0 tables_1 (⟨"com/example/where/where/parsing/XmlCharsIsNameStartCharPinLaw", "reference", "(C)Z"⟩ : MethodName) method_3_code 2 (some .boolean)) (hh : T.heap = h0) (v0 : Int32) (v1 : Int32) :
    own_Fin p e below s (own_QP (some (.int (own_f2_227 v0 v1))) h0) 0 0 (T.setTop (mkF m 227 #[.val (.int v0), .val (.int v1)] [])) := by
  obtain ⟨hx, hby, hml, hZ, hown, hnm, hret, hlk, hw⟩ := id C
  refine own_go (fun t => XS.iloadN X.here hx rfl (hb hby own_d2_227) rfl) ?_
  show own_Fin p e below s (own_QP (some (.int (own_f2_227 v0 v1))) h0) 0 0 (T.setTop (mkF m 228 #[.val (.int v0), .val (.int v1)] [(.int v1)]))
  refine own_go (fun t => X.ldcInt hx hown (mvT hZ (hw _ (List.mem_of_getElem? (i := 15) rfl))) (g := (mkF m 228 #[.val (.int v0), .val (.int v1)] [(.int v1)])) rfl (hb hby own_d2_228) t) ?_
  show own_Fin p e below s (own_QP (some (.int (own_f2_227 v0 v1))) h0) 0 0 (T.setTop (mkF m 230 #[.val (.int v0), .val (.int v1)] [(.int (63744 : Int32)), (.int v1)]))
  by_cases hq : v1 < (63744 : Int32)
  · show own_Fin p e below s (own_QP (some (.int (own_f2_227 v0 v1))) h0) 0 0 _
    rw [show (own_f2_227 v0 v1) = (own_f2_233 v0 v1) from if_pos hq]
    refine own_go (fun t => XS.icmpNo X.here hx rfl (hb hby own_d2_230) rfl (tlt hq).2.1) ?_
    show own_Fin p e below s (own_QP (some (.int (own_f2_233 v0 v1))) h0) 0 0 (T.setTop (mkF m 233 #[.val (.int v0), .val (.int v1)] []))
    exact own_b2_233 X C hh v0 v1
  · show own_Fin p e below s (own_QP (some (.int (own_f2_227 v0 v1))) h0) 0 0 _
    rw [show (own_f2_227 v0 v1) = (own_f2_235 v0 v1) from if_neg hq]
    refine own_go (fun t => XS.icmpYes X.here hx rfl (pc0 := 230) (pc' := 235) rfl (hb hby own_d2_230) rfl (flt hq).2.1 (by decide) (by decide)) ?_
    show own_Fin p e below s (own_QP (some (.int (own_f2_235 v0 v1))) h0) 0 0 (T.setTop (mkF m 235 #[.val (.int v0), .val (.int v1)] []))
    exact own_b2_235 X C hh v0 v1
def own_f2_225 (v0 : Int32) (v1 : Int32) : Int32 := (1 : Int32)
set_option maxRecDepth 65536 in
theorem own_b2_225 {l : Launch} {p : Program} {e : Env} {below : List Frame} {s : State} {m : MethodId} {meth : Method} {c : Code} {Z : State} {a0 args : Array Value} {T : State} {h0 : Heap} (X : Stand p l e ({ frames := 0, cells := 0, slots := 0, locals := 0 } : Room) s m args below meth c T [] 0 0) (C : own_Ctx p s m meth c Z a0 tables_1 (⟨"com/example/where/where/parsing/XmlCharsIsNameStartCharPinLaw", "reference", "(C)Z"⟩ : MethodName) method_3_code 2 (some .boolean)) (hh : T.heap = h0) (v0 : Int32) (v1 : Int32) :
    own_Fin p e below s (own_QP (some (.int (own_f2_225 v0 v1))) h0) 0 0 (T.setTop (mkF m 225 #[.val (.int v0), .val (.int v1)] [])) := by
  obtain ⟨hx, hby, hml, hZ, hown, hnm, hret, hlk, hw⟩ := id C
  refine own_go (fun t => XS.iconst X.here hx rfl (hb hby own_d2_225)) ?_
  show own_Fin p e below s (own_QP (some (.int (own_f2_225 v0 v1))) h0) 0 0 (T.setTop (mkF m 226 #[.val (.int v0), .val (.int v1)] [(.int (1 : Int32))]))
  exact own_ret X hlk hx (t := .boolean) hret rfl (Or.inl ⟨rfl, by simp, _, rfl⟩) (hb hby own_d2_226) ⟨rfl, rfl, hh⟩ (by decide) (by decide)
def own_f2_219 (v0 : Int32) (v1 : Int32) : Int32 := if (55295 : Int32) < v1 then (own_f2_227 v0 v1) else (own_f2_225 v0 v1)
set_option maxRecDepth 65536 in
theorem own_b2_219 {l : Launch} {p : Program} {e : Env} {below : List Frame} {s : State} {m : MethodId} {meth : Method} {c : Code} {Z : State} {a0 args : Array Value} {T : State} {h0 : Heap} (X : Stand p l e ({ frames := 0, cells := 0, slots := 0, locals := 0 } : Room) s m args below meth c T [] 0 0) (C : own_Ctx p s m meth c Z a0 tables_1 (⟨"com/example/where/where/parsing/XmlCharsIsNameStartCharPinLaw", "reference", "(C)Z"⟩ : MethodName) method_3_code 2 (some .boolean)) (hh : T.heap = h0) (v0 : Int32) (v1 : Int32) :
    own_Fin p e below s (own_QP (some (.int (own_f2_219 v0 v1))) h0) 0 0 (T.setTop (mkF m 219 #[.val (.int v0), .val (.int v1)] [])) := by
  obtain ⟨hx, hby, hml, hZ, hown, hnm, hret, hlk, hw⟩ := id C
  refine own_go (fun t => XS.iloadN X.here hx rfl (hb hby own_d2_219) rfl) ?_
  show own_Fin p e below s (own_QP (some (.int (own_f2_219 v0 v1))) h0) 0 0 (T.setTop (mkF m 220 #[.val (.int v0), .val (.int v1)] [(.int v1)]))
  refine own_go (fun t => X.ldcInt hx hown (mvT hZ (hw _ (List.mem_of_getElem? (i := 12) rfl))) (g := (mkF m 220 #[.val (.int v0), .val (.int v1)] [(.int v1)])) rfl (hb hby own_d2_220) t) ?_
  show own_Fin p e below s (own_QP (some (.int (own_f2_219 v0 v1))) h0) 0 0 (T.setTop (mkF m 222 #[.val (.int v0), .val (.int v1)] [(.int (55295 : Int32)), (.int v1)]))
  by_cases hq : (55295 : Int32) < v1
  · show own_Fin p e below s (own_QP (some (.int (own_f2_219 v0 v1))) h0) 0 0 _
    rw [show (own_f2_219 v0 v1) = (own_f2_227 v0 v1) from if_pos hq]
    refine own_go (fun t => XS.icmpYes X.here hx rfl (pc0 := 222) (pc' := 227) rfl (hb hby own_d2_222) rfl (tlt hq).2.2.1 (by decide) (by decide)) ?_
    show own_Fin p e below s (own_QP (some (.int (own_f2_227 v0 v1))) h0) 0 0 (T.setTop (mkF m 227 #[.val (.int v0), .val (.int v1)] []))
    exact own_b2_227 X C hh v0 v1
  · show own_Fin p e below s (own_QP (some (.int (own_f2_219 v0 v1))) h0) 0 0 _
    rw [show (own_f2_219 v0 v1) = (own_f2_225 v0 v1) from if_neg hq]
    refine own_go (fun t => XS.icmpNo X.here hx rfl (hb hby own_d2_222) rfl (flt hq).2.2.1) ?_
    show own_Fin p e below s (own_QP (some (.int (own_f2_225 v0 v1))) h0) 0 0 (T.setTop (mkF m 225 #[.val (.int v0), .val (.int v1)] []))
    exact own_b2_225 X C hh v0 v1
def own_f2_217 (v0 : Int32) (v1 : Int32) : Int32 := (0 : Int32)
set_option maxRecDepth 65536 in
theorem own_b2_217 {l : Launch} {p : Program} {e : Env} {below : List Frame} {s : State} {m : MethodId} {meth : Method} {c : Code} {Z : State} {a0 args : Array Value} {T : State} {h0 : Heap} (X : Stand p l e ({ frames := 0, cells := 0, slots := 0, locals := 0 } : Room) s m args below meth c T [] 0 0) (C : own_Ctx p s m meth c Z a0 tables_1 (⟨"com/example/where/where/parsing/XmlCharsIsNameStartCharPinLaw", "reference", "(C)Z"⟩ : MethodName) method_3_code 2 (some .boolean)) (hh : T.heap = h0) (v0 : Int32) (v1 : Int32) :
    own_Fin p e below s (own_QP (some (.int (own_f2_217 v0 v1))) h0) 0 0 (T.setTop (mkF m 217 #[.val (.int v0), .val (.int v1)] [])) := by
  obtain ⟨hx, hby, hml, hZ, hown, hnm, hret, hlk, hw⟩ := id C
  refine own_go (fun t => XS.iconst X.here hx rfl (hb hby own_d2_217)) ?_
  show own_Fin p e below s (own_QP (some (.int (own_f2_217 v0 v1))) h0) 0 0 (T.setTop (mkF m 218 #[.val (.int v0), .val (.int v1)] [(.int (0 : Int32))]))
  exact own_ret X hlk hx (t := .boolean) hret rfl (Or.inl ⟨rfl, by simp, _, rfl⟩) (hb hby own_d2_218) ⟨rfl, rfl, hh⟩ (by decide) (by decide)
def own_f2_210 (v0 : Int32) (v1 : Int32) : Int32 := if v1 < (12289 : Int32) then (own_f2_217 v0 v1) else (own_f2_219 v0 v1)
set_option maxRecDepth 65536 in
theorem own_b2_210 {l : Launch} {p : Program} {e : Env} {below : List Frame} {s : State} {m : MethodId} {meth : Method} {c : Code} {Z : State} {a0 args : Array Value} {T : State} {h0 : Heap} (X : Stand p l e ({ frames := 0, cells := 0, slots := 0, locals := 0 } : Room) s m args below meth c T [] 0 0) (C : own_Ctx p s m meth c Z a0 tables_1 (⟨"com/example/where/where/parsing/XmlCharsIsNameStartCharPinLaw", "reference", "(C)Z"⟩ : MethodName) method_3_code 2 (some .boolean)) (hh : T.heap = h0) (v0 : Int32) (v1 : Int32) :
    own_Fin p e below s (own_QP (some (.int (own_f2_210 v0 v1))) h0) 0 0 (T.setTop (mkF m 210 #[.val (.int v0), .val (.int v1)] [])) := by
  obtain ⟨hx, hby, hml, hZ, hown, hnm, hret, hlk, hw⟩ := id C
  refine own_go (fun t => XS.iloadN X.here hx rfl (hb hby own_d2_210) rfl) ?_
  show own_Fin p e below s (own_QP (some (.int (own_f2_210 v0 v1))) h0) 0 0 (T.setTop (mkF m 211 #[.val (.int v0), .val (.int v1)] [(.int v1)]))
  refine own_go (fun t => XS.sipush X.here hx rfl (hb hby own_d2_211)) ?_
  show own_Fin p e below s (own_QP (some (.int (own_f2_210 v0 v1))) h0) 0 0 (T.setTop (mkF m 214 #[.val (.int v0), .val (.int v1)] [(.int (12289 : Int32)), (.int v1)]))
  by_cases hq : v1 < (12289 : Int32)
  · show own_Fin p e below s (own_QP (some (.int (own_f2_210 v0 v1))) h0) 0 0 _
    rw [show (own_f2_210 v0 v1) = (own_f2_217 v0 v1) from if_pos hq]
    refine own_go (fun t => XS.icmpNo X.here hx rfl (hb hby own_d2_214) rfl (tlt hq).2.1) ?_
    show own_Fin p e below s (own_QP (some (.int (own_f2_217 v0 v1))) h0) 0 0 (T.setTop (mkF m 217 #[.val (.int v0), .val (.int v1)] []))
    exact own_b2_217 X C hh v0 v1
  · show own_Fin p e below s (own_QP (some (.int (own_f2_210 v0 v1))) h0) 0 0 _
    rw [show (own_f2_210 v0 v1) = (own_f2_219 v0 v1) from if_neg hq]
    refine own_go (fun t => XS.icmpYes X.here hx rfl (pc0 := 214) (pc' := 219) rfl (hb hby own_d2_214) rfl (flt hq).2.1 (by decide) (by decide)) ?_
    show own_Fin p e below s (own_QP (some (.int (own_f2_219 v0 v1))) h0) 0 0 (T.setTop (mkF m 219 #[.val (.int v0), .val (.int v1)] []))
    exact own_b2_219 X C hh v0 v1
def own_f2_208 (v0 : Int32) (v1 : Int32) : Int32 := (1 : Int32)
set_option maxRecDepth 65536 in
theorem own_b2_208 {l : Launch} {p : Program} {e : Env} {below : List Frame} {s : State} {m : MethodId} {meth : Method} {c : Code} {Z : State} {a0 args : Array Value} {T : State} {h0 : Heap} (X : Stand p l e ({ frames := 0, cells := 0, slots := 0, locals := 0 } : Room) s m args below meth c T [] 0 0) (C : own_Ctx p s m meth c Z a0 tables_1 (⟨"com/example/where/where/parsing/XmlCharsIsNameStartCharPinLaw", "reference", "(C)Z"⟩ : MethodName) method_3_code 2 (some .boolean)) (hh : T.heap = h0) (v0 : Int32) (v1 : Int32) :
    own_Fin p e below s (own_QP (some (.int (own_f2_208 v0 v1))) h0) 0 0 (T.setTop (mkF m 208 #[.val (.int v0), .val (.int v1)] [])) := by
  obtain ⟨hx, hby, hml, hZ, hown, hnm, hret, hlk, hw⟩ := id C
  refine own_go (fun t => XS.iconst X.here hx rfl (hb hby own_d2_208)) ?_
  show own_Fin p e below s (own_QP (some (.int (own_f2_208 v0 v1))) h0) 0 0 (T.setTop (mkF m 209 #[.val (.int v0), .val (.int v1)] [(.int (1 : Int32))]))
  exact own_ret X hlk hx (t := .boolean) hret rfl (Or.inl ⟨rfl, by simp, _, rfl⟩) (hb hby own_d2_209) ⟨rfl, rfl, hh⟩ (by decide) (by decide)
def own_f2_201 (v0 : Int32) (v1 : Int32) : Int32 := if (12271 : Int32) < v1 then (own_f2_210 v0 v1) else (own_f2_208 v0 v1)
set_option maxRecDepth 65536 in
theorem own_b2_201 {l : Launch} {p : Program} {e : Env} {below : List Frame} {s : State} {m : MethodId} {meth : Method} {c : Code} {Z : State} {a0 args : Array Value} {T : State} {h0 : Heap} (X : Stand p l e ({ frames := 0, cells := 0, slots := 0, locals := 0 } : Room) s m args below meth c T [] 0 0) (C : own_Ctx p s m meth c Z a0 tables_1 (⟨"com/example/where/where/parsing/XmlCharsIsNameStartCharPinLaw", "reference", "(C)Z"⟩ : MethodName) method_3_code 2 (some .boolean)) (hh : T.heap = h0) (v0 : Int32) (v1 : Int32) :
    own_Fin p e below s (own_QP (some (.int (own_f2_201 v0 v1))) h0) 0 0 (T.setTop (mkF m 201 #[.val (.int v0), .val (.int v1)] [])) := by
  obtain ⟨hx, hby, hml, hZ, hown, hnm, hret, hlk, hw⟩ := id C
  refine own_go (fun t => XS.iloadN X.here hx rfl (hb hby own_d2_201) rfl) ?_
  show own_Fin p e below s (own_QP (some (.int (own_f2_201 v0 v1))) h0) 0 0 (T.setTop (mkF m 202 #[.val (.int v0), .val (.int v1)] [(.int v1)]))
  refine own_go (fun t => XS.sipush X.here hx rfl (hb hby own_d2_202)) ?_
  show own_Fin p e below s (own_QP (some (.int (own_f2_201 v0 v1))) h0) 0 0 (T.setTop (mkF m 205 #[.val (.int v0), .val (.int v1)] [(.int (12271 : Int32)), (.int v1)]))
  by_cases hq : (12271 : Int32) < v1
  · show own_Fin p e below s (own_QP (some (.int (own_f2_201 v0 v1))) h0) 0 0 _
    rw [show (own_f2_201 v0 v1) = (own_f2_210 v0 v1) from if_pos hq]
    refine own_go (fun t => XS.icmpYes X.here hx rfl (pc0 := 205) (pc' := 210) rfl (hb hby own_d2_205) rfl (tlt hq).2.2.1 (by decide) (by decide)) ?_
    show own_Fin p e below s (own_QP (some (.int (own_f2_210 v0 v1))) h0) 0 0 (T.setTop (mkF m 210 #[.val (.int v0), .val (.int v1)] []))
    exact own_b2_210 X C hh v0 v1
  · show own_Fin p e below s (own_QP (some (.int (own_f2_201 v0 v1))) h0) 0 0 _
    rw [show (own_f2_201 v0 v1) = (own_f2_208 v0 v1) from if_neg hq]
    refine own_go (fun t => XS.icmpNo X.here hx rfl (hb hby own_d2_205) rfl (flt hq).2.2.1) ?_
    show own_Fin p e below s (own_QP (some (.int (own_f2_208 v0 v1))) h0) 0 0 (T.setTop (mkF m 208 #[.val (.int v0), .val (.int v1)] []))
    exact own_b2_208 X C hh v0 v1
def own_f2_199 (v0 : Int32) (v1 : Int32) : Int32 := (0 : Int32)
set_option maxRecDepth 65536 in
theorem own_b2_199 {l : Launch} {p : Program} {e : Env} {below : List Frame} {s : State} {m : MethodId} {meth : Method} {c : Code} {Z : State} {a0 args : Array Value} {T : State} {h0 : Heap} (X : Stand p l e ({ frames := 0, cells := 0, slots := 0, locals := 0 } : Room) s m args below meth c T [] 0 0) (C : own_Ctx p s m meth c Z a0 tables_1 (⟨"com/example/where/where/parsing/XmlCharsIsNameStartCharPinLaw", "reference", "(C)Z"⟩ : MethodName) method_3_code 2 (some .boolean)) (hh : T.heap = h0) (v0 : Int32) (v1 : Int32) :
    own_Fin p e below s (own_QP (some (.int (own_f2_199 v0 v1))) h0) 0 0 (T.setTop (mkF m 199 #[.val (.int v0), .val (.int v1)] [])) := by
  obtain ⟨hx, hby, hml, hZ, hown, hnm, hret, hlk, hw⟩ := id C
  refine own_go (fun t => XS.iconst X.here hx rfl (hb hby own_d2_199)) ?_
  show own_Fin p e below s (own_QP (some (.int (own_f2_199 v0 v1))) h0) 0 0 (T.setTop (mkF m 200 #[.val (.int v0), .val (.int v1)] [(.int (0 : Int32))]))
  exact own_ret X hlk hx (t := .boolean) hret rfl (Or.inl ⟨rfl, by simp, _, rfl⟩) (hb hby own_d2_200) ⟨rfl, rfl, hh⟩ (by decide) (by decide)
def own_f2_192 (v0 : Int32) (v1 : Int32) : Int32 := if v1 < (11264 : Int32) then (own_f2_199 v0 v1) else (own_f2_201 v0 v1)
set_option maxRecDepth 65536 in
theorem own_b2_192 {l : Launch} {p : Program} {e : Env} {below : List Frame} {s : State} {m : MethodId} {meth : Method} {c : Code} {Z : State} {a0 args : Array Value} {T : State} {h0 : Heap} (X : Stand p l e ({ frames := 0, cells := 0, slots := 0, locals := 0 } : Room) s m args below meth c T [] 0 0) (C : own_Ctx p s m meth c Z a0 tables_1 (⟨"com/example/where/where/parsing/XmlCharsIsNameStartCharPinLaw", "reference", "(C)Z"⟩ : MethodName) method_3_code 2 (some .boolean)) (hh : T.heap = h0) (v0 : Int32) (v1 : Int32) :
    own_Fin p e below s (own_QP (some (.int (own_f2_192 v0 v1))) h0) 0 0 (T.setTop (mkF m 192 #[.val (.int v0), .val (.int v1)] [])) := by
  obtain ⟨hx, hby, hml, hZ, hown, hnm, hret, hlk, hw⟩ := id C
  refine own_go (fun t => XS.iloadN X.here hx rfl (hb hby own_d2_192) rfl) ?_
  show own_Fin p e below s (own_QP (some (.int (own_f2_192 v0 v1))) h0) 0 0 (T.setTop (mkF m 193 #[.val (.int v0), .val (.int v1)] [(.int v1)]))
  refine own_go (fun t => XS.sipush X.here hx rfl (hb hby own_d2_193)) ?_
  show own_Fin p e below s (own_QP (some (.int (own_f2_192 v0 v1))) h0) 0 0 (T.setTop (mkF m 196 #[.val (.int v0), .val (.int v1)] [(.int (11264 : Int32)), (.int v1)]))
  by_cases hq : v1 < (11264 : Int32)
  · show own_Fin p e below s (own_QP (some (.int (own_f2_192 v0 v1))) h0) 0 0 _
    rw [show (own_f2_192 v0 v1) = (own_f2_199 v0 v1) from if_pos hq]
    refine own_go (fun t => XS.icmpNo X.here hx rfl (hb hby own_d2_196) rfl (tlt hq).2.1) ?_
    show own_Fin p e below s (own_QP (some (.int (own_f2_199 v0 v1))) h0) 0 0 (T.setTop (mkF m 199 #[.val (.int v0), .val (.int v1)] []))
    exact own_b2_199 X C hh v0 v1
  · show own_Fin p e below s (own_QP (some (.int (own_f2_192 v0 v1))) h0) 0 0 _
    rw [show (own_f2_192 v0 v1) = (own_f2_201 v0 v1) from if_neg hq]
    refine own_go (fun t => XS.icmpYes X.here hx rfl (pc0 := 196) (pc' := 201) rfl (hb hby own_d2_196) rfl (flt hq).2.1 (by decide) (by decide)) ?_
    show own_Fin p e below s (own_QP (some (.int (own_f2_201 v0 v1))) h0) 0 0 (T.setTop (mkF m 201 #[.val (.int v0), .val (.int v1)] []))
    exact own_b2_201 X C hh v0 v1
def own_f2_190 (v0 : Int32) (v1 : Int32) : Int32 := (1 : Int32)
set_option maxRecDepth 65536 in
theorem own_b2_190 {l : Launch} {p : Program} {e : Env} {below : List Frame} {s : State} {m : MethodId} {meth : Method} {c : Code} {Z : State} {a0 args : Array Value} {T : State} {h0 : Heap} (X : Stand p l e ({ frames := 0, cells := 0, slots := 0, locals := 0 } : Room) s m args below meth c T [] 0 0) (C : own_Ctx p s m meth c Z a0 tables_1 (⟨"com/example/where/where/parsing/XmlCharsIsNameStartCharPinLaw", "reference", "(C)Z"⟩ : MethodName) method_3_code 2 (some .boolean)) (hh : T.heap = h0) (v0 : Int32) (v1 : Int32) :
    own_Fin p e below s (own_QP (some (.int (own_f2_190 v0 v1))) h0) 0 0 (T.setTop (mkF m 190 #[.val (.int v0), .val (.int v1)] [])) := by
  obtain ⟨hx, hby, hml, hZ, hown, hnm, hret, hlk, hw⟩ := id C
  refine own_go (fun t => XS.iconst X.here hx rfl (hb hby own_d2_190)) ?_
  show own_Fin p e below s (own_QP (some (.int (own_f2_190 v0 v1))) h0) 0 0 (T.setTop (mkF m 191 #[.val (.int v0), .val (.int v1)] [(.int (1 : Int32))]))
  exact own_ret X hlk hx (t := .boolean) hret rfl (Or.inl ⟨rfl, by simp, _, rfl⟩) (hb hby own_d2_191) ⟨rfl, rfl, hh⟩ (by decide) (by decide)
def own_f2_183 (v0 : Int32) (v1 : Int32) : Int32 := if (8591 : Int32) < v1 then (own_f2_192 v0 v1) else (own_f2_190 v0 v1)
set_option maxRecDepth 65536 in
theorem own_b2_183 {l : Launch} {p : Program} {e : Env} {below : List Frame} {s : State} {m : MethodId} {meth : Method} {c : Code} {Z : State} {a0 args : Array Value} {T : State} {h0 : Heap} (X : Stand p l e ({ frames := 0, cells := 0, slots := 0, locals := 0 } : Room) s m args below meth c T [] 0 0) (C : own_Ctx p s m meth c Z a0 tables_1 (⟨"com/example/where/where/parsing/XmlCharsIsNameStartCharPinLaw", "reference", "(C)Z"⟩ : MethodName) method_3_code 2 (some .boolean)) (hh : T.heap = h0) (v0 : Int32) (v1 : Int32) :
    own_Fin p e below s (own_QP (some (.int (own_f2_183 v0 v1))) h0) 0 0 (T.setTop (mkF m 183 #[.val (.int v0), .val (.int v1)] [])) := by
  obtain ⟨hx, hby, hml, hZ, hown, hnm, hret, hlk, hw⟩ := id C
  refine own_go (fun t => XS.iloadN X.here hx rfl (hb hby own_d2_183) rfl) ?_
  show own_Fin p e below s (own_QP (some (.int (own_f2_183 v0 v1))) h0) 0 0 (T.setTop (mkF m 184 #[.val (.int v0), .val (.int v1)] [(.int v1)]))
  refine own_go (fun t => XS.sipush X.here hx rfl (hb hby own_d2_184)) ?_
  show own_Fin p e below s (own_QP (some (.int (own_f2_183 v0 v1))) h0) 0 0 (T.setTop (mkF m 187 #[.val (.int v0), .val (.int v1)] [(.int (8591 : Int32)), (.int v1)]))
  by_cases hq : (8591 : Int32) < v1
  · show own_Fin p e below s (own_QP (some (.int (own_f2_183 v0 v1))) h0) 0 0 _
    rw [show (own_f2_183 v0 v1) = (own_f2_192 v0 v1) from if_pos hq]
    refine own_go (fun t => XS.icmpYes X.here hx rfl (pc0 := 187) (pc' := 192) rfl (hb hby own_d2_187) rfl (tlt hq).2.2.1 (by decide) (by decide)) ?_
    show own_Fin p e below s (own_QP (some (.int (own_f2_192 v0 v1))) h0) 0 0 (T.setTop (mkF m 192 #[.val (.int v0), .val (.int v1)] []))
    exact own_b2_192 X C hh v0 v1
  · show own_Fin p e below s (own_QP (some (.int (own_f2_183 v0 v1))) h0) 0 0 _
    rw [show (own_f2_183 v0 v1) = (own_f2_190 v0 v1) from if_neg hq]
    refine own_go (fun t => XS.icmpNo X.here hx rfl (hb hby own_d2_187) rfl (flt hq).2.2.1) ?_
    show own_Fin p e below s (own_QP (some (.int (own_f2_190 v0 v1))) h0) 0 0 (T.setTop (mkF m 190 #[.val (.int v0), .val (.int v1)] []))
    exact own_b2_190 X C hh v0 v1
def own_f2_181 (v0 : Int32) (v1 : Int32) : Int32 := (0 : Int32)
set_option maxRecDepth 65536 in
theorem own_b2_181 {l : Launch} {p : Program} {e : Env} {below : List Frame} {s : State} {m : MethodId} {meth : Method} {c : Code} {Z : State} {a0 args : Array Value} {T : State} {h0 : Heap} (X : Stand p l e ({ frames := 0, cells := 0, slots := 0, locals := 0 } : Room) s m args below meth c T [] 0 0) (C : own_Ctx p s m meth c Z a0 tables_1 (⟨"com/example/where/where/parsing/XmlCharsIsNameStartCharPinLaw", "reference", "(C)Z"⟩ : MethodName) method_3_code 2 (some .boolean)) (hh : T.heap = h0) (v0 : Int32) (v1 : Int32) :
    own_Fin p e below s (own_QP (some (.int (own_f2_181 v0 v1))) h0) 0 0 (T.setTop (mkF m 181 #[.val (.int v0), .val (.int v1)] [])) := by
  obtain ⟨hx, hby, hml, hZ, hown, hnm, hret, hlk, hw⟩ := id C
  refine own_go (fun t => XS.iconst X.here hx rfl (hb hby own_d2_181)) ?_
  show own_Fin p e below s (own_QP (some (.int (own_f2_181 v0 v1))) h0) 0 0 (T.setTop (mkF m 182 #[.val (.int v0), .val (.int v1)] [(.int (0 : Int32))]))
  exact own_ret X hlk hx (t := .boolean) hret rfl (Or.inl ⟨rfl, by simp, _, rfl⟩) (hb hby own_d2_182) ⟨rfl, rfl, hh⟩ (by decide) (by decide)
def own_f2_174 (v0 : Int32) (v1 : Int32) : Int32 := if v1 < (8304 : Int32) then (own_f2_181 v0 v1) else (own_f2_183 v0 v1)
set_option maxRecDepth 65536 in
theorem own_b2_174 {l : Launch} {p : Program} {e : Env} {below : List Frame} {s : State} {m : MethodId} {meth : Method} {c : Code} {Z : State} {a0 args : Array Value} {T : State} {h0 : Heap} (X : Stand p l e ({ frames := 0, cells := 0, slots := 0, locals := 0 } : Room) s m args below meth c T [] 0 0) (C : own_Ctx p s m meth c Z a0 tables_1 (⟨"com/example/where/where/parsing/XmlCharsIsNameStartCharPinLaw", "reference", "(C)Z"⟩ : MethodName) method_3_code 2 (some .boolean)) (hh : T.heap = h0) (v0 : Int32) (v1 : Int32) :
    own_Fin p e below s (own_QP (some (.int (own_f2_174 v0 v1))) h0) 0 0 (T.setTop (mkF m 174 #[.val (.int v0), .val (.int v1)] [])) := by
  obtain ⟨hx, hby, hml, hZ, hown, hnm, hret, hlk, hw⟩ := id C
  refine own_go (fun t => XS.iloadN X.here hx rfl (hb hby own_d2_174) rfl) ?_
  show own_Fin p e below s (own_QP (some (.int (own_f2_174 v0 v1))) h0) 0 0 (T.setTop (mkF m 175 #[.val (.int v0), .val (.int v1)] [(.int v1)]))
  refine own_go (fun t => XS.sipush X.here hx rfl (hb hby own_d2_175)) ?_
  show own_Fin p e below s (own_QP (some (.int (own_f2_174 v0 v1))) h0) 0 0 (T.setTop (mkF m 178 #[.val (.int v0), .val (.int v1)] [(.int (8304 : Int32)), (.int v1)]))
  by_cases hq : v1 < (8304 : Int32)
  · show own_Fin p e below s (own_QP (some (.int (own_f2_174 v0 v1))) h0) 0 0 _
    rw [show (own_f2_174 v0 v1) = (own_f2_181 v0 v1) from if_pos hq]
    refine own_go (fun t => XS.icmpNo X.here hx rfl (hb hby own_d2_178) rfl (tlt hq).2.1) ?_
    show own_Fin p e below s (own_QP (some (.int (own_f2_181 v0 v1))) h0) 0 0 (T.setTop (mkF m 181 #[.val (.int v0), .val (.int v1)] []))
    exact own_b2_181 X C hh v0 v1
  · show own_Fin p e below s (own_QP (some (.int (own_f2_174 v0 v1))) h0) 0 0 _
    rw [show (own_f2_174 v0 v1) = (own_f2_183 v0 v1) from if_neg hq]
    refine own_go (fun t => XS.icmpYes X.here hx rfl (pc0 := 178) (pc' := 183) rfl (hb hby own_d2_178) rfl (flt hq).2.1 (by decide) (by decide)) ?_
    show own_Fin p e below s (own_QP (some (.int (own_f2_183 v0 v1))) h0) 0 0 (T.setTop (mkF m 183 #[.val (.int v0), .val (.int v1)] []))
    exact own_b2_183 X C hh v0 v1
def own_f2_172 (v0 : Int32) (v1 : Int32) : Int32 := (1 : Int32)
set_option maxRecDepth 65536 in
theorem own_b2_172 {l : Launch} {p : Program} {e : Env} {below : List Frame} {s : State} {m : MethodId} {meth : Method} {c : Code} {Z : State} {a0 args : Array Value} {T : State} {h0 : Heap} (X : Stand p l e ({ frames := 0, cells := 0, slots := 0, locals := 0 } : Room) s m args below meth c T [] 0 0) (C : own_Ctx p s m meth c Z a0 tables_1 (⟨"com/example/where/where/parsing/XmlCharsIsNameStartCharPinLaw", "reference", "(C)Z"⟩ : MethodName) method_3_code 2 (some .boolean)) (hh : T.heap = h0) (v0 : Int32) (v1 : Int32) :
    own_Fin p e below s (own_QP (some (.int (own_f2_172 v0 v1))) h0) 0 0 (T.setTop (mkF m 172 #[.val (.int v0), .val (.int v1)] [])) := by
  obtain ⟨hx, hby, hml, hZ, hown, hnm, hret, hlk, hw⟩ := id C
  refine own_go (fun t => XS.iconst X.here hx rfl (hb hby own_d2_172)) ?_
  show own_Fin p e below s (own_QP (some (.int (own_f2_172 v0 v1))) h0) 0 0 (T.setTop (mkF m 173 #[.val (.int v0), .val (.int v1)] [(.int (1 : Int32))]))
  exact own_ret X hlk hx (t := .boolean) hret rfl (Or.inl ⟨rfl, by simp, _, rfl⟩) (hb hby own_d2_173) ⟨rfl, rfl, hh⟩ (by decide) (by decide)
def own_f2_165 (v0 : Int32) (v1 : Int32) : Int32 := if (8205 : Int32) < v1 then (own_f2_174 v0 v1) else (own_f2_172 v0 v1)
set_option maxRecDepth 65536 in
theorem own_b2_165 {l : Launch} {p : Program} {e : Env} {below : List Frame} {s : State} {m : MethodId} {meth : Method} {c : Code} {Z : State} {a0 args : Array Value} {T : State} {h0 : Heap} (X : Stand p l e ({ frames := 0, cells := 0, slots := 0, locals := 0 } : Room) s m args below meth c T [] 0 0) (C : own_Ctx p s m meth c Z a0 tables_1 (⟨"com/example/where/where/parsing/XmlCharsIsNameStartCharPinLaw", "reference", "(C)Z"⟩ : MethodName) method_3_code 2 (some .boolean)) (hh : T.heap = h0) (v0 : Int32) (v1 : Int32) :
    own_Fin p e below s (own_QP (some (.int (own_f2_165 v0 v1))) h0) 0 0 (T.setTop (mkF m 165 #[.val (.int v0), .val (.int v1)] [])) := by
  obtain ⟨hx, hby, hml, hZ, hown, hnm, hret, hlk, hw⟩ := id C
  refine own_go (fun t => XS.iloadN X.here hx rfl (hb hby own_d2_165) rfl) ?_
  show own_Fin p e below s (own_QP (some (.int (own_f2_165 v0 v1))) h0) 0 0 (T.setTop (mkF m 166 #[.val (.int v0), .val (.int v1)] [(.int v1)]))
  refine own_go (fun t => XS.sipush X.here hx rfl (hb hby own_d2_166)) ?_
  show own_Fin p e below s (own_QP (some (.int (own_f2_165 v0 v1))) h0) 0 0 (T.setTop (mkF m 169 #[.val (.int v0), .val (.int v1)] [(.int (8205 : Int32)), (.int v1)]))
  by_cases hq : (8205 : Int32) < v1
  · show own_Fin p e below s (own_QP (some (.int (own_f2_165 v0 v1))) h0) 0 0 _
    rw [show (own_f2_165 v0 v1) = (own_f2_174 v0 v1) from if_pos hq]
    refine own_go (fun t => XS.icmpYes X.here hx rfl (pc0 := 169) (pc' := 174) rfl (hb hby own_d2_169) rfl (tlt hq).2.2.1 (by decide) (by decide)) ?_
    show own_Fin p e below s (own_QP (some (.int (own_f2_174 v0 v1))) h0) 0 0 (T.setTop (mkF m 174 #[.val (.int v0), .val (.int v1)] []))
    exact own_b2_174 X C hh v0 v1
  · show own_Fin p e below s (own_QP (some (.int (own_f2_165 v0 v1))) h0) 0 0 _
    rw [show (own_f2_165 v0 v1) = (own_f2_172 v0 v1) from if_neg hq]
    refine own_go (fun t => XS.icmpNo X.here hx rfl (hb hby own_d2_169) rfl (flt hq).2.2.1) ?_
    show own_Fin p e below s (own_QP (some (.int (own_f2_172 v0 v1))) h0) 0 0 (T.setTop (mkF m 172 #[.val (.int v0), .val (.int v1)] []))
    exact own_b2_172 X C hh v0 v1
def own_f2_163 (v0 : Int32) (v1 : Int32) : Int32 := (0 : Int32)
set_option maxRecDepth 65536 in
theorem own_b2_163 {l : Launch} {p : Program} {e : Env} {below : List Frame} {s : State} {m : MethodId} {meth : Method} {c : Code} {Z : State} {a0 args : Array Value} {T : State} {h0 : Heap} (X : Stand p l e ({ frames := 0, cells := 0, slots := 0, locals := 0 } : Room) s m args below meth c T [] 0 0) (C : own_Ctx p s m meth c Z a0 tables_1 (⟨"com/example/where/where/parsing/XmlCharsIsNameStartCharPinLaw", "reference", "(C)Z"⟩ : MethodName) method_3_code 2 (some .boolean)) (hh : T.heap = h0) (v0 : Int32) (v1 : Int32) :
    own_Fin p e below s (own_QP (some (.int (own_f2_163 v0 v1))) h0) 0 0 (T.setTop (mkF m 163 #[.val (.int v0), .val (.int v1)] [])) := by
  obtain ⟨hx, hby, hml, hZ, hown, hnm, hret, hlk, hw⟩ := id C
  refine own_go (fun t => XS.iconst X.here hx rfl (hb hby own_d2_163)) ?_
  show own_Fin p e below s (own_QP (some (.int (own_f2_163 v0 v1))) h0) 0 0 (T.setTop (mkF m 164 #[.val (.int v0), .val (.int v1)] [(.int (0 : Int32))]))
  exact own_ret X hlk hx (t := .boolean) hret rfl (Or.inl ⟨rfl, by simp, _, rfl⟩) (hb hby own_d2_164) ⟨rfl, rfl, hh⟩ (by decide) (by decide)
def own_f2_156 (v0 : Int32) (v1 : Int32) : Int32 := if v1 < (8204 : Int32) then (own_f2_163 v0 v1) else (own_f2_165 v0 v1)
set_option maxRecDepth 65536 in
theorem own_b2_156 {l : Launch} {p : Program} {e : Env} {below : List Frame} {s : State} {m : MethodId} {meth : Method} {c : Code} {Z : State} {a0 args : Array Value} {T : State} {h0 : Heap} (X : Stand p l e ({ frames := 0, cells := 0, slots := 0, locals := 0 } : Room) s m args below meth c T [] 0 0) (C : own_Ctx p s m meth c Z a0 tables_1 (⟨"com/example/where/where/parsing/XmlCharsIsNameStartCharPinLaw", "reference", "(C)Z"⟩ : MethodName) method_3_code 2 (some .boolean)) (hh : T.heap = h0) (v0 : Int32) (v1 : Int32) :
    own_Fin p e below s (own_QP (some (.int (own_f2_156 v0 v1))) h0) 0 0 (T.setTop (mkF m 156 #[.val (.int v0), .val (.int v1)] [])) := by
  obtain ⟨hx, hby, hml, hZ, hown, hnm, hret, hlk, hw⟩ := id C
  refine own_go (fun t => XS.iloadN X.here hx rfl (hb hby own_d2_156) rfl) ?_
  show own_Fin p e below s (own_QP (some (.int (own_f2_156 v0 v1))) h0) 0 0 (T.setTop (mkF m 157 #[.val (.int v0), .val (.int v1)] [(.int v1)]))
  refine own_go (fun t => XS.sipush X.here hx rfl (hb hby own_d2_157)) ?_
  show own_Fin p e below s (own_QP (some (.int (own_f2_156 v0 v1))) h0) 0 0 (T.setTop (mkF m 160 #[.val (.int v0), .val (.int v1)] [(.int (8204 : Int32)), (.int v1)]))
  by_cases hq : v1 < (8204 : Int32)
  · show own_Fin p e below s (own_QP (some (.int (own_f2_156 v0 v1))) h0) 0 0 _
    rw [show (own_f2_156 v0 v1) = (own_f2_163 v0 v1) from if_pos hq]
    refine own_go (fun t => XS.icmpNo X.here hx rfl (hb hby own_d2_160) rfl (tlt hq).2.1) ?_
    show own_Fin p e below s (own_QP (some (.int (own_f2_163 v0 v1))) h0) 0 0 (T.setTop (mkF m 163 #[.val (.int v0), .val (.int v1)] []))
    exact own_b2_163 X C hh v0 v1
  · show own_Fin p e below s (own_QP (some (.int (own_f2_156 v0 v1))) h0) 0 0 _
    rw [show (own_f2_156 v0 v1) = (own_f2_165 v0 v1) from if_neg hq]
    refine own_go (fun t => XS.icmpYes X.here hx rfl (pc0 := 160) (pc' := 165) rfl (hb hby own_d2_160) rfl (flt hq).2.1 (by decide) (by decide)) ?_
    show own_Fin p e below s (own_QP (some (.int (own_f2_165 v0 v1))) h0) 0 0 (T.setTop (mkF m 165 #[.val (.int v0), .val (.int v1)] []))
    exact own_b2_165 X C hh v0 v1
def own_f2_154 (v0 : Int32) (v1 : Int32) : Int32 := (1 : Int32)
set_option maxRecDepth 65536 in
theorem own_b2_154 {l : Launch} {p : Program} {e : Env} {below : List Frame} {s : State} {m : MethodId} {meth : Method} {c : Code} {Z : State} {a0 args : Array Value} {T : State} {h0 : Heap} (X : Stand p l e ({ frames := 0, cells := 0, slots := 0, locals := 0 } : Room) s m args below meth c T [] 0 0) (C : own_Ctx p s m meth c Z a0 tables_1 (⟨"com/example/where/where/parsing/XmlCharsIsNameStartCharPinLaw", "reference", "(C)Z"⟩ : MethodName) method_3_code 2 (some .boolean)) (hh : T.heap = h0) (v0 : Int32) (v1 : Int32) :
    own_Fin p e below s (own_QP (some (.int (own_f2_154 v0 v1))) h0) 0 0 (T.setTop (mkF m 154 #[.val (.int v0), .val (.int v1)] [])) := by
  obtain ⟨hx, hby, hml, hZ, hown, hnm, hret, hlk, hw⟩ := id C
  refine own_go (fun t => XS.iconst X.here hx rfl (hb hby own_d2_154)) ?_
  show own_Fin p e below s (own_QP (some (.int (own_f2_154 v0 v1))) h0) 0 0 (T.setTop (mkF m 155 #[.val (.int v0), .val (.int v1)] [(.int (1 : Int32))]))
  exact own_ret X hlk hx (t := .boolean) hret rfl (Or.inl ⟨rfl, by simp, _, rfl⟩) (hb hby own_d2_155) ⟨rfl, rfl, hh⟩ (by decide) (by decide)
def own_f2_147 (v0 : Int32) (v1 : Int32) : Int32 := if (8191 : Int32) < v1 then (own_f2_156 v0 v1) else (own_f2_154 v0 v1)
set_option maxRecDepth 65536 in
theorem own_b2_147 {l : Launch} {p : Program} {e : Env} {below : List Frame} {s : State} {m : MethodId} {meth : Method} {c : Code} {Z : State} {a0 args : Array Value} {T : State} {h0 : Heap} (X : Stand p l e ({ frames := 0, cells := 0, slots := 0, locals := 0 } : Room) s m args below meth c T [] 0 0) (C : own_Ctx p s m meth c Z a0 tables_1 (⟨"com/example/where/where/parsing/XmlCharsIsNameStartCharPinLaw", "reference", "(C)Z"⟩ : MethodName) method_3_code 2 (some .boolean)) (hh : T.heap = h0) (v0 : Int32) (v1 : Int32) :
    own_Fin p e below s (own_QP (some (.int (own_f2_147 v0 v1))) h0) 0 0 (T.setTop (mkF m 147 #[.val (.int v0), .val (.int v1)] [])) := by
  obtain ⟨hx, hby, hml, hZ, hown, hnm, hret, hlk, hw⟩ := id C
  refine own_go (fun t => XS.iloadN X.here hx rfl (hb hby own_d2_147) rfl) ?_
  show own_Fin p e below s (own_QP (some (.int (own_f2_147 v0 v1))) h0) 0 0 (T.setTop (mkF m 148 #[.val (.int v0), .val (.int v1)] [(.int v1)]))
  refine own_go (fun t => XS.sipush X.here hx rfl (hb hby own_d2_148)) ?_
  show own_Fin p e below s (own_QP (some (.int (own_f2_147 v0 v1))) h0) 0 0 (T.setTop (mkF m 151 #[.val (.int v0), .val (.int v1)] [(.int (8191 : Int32)), (.int v1)]))
  by_cases hq : (8191 : Int32) < v1
  · show own_Fin p e below s (own_QP (some (.int (own_f2_147 v0 v1))) h0) 0 0 _
    rw [show (own_f2_147 v0 v1) = (own_f2_156 v0 v1) from if_pos hq]
    refine own_go (fun t => XS.icmpYes X.here hx rfl (pc0 := 151) (pc' := 156) rfl (hb hby own_d2_151) rfl (tlt hq).2.2.1 (by decide) (by decide)) ?_
    show own_Fin p e below s (own_QP (some (.int (own_f2_156 v0 v1))) h0) 0 0 (T.setTop (mkF m 156 #[.val (.int v0), .val (.int v1)] []))
    exact own_b2_156 X C hh v0 v1
  · show own_Fin p e below s (own_QP (some (.int (own_f2_147 v0 v1))) h0) 0 0 _
    rw [show (own_f2_147 v0 v1) = (own_f2_154 v0 v1) from if_neg hq]
    refine own_go (fun t => XS.icmpNo X.here hx rfl (hb hby own_d2_151) rfl (flt hq).2.2.1) ?_
    show own_Fin p e below s (own_QP (some (.int (own_f2_154 v0 v1))) h0) 0 0 (T.setTop (mkF m 154 #[.val (.int v0), .val (.int v1)] []))
    exact own_b2_154 X C hh v0 v1
def own_f2_145 (v0 : Int32) (v1 : Int32) : Int32 := (0 : Int32)
set_option maxRecDepth 65536 in
theorem own_b2_145 {l : Launch} {p : Program} {e : Env} {below : List Frame} {s : State} {m : MethodId} {meth : Method} {c : Code} {Z : State} {a0 args : Array Value} {T : State} {h0 : Heap} (X : Stand p l e ({ frames := 0, cells := 0, slots := 0, locals := 0 } : Room) s m args below meth c T [] 0 0) (C : own_Ctx p s m meth c Z a0 tables_1 (⟨"com/example/where/where/parsing/XmlCharsIsNameStartCharPinLaw", "reference", "(C)Z"⟩ : MethodName) method_3_code 2 (some .boolean)) (hh : T.heap = h0) (v0 : Int32) (v1 : Int32) :
    own_Fin p e below s (own_QP (some (.int (own_f2_145 v0 v1))) h0) 0 0 (T.setTop (mkF m 145 #[.val (.int v0), .val (.int v1)] [])) := by
  obtain ⟨hx, hby, hml, hZ, hown, hnm, hret, hlk, hw⟩ := id C
  refine own_go (fun t => XS.iconst X.here hx rfl (hb hby own_d2_145)) ?_
  show own_Fin p e below s (own_QP (some (.int (own_f2_145 v0 v1))) h0) 0 0 (T.setTop (mkF m 146 #[.val (.int v0), .val (.int v1)] [(.int (0 : Int32))]))
  exact own_ret X hlk hx (t := .boolean) hret rfl (Or.inl ⟨rfl, by simp, _, rfl⟩) (hb hby own_d2_146) ⟨rfl, rfl, hh⟩ (by decide) (by decide)
def own_f2_138 (v0 : Int32) (v1 : Int32) : Int32 := if v1 = (894 : Int32) then (own_f2_145 v0 v1) else (own_f2_147 v0 v1)
set_option maxRecDepth 65536 in
theorem own_b2_138 {l : Launch} {p : Program} {e : Env} {below : List Frame} {s : State} {m : MethodId} {meth : Method} {c : Code} {Z : State} {a0 args : Array Value} {T : State} {h0 : Heap} (X : Stand p l e ({ frames := 0, cells := 0, slots := 0, locals := 0 } : Room) s m args below meth c T [] 0 0) (C : own_Ctx p s m meth c Z a0 tables_1 (⟨"com/example/where/where/parsing/XmlCharsIsNameStartCharPinLaw", "reference", "(C)Z"⟩ : MethodName) method_3_code 2 (some .boolean)) (hh : T.heap = h0) (v0 : Int32) (v1 : Int32) :
    own_Fin p e below s (own_QP (some (.int (own_f2_138 v0 v1))) h0) 0 0 (T.setTop (mkF m 138 #[.val (.int v0), .val (.int v1)] [])) := by
  obtain ⟨hx, hby, hml, hZ, hown, hnm, hret, hlk, hw⟩ := id C
  refine own_go (fun t => XS.iloadN X.here hx rfl (hb hby own_d2_138) rfl) ?_
  show own_Fin p e below s (own_QP (some (.int (own_f2_138 v0 v1))) h0) 0 0 (T.setTop (mkF m 139 #[.val (.int v0), .val (.int v1)] [(.int v1)]))
  refine own_go (fun t => XS.sipush X.here hx rfl (hb hby own_d2_139)) ?_
  show own_Fin p e below s (own_QP (some (.int (own_f2_138 v0 v1))) h0) 0 0 (T.setTop (mkF m 142 #[.val (.int v0), .val (.int v1)] [(.int (894 : Int32)), (.int v1)]))
  by_cases hq : v1 = (894 : Int32)
  · show own_Fin p e below s (own_QP (some (.int (own_f2_138 v0 v1))) h0) 0 0 _
    rw [show (own_f2_138 v0 v1) = (own_f2_145 v0 v1) from if_pos hq]
    refine own_go (fun t => XS.icmpNo X.here hx rfl (hb hby own_d2_142) rfl (teq hq).2) ?_
    show own_Fin p e below s (own_QP (some (.int (own_f2_145 v0 v1))) h0) 0 0 (T.setTop (mkF m 145 #[.val (.int v0), .val (.int v1)] []))
    exact own_b2_145 X C hh v0 v1
  · show own_Fin p e below s (own_QP (some (.int (own_f2_138 v0 v1))) h0) 0 0 _
    rw [show (own_f2_138 v0 v1) = (own_f2_147 v0 v1) from if_neg hq]
    refine own_go (fun t => XS.icmpYes X.here hx rfl (pc0 := 142) (pc' := 147) rfl (hb hby own_d2_142) rfl (feq hq).2 (by decide) (by decide)) ?_
    show own_Fin p e below s (own_QP (some (.int (own_f2_147 v0 v1))) h0) 0 0 (T.setTop (mkF m 147 #[.val (.int v0), .val (.int v1)] []))
    exact own_b2_147 X C hh v0 v1
def own_f2_136 (v0 : Int32) (v1 : Int32) : Int32 := (1 : Int32)
set_option maxRecDepth 65536 in
theorem own_b2_136 {l : Launch} {p : Program} {e : Env} {below : List Frame} {s : State} {m : MethodId} {meth : Method} {c : Code} {Z : State} {a0 args : Array Value} {T : State} {h0 : Heap} (X : Stand p l e ({ frames := 0, cells := 0, slots := 0, locals := 0 } : Room) s m args below meth c T [] 0 0) (C : own_Ctx p s m meth c Z a0 tables_1 (⟨"com/example/where/where/parsing/XmlCharsIsNameStartCharPinLaw", "reference", "(C)Z"⟩ : MethodName) method_3_code 2 (some .boolean)) (hh : T.heap = h0) (v0 : Int32) (v1 : Int32) :
    own_Fin p e below s (own_QP (some (.int (own_f2_136 v0 v1))) h0) 0 0 (T.setTop (mkF m 136 #[.val (.int v0), .val (.int v1)] [])) := by
  obtain ⟨hx, hby, hml, hZ, hown, hnm, hret, hlk, hw⟩ := id C
  refine own_go (fun t => XS.iconst X.here hx rfl (hb hby own_d2_136)) ?_
  show own_Fin p e below s (own_QP (some (.int (own_f2_136 v0 v1))) h0) 0 0 (T.setTop (mkF m 137 #[.val (.int v0), .val (.int v1)] [(.int (1 : Int32))]))
  exact own_ret X hlk hx (t := .boolean) hret rfl (Or.inl ⟨rfl, by simp, _, rfl⟩) (hb hby own_d2_137) ⟨rfl, rfl, hh⟩ (by decide) (by decide)
def own_f2_129 (v0 : Int32) (v1 : Int32) : Int32 := if (893 : Int32) < v1 then (own_f2_138 v0 v1) else (own_f2_136 v0 v1)
set_option maxRecDepth 65536 in
theorem own_b2_129 {l : Launch} {p : Program} {e : Env} {below : List Frame} {s : State} {m : MethodId} {meth : Method} {c : Code} {Z : State} {a0 args : Array Value} {T : State} {h0 : Heap} (X : Stand p l e ({ frames := 0, cells := 0, slots := 0, locals := 0 } : Room) s m args below meth c T [] 0 0) (C : own_Ctx p s m meth c Z a0 tables_1 (⟨"com/example/where/where/parsing/XmlCharsIsNameStartCharPinLaw", "reference", "(C)Z"⟩ : MethodName) method_3_code 2 (some .boolean)) (hh : T.heap = h0) (v0 : Int32) (v1 : Int32) :
    own_Fin p e below s (own_QP (some (.int (own_f2_129 v0 v1))) h0) 0 0 (T.setTop (mkF m 129 #[.val (.int v0), .val (.int v1)] [])) := by
  obtain ⟨hx, hby, hml, hZ, hown, hnm, hret, hlk, hw⟩ := id C
  refine own_go (fun t => XS.iloadN X.here hx rfl (hb hby own_d2_129) rfl) ?_
  show own_Fin p e below s (own_QP (some (.int (own_f2_129 v0 v1))) h0) 0 0 (T.setTop (mkF m 130 #[.val (.int v0), .val (.int v1)] [(.int v1)]))
  refine own_go (fun t => XS.sipush X.here hx rfl (hb hby own_d2_130)) ?_
  show own_Fin p e below s (own_QP (some (.int (own_f2_129 v0 v1))) h0) 0 0 (T.setTop (mkF m 133 #[.val (.int v0), .val (.int v1)] [(.int (893 : Int32)), (.int v1)]))
  by_cases hq : (893 : Int32) < v1
  · show own_Fin p e below s (own_QP (some (.int (own_f2_129 v0 v1))) h0) 0 0 _
    rw [show (own_f2_129 v0 v1) = (own_f2_138 v0 v1) from if_pos hq]
    refine own_go (fun t => XS.icmpYes X.here hx rfl (pc0 := 133) (pc' := 138) rfl (hb hby own_d2_133) rfl (tlt hq).2.2.1 (by decide) (by decide)) ?_
    show own_Fin p e below s (own_QP (some (.int (own_f2_138 v0 v1))) h0) 0 0 (T.setTop (mkF m 138 #[.val (.int v0), .val (.int v1)] []))
    exact own_b2_138 X C hh v0 v1
  · show own_Fin p e below s (own_QP (some (.int (own_f2_129 v0 v1))) h0) 0 0 _
    rw [show (own_f2_129 v0 v1) = (own_f2_136 v0 v1) from if_neg hq]
    refine own_go (fun t => XS.icmpNo X.here hx rfl (hb hby own_d2_133) rfl (flt hq).2.2.1) ?_
    show own_Fin p e below s (own_QP (some (.int (own_f2_136 v0 v1))) h0) 0 0 (T.setTop (mkF m 136 #[.val (.int v0), .val (.int v1)] []))
    exact own_b2_136 X C hh v0 v1
def own_f2_127 (v0 : Int32) (v1 : Int32) : Int32 := (0 : Int32)
set_option maxRecDepth 65536 in
theorem own_b2_127 {l : Launch} {p : Program} {e : Env} {below : List Frame} {s : State} {m : MethodId} {meth : Method} {c : Code} {Z : State} {a0 args : Array Value} {T : State} {h0 : Heap} (X : Stand p l e ({ frames := 0, cells := 0, slots := 0, locals := 0 } : Room) s m args below meth c T [] 0 0) (C : own_Ctx p s m meth c Z a0 tables_1 (⟨"com/example/where/where/parsing/XmlCharsIsNameStartCharPinLaw", "reference", "(C)Z"⟩ : MethodName) method_3_code 2 (some .boolean)) (hh : T.heap = h0) (v0 : Int32) (v1 : Int32) :
    own_Fin p e below s (own_QP (some (.int (own_f2_127 v0 v1))) h0) 0 0 (T.setTop (mkF m 127 #[.val (.int v0), .val (.int v1)] [])) := by
  obtain ⟨hx, hby, hml, hZ, hown, hnm, hret, hlk, hw⟩ := id C
  refine own_go (fun t => XS.iconst X.here hx rfl (hb hby own_d2_127)) ?_
  show own_Fin p e below s (own_QP (some (.int (own_f2_127 v0 v1))) h0) 0 0 (T.setTop (mkF m 128 #[.val (.int v0), .val (.int v1)] [(.int (0 : Int32))]))
  exact own_ret X hlk hx (t := .boolean) hret rfl (Or.inl ⟨rfl, by simp, _, rfl⟩) (hb hby own_d2_128) ⟨rfl, rfl, hh⟩ (by decide) (by decide)
def own_f2_120 (v0 : Int32) (v1 : Int32) : Int32 := if v1 < (880 : Int32) then (own_f2_127 v0 v1) else (own_f2_129 v0 v1)
set_option maxRecDepth 65536 in
theorem own_b2_120 {l : Launch} {p : Program} {e : Env} {below : List Frame} {s : State} {m : MethodId} {meth : Method} {c : Code} {Z : State} {a0 args : Array Value} {T : State} {h0 : Heap} (X : Stand p l e ({ frames := 0, cells := 0, slots := 0, locals := 0 } : Room) s m args below meth c T [] 0 0) (C : own_Ctx p s m meth c Z a0 tables_1 (⟨"com/example/where/where/parsing/XmlCharsIsNameStartCharPinLaw", "reference", "(C)Z"⟩ : MethodName) method_3_code 2 (some .boolean)) (hh : T.heap = h0) (v0 : Int32) (v1 : Int32) :
    own_Fin p e below s (own_QP (some (.int (own_f2_120 v0 v1))) h0) 0 0 (T.setTop (mkF m 120 #[.val (.int v0), .val (.int v1)] [])) := by
  obtain ⟨hx, hby, hml, hZ, hown, hnm, hret, hlk, hw⟩ := id C
  refine own_go (fun t => XS.iloadN X.here hx rfl (hb hby own_d2_120) rfl) ?_
  show own_Fin p e below s (own_QP (some (.int (own_f2_120 v0 v1))) h0) 0 0 (T.setTop (mkF m 121 #[.val (.int v0), .val (.int v1)] [(.int v1)]))
  refine own_go (fun t => XS.sipush X.here hx rfl (hb hby own_d2_121)) ?_
  show own_Fin p e below s (own_QP (some (.int (own_f2_120 v0 v1))) h0) 0 0 (T.setTop (mkF m 124 #[.val (.int v0), .val (.int v1)] [(.int (880 : Int32)), (.int v1)]))
  by_cases hq : v1 < (880 : Int32)
  · show own_Fin p e below s (own_QP (some (.int (own_f2_120 v0 v1))) h0) 0 0 _
    rw [show (own_f2_120 v0 v1) = (own_f2_127 v0 v1) from if_pos hq]
    refine own_go (fun t => XS.icmpNo X.here hx rfl (hb hby own_d2_124) rfl (tlt hq).2.1) ?_
    show own_Fin p e below s (own_QP (some (.int (own_f2_127 v0 v1))) h0) 0 0 (T.setTop (mkF m 127 #[.val (.int v0), .val (.int v1)] []))
    exact own_b2_127 X C hh v0 v1
  · show own_Fin p e below s (own_QP (some (.int (own_f2_120 v0 v1))) h0) 0 0 _
    rw [show (own_f2_120 v0 v1) = (own_f2_129 v0 v1) from if_neg hq]
    refine own_go (fun t => XS.icmpYes X.here hx rfl (pc0 := 124) (pc' := 129) rfl (hb hby own_d2_124) rfl (flt hq).2.1 (by decide) (by decide)) ?_
    show own_Fin p e below s (own_QP (some (.int (own_f2_129 v0 v1))) h0) 0 0 (T.setTop (mkF m 129 #[.val (.int v0), .val (.int v1)] []))
    exact own_b2_129 X C hh v0 v1
def own_f2_118 (v0 : Int32) (v1 : Int32) : Int32 := (1 : Int32)
set_option maxRecDepth 65536 in
theorem own_b2_118 {l : Launch} {p : Program} {e : Env} {below : List Frame} {s : State} {m : MethodId} {meth : Method} {c : Code} {Z : State} {a0 args : Array Value} {T : State} {h0 : Heap} (X : Stand p l e ({ frames := 0, cells := 0, slots := 0, locals := 0 } : Room) s m args below meth c T [] 0 0) (C : own_Ctx p s m meth c Z a0 tables_1 (⟨"com/example/where/where/parsing/XmlCharsIsNameStartCharPinLaw", "reference", "(C)Z"⟩ : MethodName) method_3_code 2 (some .boolean)) (hh : T.heap = h0) (v0 : Int32) (v1 : Int32) :
    own_Fin p e below s (own_QP (some (.int (own_f2_118 v0 v1))) h0) 0 0 (T.setTop (mkF m 118 #[.val (.int v0), .val (.int v1)] [])) := by
  obtain ⟨hx, hby, hml, hZ, hown, hnm, hret, hlk, hw⟩ := id C
  refine own_go (fun t => XS.iconst X.here hx rfl (hb hby own_d2_118)) ?_
  show own_Fin p e below s (own_QP (some (.int (own_f2_118 v0 v1))) h0) 0 0 (T.setTop (mkF m 119 #[.val (.int v0), .val (.int v1)] [(.int (1 : Int32))]))
  exact own_ret X hlk hx (t := .boolean) hret rfl (Or.inl ⟨rfl, by simp, _, rfl⟩) (hb hby own_d2_119) ⟨rfl, rfl, hh⟩ (by decide) (by decide)
def own_f2_111 (v0 : Int32) (v1 : Int32) : Int32 := if (767 : Int32) < v1 then (own_f2_120 v0 v1) else (own_f2_118 v0 v1)
set_option maxRecDepth 65536 in
theorem own_b2_111 {l : Launch} {p : Program} {e : Env} {below : List Frame} {s : State} {m : MethodId} {meth : Method} {c : Code} {Z : State} {a0 args : Array Value} {T : State} {h0 : Heap} (X : Stand p l e ({ frames := 0, cells := 0, slots := 0, locals := 0 } : Room) s m args below meth c T [] 0 0) (C : own_Ctx p s m meth c Z a0 tables_1 (⟨"com/example/where/where/parsing/XmlCharsIsNameStartCharPinLaw", "reference", "(C)Z"⟩ : MethodName) method_3_code 2 (some .boolean)) (hh : T.heap = h0) (v0 : Int32) (v1 : Int32) :
    own_Fin p e below s (own_QP (some (.int (own_f2_111 v0 v1))) h0) 0 0 (T.setTop (mkF m 111 #[.val (.int v0), .val (.int v1)] [])) := by
  obtain ⟨hx, hby, hml, hZ, hown, hnm, hret, hlk, hw⟩ := id C
  refine own_go (fun t => XS.iloadN X.here hx rfl (hb hby own_d2_111) rfl) ?_
  show own_Fin p e below s (own_QP (some (.int (own_f2_111 v0 v1))) h0) 0 0 (T.setTop (mkF m 112 #[.val (.int v0), .val (.int v1)] [(.int v1)]))
  refine own_go (fun t => XS.sipush X.here hx rfl (hb hby own_d2_112)) ?_
  show own_Fin p e below s (own_QP (some (.int (own_f2_111 v0 v1))) h0) 0 0 (T.setTop (mkF m 115 #[.val (.int v0), .val (.int v1)] [(.int (767 : Int32)), (.int v1)]))
  by_cases hq : (767 : Int32) < v1
  · show own_Fin p e below s (own_QP (some (.int (own_f2_111 v0 v1))) h0) 0 0 _
    rw [show (own_f2_111 v0 v1) = (own_f2_120 v0 v1) from if_pos hq]
    refine own_go (fun t => XS.icmpYes X.here hx rfl (pc0 := 115) (pc' := 120) rfl (hb hby own_d2_115) rfl (tlt hq).2.2.1 (by decide) (by decide)) ?_
    show own_Fin p e below s (own_QP (some (.int (own_f2_120 v0 v1))) h0) 0 0 (T.setTop (mkF m 120 #[.val (.int v0), .val (.int v1)] []))
    exact own_b2_120 X C hh v0 v1
  · show own_Fin p e below s (own_QP (some (.int (own_f2_111 v0 v1))) h0) 0 0 _
    rw [show (own_f2_111 v0 v1) = (own_f2_118 v0 v1) from if_neg hq]
    refine own_go (fun t => XS.icmpNo X.here hx rfl (hb hby own_d2_115) rfl (flt hq).2.2.1) ?_
    show own_Fin p e below s (own_QP (some (.int (own_f2_118 v0 v1))) h0) 0 0 (T.setTop (mkF m 118 #[.val (.int v0), .val (.int v1)] []))
    exact own_b2_118 X C hh v0 v1
def own_f2_109 (v0 : Int32) (v1 : Int32) : Int32 := (0 : Int32)
set_option maxRecDepth 65536 in
theorem own_b2_109 {l : Launch} {p : Program} {e : Env} {below : List Frame} {s : State} {m : MethodId} {meth : Method} {c : Code} {Z : State} {a0 args : Array Value} {T : State} {h0 : Heap} (X : Stand p l e ({ frames := 0, cells := 0, slots := 0, locals := 0 } : Room) s m args below meth c T [] 0 0) (C : own_Ctx p s m meth c Z a0 tables_1 (⟨"com/example/where/where/parsing/XmlCharsIsNameStartCharPinLaw", "reference", "(C)Z"⟩ : MethodName) method_3_code 2 (some .boolean)) (hh : T.heap = h0) (v0 : Int32) (v1 : Int32) :
    own_Fin p e below s (own_QP (some (.int (own_f2_109 v0 v1))) h0) 0 0 (T.setTop (mkF m 109 #[.val (.int v0), .val (.int v1)] [])) := by
  obtain ⟨hx, hby, hml, hZ, hown, hnm, hret, hlk, hw⟩ := id C
  refine own_go (fun t => XS.iconst X.here hx rfl (hb hby own_d2_109)) ?_
  show own_Fin p e below s (own_QP (some (.int (own_f2_109 v0 v1))) h0) 0 0 (T.setTop (mkF m 110 #[.val (.int v0), .val (.int v1)] [(.int (0 : Int32))]))
  exact own_ret X hlk hx (t := .boolean) hret rfl (Or.inl ⟨rfl, by simp, _, rfl⟩) (hb hby own_d2_110) ⟨rfl, rfl, hh⟩ (by decide) (by decide)
def own_f2_102 (v0 : Int32) (v1 : Int32) : Int32 := if v1 = (247 : Int32) then (own_f2_109 v0 v1) else (own_f2_111 v0 v1)
set_option maxRecDepth 65536 in
theorem own_b2_102 {l : Launch} {p : Program} {e : Env} {below : List Frame} {s : State} {m : MethodId} {meth : Method} {c : Code} {Z : State} {a0 args : Array Value} {T : State} {h0 : Heap} (X : Stand p l e ({ frames := 0, cells := 0, slots := 0, locals := 0 } : Room) s m args below meth c T [] 0 0) (C : own_Ctx p s m meth c Z a0 tables_1 (⟨"com/example/where/where/parsing/XmlCharsIsNameStartCharPinLaw", "reference", "(C)Z"⟩ : MethodName) method_3_code 2 (some .boolean)) (hh : T.heap = h0) (v0 : Int32) (v1 : Int32) :
    own_Fin p e below s (own_QP (some (.int (own_f2_102 v0 v1))) h0) 0 0 (T.setTop (mkF m 102 #[.val (.int v0), .val (.int v1)] [])) := by
  obtain ⟨hx, hby, hml, hZ, hown, hnm, hret, hlk, hw⟩ := id C
  refine own_go (fun t => XS.iloadN X.here hx rfl (hb hby own_d2_102) rfl) ?_
  show own_Fin p e below s (own_QP (some (.int (own_f2_102 v0 v1))) h0) 0 0 (T.setTop (mkF m 103 #[.val (.int v0), .val (.int v1)] [(.int v1)]))
  refine own_go (fun t => XS.sipush X.here hx rfl (hb hby own_d2_103)) ?_
  show own_Fin p e below s (own_QP (some (.int (own_f2_102 v0 v1))) h0) 0 0 (T.setTop (mkF m 106 #[.val (.int v0), .val (.int v1)] [(.int (247 : Int32)), (.int v1)]))
  by_cases hq : v1 = (247 : Int32)
  · show own_Fin p e below s (own_QP (some (.int (own_f2_102 v0 v1))) h0) 0 0 _
    rw [show (own_f2_102 v0 v1) = (own_f2_109 v0 v1) from if_pos hq]
    refine own_go (fun t => XS.icmpNo X.here hx rfl (hb hby own_d2_106) rfl (teq hq).2) ?_
    show own_Fin p e below s (own_QP (some (.int (own_f2_109 v0 v1))) h0) 0 0 (T.setTop (mkF m 109 #[.val (.int v0), .val (.int v1)] []))
    exact own_b2_109 X C hh v0 v1
  · show own_Fin p e below s (own_QP (some (.int (own_f2_102 v0 v1))) h0) 0 0 _
    rw [show (own_f2_102 v0 v1) = (own_f2_111 v0 v1) from if_neg hq]
    refine own_go (fun t => XS.icmpYes X.here hx rfl (pc0 := 106) (pc' := 111) rfl (hb hby own_d2_106) rfl (feq hq).2 (by decide) (by decide)) ?_
    show own_Fin p e below s (own_QP (some (.int (own_f2_111 v0 v1))) h0) 0 0 (T.setTop (mkF m 111 #[.val (.int v0), .val (.int v1)] []))
    exact own_b2_111 X C hh v0 v1
def own_f2_100 (v0 : Int32) (v1 : Int32) : Int32 := (1 : Int32)
set_option maxRecDepth 65536 in
theorem own_b2_100 {l : Launch} {p : Program} {e : Env} {below : List Frame} {s : State} {m : MethodId} {meth : Method} {c : Code} {Z : State} {a0 args : Array Value} {T : State} {h0 : Heap} (X : Stand p l e ({ frames := 0, cells := 0, slots := 0, locals := 0 } : Room) s m args below meth c T [] 0 0) (C : own_Ctx p s m meth c Z a0 tables_1 (⟨"com/example/where/where/parsing/XmlCharsIsNameStartCharPinLaw", "reference", "(C)Z"⟩ : MethodName) method_3_code 2 (some .boolean)) (hh : T.heap = h0) (v0 : Int32) (v1 : Int32) :
    own_Fin p e below s (own_QP (some (.int (own_f2_100 v0 v1))) h0) 0 0 (T.setTop (mkF m 100 #[.val (.int v0), .val (.int v1)] [])) := by
  obtain ⟨hx, hby, hml, hZ, hown, hnm, hret, hlk, hw⟩ := id C
  refine own_go (fun t => XS.iconst X.here hx rfl (hb hby own_d2_100)) ?_
  show own_Fin p e below s (own_QP (some (.int (own_f2_100 v0 v1))) h0) 0 0 (T.setTop (mkF m 101 #[.val (.int v0), .val (.int v1)] [(.int (1 : Int32))]))
  exact own_ret X hlk hx (t := .boolean) hret rfl (Or.inl ⟨rfl, by simp, _, rfl⟩) (hb hby own_d2_101) ⟨rfl, rfl, hh⟩ (by decide) (by decide)
def own_f2_93 (v0 : Int32) (v1 : Int32) : Int32 := if (246 : Int32) < v1 then (own_f2_102 v0 v1) else (own_f2_100 v0 v1)
set_option maxRecDepth 65536 in
theorem own_b2_93 {l : Launch} {p : Program} {e : Env} {below : List Frame} {s : State} {m : MethodId} {meth : Method} {c : Code} {Z : State} {a0 args : Array Value} {T : State} {h0 : Heap} (X : Stand p l e ({ frames := 0, cells := 0, slots := 0, locals := 0 } : Room) s m args below meth c T [] 0 0) (C : own_Ctx p s m meth c Z a0 tables_1 (⟨"com/example/where/where/parsing/XmlCharsIsNameStartCharPinLaw", "reference", "(C)Z"⟩ : MethodName) method_3_code 2 (some .boolean)) (hh : T.heap = h0) (v0 : Int32) (v1 : Int32) :
    own_Fin p e below s (own_QP (some (.int (own_f2_93 v0 v1))) h0) 0 0 (T.setTop (mkF m 93 #[.val (.int v0), .val (.int v1)] [])) := by
  obtain ⟨hx, hby, hml, hZ, hown, hnm, hret, hlk, hw⟩ := id C
  refine own_go (fun t => XS.iloadN X.here hx rfl (hb hby own_d2_93) rfl) ?_
  show own_Fin p e below s (own_QP (some (.int (own_f2_93 v0 v1))) h0) 0 0 (T.setTop (mkF m 94 #[.val (.int v0), .val (.int v1)] [(.int v1)]))
  refine own_go (fun t => XS.sipush X.here hx rfl (hb hby own_d2_94)) ?_
  show own_Fin p e below s (own_QP (some (.int (own_f2_93 v0 v1))) h0) 0 0 (T.setTop (mkF m 97 #[.val (.int v0), .val (.int v1)] [(.int (246 : Int32)), (.int v1)]))
  by_cases hq : (246 : Int32) < v1
  · show own_Fin p e below s (own_QP (some (.int (own_f2_93 v0 v1))) h0) 0 0 _
    rw [show (own_f2_93 v0 v1) = (own_f2_102 v0 v1) from if_pos hq]
    refine own_go (fun t => XS.icmpYes X.here hx rfl (pc0 := 97) (pc' := 102) rfl (hb hby own_d2_97) rfl (tlt hq).2.2.1 (by decide) (by decide)) ?_
    show own_Fin p e below s (own_QP (some (.int (own_f2_102 v0 v1))) h0) 0 0 (T.setTop (mkF m 102 #[.val (.int v0), .val (.int v1)] []))
    exact own_b2_102 X C hh v0 v1
  · show own_Fin p e below s (own_QP (some (.int (own_f2_93 v0 v1))) h0) 0 0 _
    rw [show (own_f2_93 v0 v1) = (own_f2_100 v0 v1) from if_neg hq]
    refine own_go (fun t => XS.icmpNo X.here hx rfl (hb hby own_d2_97) rfl (flt hq).2.2.1) ?_
    show own_Fin p e below s (own_QP (some (.int (own_f2_100 v0 v1))) h0) 0 0 (T.setTop (mkF m 100 #[.val (.int v0), .val (.int v1)] []))
    exact own_b2_100 X C hh v0 v1
def own_f2_91 (v0 : Int32) (v1 : Int32) : Int32 := (0 : Int32)
set_option maxRecDepth 65536 in
theorem own_b2_91 {l : Launch} {p : Program} {e : Env} {below : List Frame} {s : State} {m : MethodId} {meth : Method} {c : Code} {Z : State} {a0 args : Array Value} {T : State} {h0 : Heap} (X : Stand p l e ({ frames := 0, cells := 0, slots := 0, locals := 0 } : Room) s m args below meth c T [] 0 0) (C : own_Ctx p s m meth c Z a0 tables_1 (⟨"com/example/where/where/parsing/XmlCharsIsNameStartCharPinLaw", "reference", "(C)Z"⟩ : MethodName) method_3_code 2 (some .boolean)) (hh : T.heap = h0) (v0 : Int32) (v1 : Int32) :
    own_Fin p e below s (own_QP (some (.int (own_f2_91 v0 v1))) h0) 0 0 (T.setTop (mkF m 91 #[.val (.int v0), .val (.int v1)] [])) := by
  obtain ⟨hx, hby, hml, hZ, hown, hnm, hret, hlk, hw⟩ := id C
  refine own_go (fun t => XS.iconst X.here hx rfl (hb hby own_d2_91)) ?_
  show own_Fin p e below s (own_QP (some (.int (own_f2_91 v0 v1))) h0) 0 0 (T.setTop (mkF m 92 #[.val (.int v0), .val (.int v1)] [(.int (0 : Int32))]))
  exact own_ret X hlk hx (t := .boolean) hret rfl (Or.inl ⟨rfl, by simp, _, rfl⟩) (hb hby own_d2_92) ⟨rfl, rfl, hh⟩ (by decide) (by decide)
def own_f2_84 (v0 : Int32) (v1 : Int32) : Int32 := if v1 = (215 : Int32) then (own_f2_91 v0 v1) else (own_f2_93 v0 v1)
set_option maxRecDepth 65536 in
theorem own_b2_84 {l : Launch} {p : Program} {e : Env} {below : List Frame} {s : State} {m : MethodId} {meth : Method} {c : Code} {Z : State} {a0 args : Array Value} {T : State} {h0 : Heap} (X : Stand p l e ({ frames := 0, cells := 0, slots := 0, locals := 0 } : Room) s m args below meth c T [] 0 0) (C : own_Ctx p s m meth c Z a0 tables_1 (⟨"com/example/where/where/parsing/XmlCharsIsNameStartCharPinLaw", "reference", "(C)Z"⟩ : MethodName) method_3_code 2 (some .boolean)) (hh : T.heap = h0) (v0 : Int32) (v1 : Int32) :
    own_Fin p e below s (own_QP (some (.int (own_f2_84 v0 v1))) h0) 0 0 (T.setTop (mkF m 84 #[.val (.int v0), .val (.int v1)] [])) := by
  obtain ⟨hx, hby, hml, hZ, hown, hnm, hret, hlk, hw⟩ := id C
  refine own_go (fun t => XS.iloadN X.here hx rfl (hb hby own_d2_84) rfl) ?_
  show own_Fin p e below s (own_QP (some (.int (own_f2_84 v0 v1))) h0) 0 0 (T.setTop (mkF m 85 #[.val (.int v0), .val (.int v1)] [(.int v1)]))
  refine own_go (fun t => XS.sipush X.here hx rfl (hb hby own_d2_85)) ?_
  show own_Fin p e below s (own_QP (some (.int (own_f2_84 v0 v1))) h0) 0 0 (T.setTop (mkF m 88 #[.val (.int v0), .val (.int v1)] [(.int (215 : Int32)), (.int v1)]))
  by_cases hq : v1 = (215 : Int32)
  · show own_Fin p e below s (own_QP (some (.int (own_f2_84 v0 v1))) h0) 0 0 _
    rw [show (own_f2_84 v0 v1) = (own_f2_91 v0 v1) from if_pos hq]
    refine own_go (fun t => XS.icmpNo X.here hx rfl (hb hby own_d2_88) rfl (teq hq).2) ?_
    show own_Fin p e below s (own_QP (some (.int (own_f2_91 v0 v1))) h0) 0 0 (T.setTop (mkF m 91 #[.val (.int v0), .val (.int v1)] []))
    exact own_b2_91 X C hh v0 v1
  · show own_Fin p e below s (own_QP (some (.int (own_f2_84 v0 v1))) h0) 0 0 _
    rw [show (own_f2_84 v0 v1) = (own_f2_93 v0 v1) from if_neg hq]
    refine own_go (fun t => XS.icmpYes X.here hx rfl (pc0 := 88) (pc' := 93) rfl (hb hby own_d2_88) rfl (feq hq).2 (by decide) (by decide)) ?_
    show own_Fin p e below s (own_QP (some (.int (own_f2_93 v0 v1))) h0) 0 0 (T.setTop (mkF m 93 #[.val (.int v0), .val (.int v1)] []))
    exact own_b2_93 X C hh v0 v1
def own_f2_82 (v0 : Int32) (v1 : Int32) : Int32 := (1 : Int32)
set_option maxRecDepth 65536 in
theorem own_b2_82 {l : Launch} {p : Program} {e : Env} {below : List Frame} {s : State} {m : MethodId} {meth : Method} {c : Code} {Z : State} {a0 args : Array Value} {T : State} {h0 : Heap} (X : Stand p l e ({ frames := 0, cells := 0, slots := 0, locals := 0 } : Room) s m args below meth c T [] 0 0) (C : own_Ctx p s m meth c Z a0 tables_1 (⟨"com/example/where/where/parsing/XmlCharsIsNameStartCharPinLaw", "reference", "(C)Z"⟩ : MethodName) method_3_code 2 (some .boolean)) (hh : T.heap = h0) (v0 : Int32) (v1 : Int32) :
    own_Fin p e below s (own_QP (some (.int (own_f2_82 v0 v1))) h0) 0 0 (T.setTop (mkF m 82 #[.val (.int v0), .val (.int v1)] [])) := by
  obtain ⟨hx, hby, hml, hZ, hown, hnm, hret, hlk, hw⟩ := id C
  refine own_go (fun t => XS.iconst X.here hx rfl (hb hby own_d2_82)) ?_
  show own_Fin p e below s (own_QP (some (.int (own_f2_82 v0 v1))) h0) 0 0 (T.setTop (mkF m 83 #[.val (.int v0), .val (.int v1)] [(.int (1 : Int32))]))
  exact own_ret X hlk hx (t := .boolean) hret rfl (Or.inl ⟨rfl, by simp, _, rfl⟩) (hb hby own_d2_83) ⟨rfl, rfl, hh⟩ (by decide) (by decide)
def own_f2_75 (v0 : Int32) (v1 : Int32) : Int32 := if (214 : Int32) < v1 then (own_f2_84 v0 v1) else (own_f2_82 v0 v1)
set_option maxRecDepth 65536 in
theorem own_b2_75 {l : Launch} {p : Program} {e : Env} {below : List Frame} {s : State} {m : MethodId} {meth : Method} {c : Code} {Z : State} {a0 args : Array Value} {T : State} {h0 : Heap} (X : Stand p l e ({ frames := 0, cells := 0, slots := 0, locals := 0 } : Room) s m args below meth c T [] 0 0) (C : own_Ctx p s m meth c Z a0 tables_1 (⟨"com/example/where/where/parsing/XmlCharsIsNameStartCharPinLaw", "reference", "(C)Z"⟩ : MethodName) method_3_code 2 (some .boolean)) (hh : T.heap = h0) (v0 : Int32) (v1 : Int32) :
    own_Fin p e below s (own_QP (some (.int (own_f2_75 v0 v1))) h0) 0 0 (T.setTop (mkF m 75 #[.val (.int v0), .val (.int v1)] [])) := by
  obtain ⟨hx, hby, hml, hZ, hown, hnm, hret, hlk, hw⟩ := id C
  refine own_go (fun t => XS.iloadN X.here hx rfl (hb hby own_d2_75) rfl) ?_
  show own_Fin p e below s (own_QP (some (.int (own_f2_75 v0 v1))) h0) 0 0 (T.setTop (mkF m 76 #[.val (.int v0), .val (.int v1)] [(.int v1)]))
  refine own_go (fun t => XS.sipush X.here hx rfl (hb hby own_d2_76)) ?_
  show own_Fin p e below s (own_QP (some (.int (own_f2_75 v0 v1))) h0) 0 0 (T.setTop (mkF m 79 #[.val (.int v0), .val (.int v1)] [(.int (214 : Int32)), (.int v1)]))
  by_cases hq : (214 : Int32) < v1
  · show own_Fin p e below s (own_QP (some (.int (own_f2_75 v0 v1))) h0) 0 0 _
    rw [show (own_f2_75 v0 v1) = (own_f2_84 v0 v1) from if_pos hq]
    refine own_go (fun t => XS.icmpYes X.here hx rfl (pc0 := 79) (pc' := 84) rfl (hb hby own_d2_79) rfl (tlt hq).2.2.1 (by decide) (by decide)) ?_
    show own_Fin p e below s (own_QP (some (.int (own_f2_84 v0 v1))) h0) 0 0 (T.setTop (mkF m 84 #[.val (.int v0), .val (.int v1)] []))
    exact own_b2_84 X C hh v0 v1
  · show own_Fin p e below s (own_QP (some (.int (own_f2_75 v0 v1))) h0) 0 0 _
    rw [show (own_f2_75 v0 v1) = (own_f2_82 v0 v1) from if_neg hq]
    refine own_go (fun t => XS.icmpNo X.here hx rfl (hb hby own_d2_79) rfl (flt hq).2.2.1) ?_
    show own_Fin p e below s (own_QP (some (.int (own_f2_82 v0 v1))) h0) 0 0 (T.setTop (mkF m 82 #[.val (.int v0), .val (.int v1)] []))
    exact own_b2_82 X C hh v0 v1
def own_f2_73 (v0 : Int32) (v1 : Int32) : Int32 := (0 : Int32)
set_option maxRecDepth 65536 in
theorem own_b2_73 {l : Launch} {p : Program} {e : Env} {below : List Frame} {s : State} {m : MethodId} {meth : Method} {c : Code} {Z : State} {a0 args : Array Value} {T : State} {h0 : Heap} (X : Stand p l e ({ frames := 0, cells := 0, slots := 0, locals := 0 } : Room) s m args below meth c T [] 0 0) (C : own_Ctx p s m meth c Z a0 tables_1 (⟨"com/example/where/where/parsing/XmlCharsIsNameStartCharPinLaw", "reference", "(C)Z"⟩ : MethodName) method_3_code 2 (some .boolean)) (hh : T.heap = h0) (v0 : Int32) (v1 : Int32) :
    own_Fin p e below s (own_QP (some (.int (own_f2_73 v0 v1))) h0) 0 0 (T.setTop (mkF m 73 #[.val (.int v0), .val (.int v1)] [])) := by
  obtain ⟨hx, hby, hml, hZ, hown, hnm, hret, hlk, hw⟩ := id C
  refine own_go (fun t => XS.iconst X.here hx rfl (hb hby own_d2_73)) ?_
  show own_Fin p e below s (own_QP (some (.int (own_f2_73 v0 v1))) h0) 0 0 (T.setTop (mkF m 74 #[.val (.int v0), .val (.int v1)] [(.int (0 : Int32))]))
  exact own_ret X hlk hx (t := .boolean) hret rfl (Or.inl ⟨rfl, by simp, _, rfl⟩) (hb hby own_d2_74) ⟨rfl, rfl, hh⟩ (by decide) (by decide)
def own_f2_66 (v0 : Int32) (v1 : Int32) : Int32 := if v1 < (192 : Int32) then (own_f2_73 v0 v1) else (own_f2_75 v0 v1)
set_option maxRecDepth 65536 in
theorem own_b2_66 {l : Launch} {p : Program} {e : Env} {below : List Frame} {s : State} {m : MethodId} {meth : Method} {c : Code} {Z : State} {a0 args : Array Value} {T : State} {h0 : Heap} (X : Stand p l e ({ frames := 0, cells := 0, slots := 0, locals := 0 } : Room) s m args below meth c T [] 0 0) (C : own_Ctx p s m meth c Z a0 tables_1 (⟨"com/example/where/where/parsing/XmlCharsIsNameStartCharPinLaw", "reference", "(C)Z"⟩ : MethodName) method_3_code 2 (some .boolean)) (hh : T.heap = h0) (v0 : Int32) (v1 : Int32) :
    own_Fin p e below s (own_QP (some (.int (own_f2_66 v0 v1))) h0) 0 0 (T.setTop (mkF m 66 #[.val (.int v0), .val (.int v1)] [])) := by
  obtain ⟨hx, hby, hml, hZ, hown, hnm, hret, hlk, hw⟩ := id C
  refine own_go (fun t => XS.iloadN X.here hx rfl (hb hby own_d2_66) rfl) ?_
  show own_Fin p e below s (own_QP (some (.int (own_f2_66 v0 v1))) h0) 0 0 (T.setTop (mkF m 67 #[.val (.int v0), .val (.int v1)] [(.int v1)]))
  refine own_go (fun t => XS.sipush X.here hx rfl (hb hby own_d2_67)) ?_
  show own_Fin p e below s (own_QP (some (.int (own_f2_66 v0 v1))) h0) 0 0 (T.setTop (mkF m 70 #[.val (.int v0), .val (.int v1)] [(.int (192 : Int32)), (.int v1)]))
  by_cases hq : v1 < (192 : Int32)
  · show own_Fin p e below s (own_QP (some (.int (own_f2_66 v0 v1))) h0) 0 0 _
    rw [show (own_f2_66 v0 v1) = (own_f2_73 v0 v1) from if_pos hq]
    refine own_go (fun t => XS.icmpNo X.here hx rfl (hb hby own_d2_70) rfl (tlt hq).2.1) ?_
    show own_Fin p e below s (own_QP (some (.int (own_f2_73 v0 v1))) h0) 0 0 (T.setTop (mkF m 73 #[.val (.int v0), .val (.int v1)] []))
    exact own_b2_73 X C hh v0 v1
  · show own_Fin p e below s (own_QP (some (.int (own_f2_66 v0 v1))) h0) 0 0 _
    rw [show (own_f2_66 v0 v1) = (own_f2_75 v0 v1) from if_neg hq]
    refine own_go (fun t => XS.icmpYes X.here hx rfl (pc0 := 70) (pc' := 75) rfl (hb hby own_d2_70) rfl (flt hq).2.1 (by decide) (by decide)) ?_
    show own_Fin p e below s (own_QP (some (.int (own_f2_75 v0 v1))) h0) 0 0 (T.setTop (mkF m 75 #[.val (.int v0), .val (.int v1)] []))
    exact own_b2_75 X C hh v0 v1
def own_f2_64 (v0 : Int32) (v1 : Int32) : Int32 := (1 : Int32)
set_option maxRecDepth 65536 in
theorem own_b2_64 {l : Launch} {p : Program} {e : Env} {below : List Frame} {s : State} {m : MethodId} {meth : Method} {c : Code} {Z : State} {a0 args : Array Value} {T : State} {h0 : Heap} (X : Stand p l e ({ frames := 0, cells := 0, slots := 0, locals := 0 } : Room) s m args below meth c T [] 0 0) (C : own_Ctx p s m meth c Z a0 tables_1 (⟨"com/example/where/where/parsing/XmlCharsIsNameStartCharPinLaw", "reference", "(C)Z"⟩ : MethodName) method_3_code 2 (some .boolean)) (hh : T.heap = h0) (v0 : Int32) (v1 : Int32) :
    own_Fin p e below s (own_QP (some (.int (own_f2_64 v0 v1))) h0) 0 0 (T.setTop (mkF m 64 #[.val (.int v0), .val (.int v1)] [])) := by
  obtain ⟨hx, hby, hml, hZ, hown, hnm, hret, hlk, hw⟩ := id C
  refine own_go (fun t => XS.iconst X.here hx rfl (hb hby own_d2_64)) ?_
  show own_Fin p e below s (own_QP (some (.int (own_f2_64 v0 v1))) h0) 0 0 (T.setTop (mkF m 65 #[.val (.int v0), .val (.int v1)] [(.int (1 : Int32))]))
  exact own_ret X hlk hx (t := .boolean) hret rfl (Or.inl ⟨rfl, by simp, _, rfl⟩) (hb hby own_d2_65) ⟨rfl, rfl, hh⟩ (by decide) (by decide)
def own_f2_58 (v0 : Int32) (v1 : Int32) : Int32 := if (122 : Int32) < v1 then (own_f2_66 v0 v1) else (own_f2_64 v0 v1)
set_option maxRecDepth 65536 in
theorem own_b2_58 {l : Launch} {p : Program} {e : Env} {below : List Frame} {s : State} {m : MethodId} {meth : Method} {c : Code} {Z : State} {a0 args : Array Value} {T : State} {h0 : Heap} (X : Stand p l e ({ frames := 0, cells := 0, slots := 0, locals := 0 } : Room) s m args below meth c T [] 0 0) (C : own_Ctx p s m meth c Z a0 tables_1 (⟨"com/example/where/where/parsing/XmlCharsIsNameStartCharPinLaw", "reference", "(C)Z"⟩ : MethodName) method_3_code 2 (some .boolean)) (hh : T.heap = h0) (v0 : Int32) (v1 : Int32) :
    own_Fin p e below s (own_QP (some (.int (own_f2_58 v0 v1))) h0) 0 0 (T.setTop (mkF m 58 #[.val (.int v0), .val (.int v1)] [])) := by
  obtain ⟨hx, hby, hml, hZ, hown, hnm, hret, hlk, hw⟩ := id C
  refine own_go (fun t => XS.iloadN X.here hx rfl (hb hby own_d2_58) rfl) ?_
  show own_Fin p e below s (own_QP (some (.int (own_f2_58 v0 v1))) h0) 0 0 (T.setTop (mkF m 59 #[.val (.int v0), .val (.int v1)] [(.int v1)]))
  refine own_go (fun t => XS.bipush X.here hx rfl (hb hby own_d2_59)) ?_
  show own_Fin p e below s (own_QP (some (.int (own_f2_58 v0 v1))) h0) 0 0 (T.setTop (mkF m 61 #[.val (.int v0), .val (.int v1)] [(.int (122 : Int32)), (.int v1)]))
  by_cases hq : (122 : Int32) < v1
  · show own_Fin p e below s (own_QP (some (.int (own_f2_58 v0 v1))) h0) 0 0 _
    rw [show (own_f2_58 v0 v1) = (own_f2_66 v0 v1) from if_pos hq]
    refine own_go (fun t => XS.icmpYes X.here hx rfl (pc0 := 61) (pc' := 66) rfl (hb hby own_d2_61) rfl (tlt hq).2.2.1 (by decide) (by decide)) ?_
    show own_Fin p e below s (own_QP (some (.int (own_f2_66 v0 v1))) h0) 0 0 (T.setTop (mkF m 66 #[.val (.int v0), .val (.int v1)] []))
    exact own_b2_66 X C hh v0 v1
  · show own_Fin p e below s (own_QP (some (.int (own_f2_58 v0 v1))) h0) 0 0 _
    rw [show (own_f2_58 v0 v1) = (own_f2_64 v0 v1) from if_neg hq]
    refine own_go (fun t => XS.icmpNo X.here hx rfl (hb hby own_d2_61) rfl (flt hq).2.2.1) ?_
    show own_Fin p e below s (own_QP (some (.int (own_f2_64 v0 v1))) h0) 0 0 (T.setTop (mkF m 64 #[.val (.int v0), .val (.int v1)] []))
    exact own_b2_64 X C hh v0 v1
def own_f2_56 (v0 : Int32) (v1 : Int32) : Int32 := (0 : Int32)
set_option maxRecDepth 65536 in
theorem own_b2_56 {l : Launch} {p : Program} {e : Env} {below : List Frame} {s : State} {m : MethodId} {meth : Method} {c : Code} {Z : State} {a0 args : Array Value} {T : State} {h0 : Heap} (X : Stand p l e ({ frames := 0, cells := 0, slots := 0, locals := 0 } : Room) s m args below meth c T [] 0 0) (C : own_Ctx p s m meth c Z a0 tables_1 (⟨"com/example/where/where/parsing/XmlCharsIsNameStartCharPinLaw", "reference", "(C)Z"⟩ : MethodName) method_3_code 2 (some .boolean)) (hh : T.heap = h0) (v0 : Int32) (v1 : Int32) :
    own_Fin p e below s (own_QP (some (.int (own_f2_56 v0 v1))) h0) 0 0 (T.setTop (mkF m 56 #[.val (.int v0), .val (.int v1)] [])) := by
  obtain ⟨hx, hby, hml, hZ, hown, hnm, hret, hlk, hw⟩ := id C
  refine own_go (fun t => XS.iconst X.here hx rfl (hb hby own_d2_56)) ?_
  show own_Fin p e below s (own_QP (some (.int (own_f2_56 v0 v1))) h0) 0 0 (T.setTop (mkF m 57 #[.val (.int v0), .val (.int v1)] [(.int (0 : Int32))]))
  exact own_ret X hlk hx (t := .boolean) hret rfl (Or.inl ⟨rfl, by simp, _, rfl⟩) (hb hby own_d2_57) ⟨rfl, rfl, hh⟩ (by decide) (by decide)
def own_f2_50 (v0 : Int32) (v1 : Int32) : Int32 := if v1 < (97 : Int32) then (own_f2_56 v0 v1) else (own_f2_58 v0 v1)
set_option maxRecDepth 65536 in
theorem own_b2_50 {l : Launch} {p : Program} {e : Env} {below : List Frame} {s : State} {m : MethodId} {meth : Method} {c : Code} {Z : State} {a0 args : Array Value} {T : State} {h0 : Heap} (X : Stand p l e ({ frames := 0, cells := 0, slots := 0, locals := 0 } : Room) s m args below meth c T [] 0 0) (C : own_Ctx p s m meth c Z a0 tables_1 (⟨"com/example/where/where/parsing/XmlCharsIsNameStartCharPinLaw", "reference", "(C)Z"⟩ : MethodName) method_3_code 2 (some .boolean)) (hh : T.heap = h0) (v0 : Int32) (v1 : Int32) :
    own_Fin p e below s (own_QP (some (.int (own_f2_50 v0 v1))) h0) 0 0 (T.setTop (mkF m 50 #[.val (.int v0), .val (.int v1)] [])) := by
  obtain ⟨hx, hby, hml, hZ, hown, hnm, hret, hlk, hw⟩ := id C
  refine own_go (fun t => XS.iloadN X.here hx rfl (hb hby own_d2_50) rfl) ?_
  show own_Fin p e below s (own_QP (some (.int (own_f2_50 v0 v1))) h0) 0 0 (T.setTop (mkF m 51 #[.val (.int v0), .val (.int v1)] [(.int v1)]))
  refine own_go (fun t => XS.bipush X.here hx rfl (hb hby own_d2_51)) ?_
  show own_Fin p e below s (own_QP (some (.int (own_f2_50 v0 v1))) h0) 0 0 (T.setTop (mkF m 53 #[.val (.int v0), .val (.int v1)] [(.int (97 : Int32)), (.int v1)]))
  by_cases hq : v1 < (97 : Int32)
  · show own_Fin p e below s (own_QP (some (.int (own_f2_50 v0 v1))) h0) 0 0 _
    rw [show (own_f2_50 v0 v1) = (own_f2_56 v0 v1) from if_pos hq]
    refine own_go (fun t => XS.icmpNo X.here hx rfl (hb hby own_d2_53) rfl (tlt hq).2.1) ?_
    show own_Fin p e below s (own_QP (some (.int (own_f2_56 v0 v1))) h0) 0 0 (T.setTop (mkF m 56 #[.val (.int v0), .val (.int v1)] []))
    exact own_b2_56 X C hh v0 v1
  · show own_Fin p e below s (own_QP (some (.int (own_f2_50 v0 v1))) h0) 0 0 _
    rw [show (own_f2_50 v0 v1) = (own_f2_58 v0 v1) from if_neg hq]
    refine own_go (fun t => XS.icmpYes X.here hx rfl (pc0 := 53) (pc' := 58) rfl (hb hby own_d2_53) rfl (flt hq).2.1 (by decide) (by decide)) ?_
    show own_Fin p e below s (own_QP (some (.int (own_f2_58 v0 v1))) h0) 0 0 (T.setTop (mkF m 58 #[.val (.int v0), .val (.int v1)] []))
    exact own_b2_58 X C hh v0 v1
def own_f2_48 (v0 : Int32) (v1 : Int32) : Int32 := (1 : Int32)
set_option maxRecDepth 65536 in
theorem own_b2_48 {l : Launch} {p : Program} {e : Env} {below : List Frame} {s : State} {m : MethodId} {meth : Method} {c : Code} {Z : State} {a0 args : Array Value} {T : State} {h0 : Heap} (X : Stand p l e ({ frames := 0, cells := 0, slots := 0, locals := 0 } : Room) s m args below meth c T [] 0 0) (C : own_Ctx p s m meth c Z a0 tables_1 (⟨"com/example/where/where/parsing/XmlCharsIsNameStartCharPinLaw", "reference", "(C)Z"⟩ : MethodName) method_3_code 2 (some .boolean)) (hh : T.heap = h0) (v0 : Int32) (v1 : Int32) :
    own_Fin p e below s (own_QP (some (.int (own_f2_48 v0 v1))) h0) 0 0 (T.setTop (mkF m 48 #[.val (.int v0), .val (.int v1)] [])) := by
  obtain ⟨hx, hby, hml, hZ, hown, hnm, hret, hlk, hw⟩ := id C
  refine own_go (fun t => XS.iconst X.here hx rfl (hb hby own_d2_48)) ?_
  show own_Fin p e below s (own_QP (some (.int (own_f2_48 v0 v1))) h0) 0 0 (T.setTop (mkF m 49 #[.val (.int v0), .val (.int v1)] [(.int (1 : Int32))]))
  exact own_ret X hlk hx (t := .boolean) hret rfl (Or.inl ⟨rfl, by simp, _, rfl⟩) (hb hby own_d2_49) ⟨rfl, rfl, hh⟩ (by decide) (by decide)
def own_f2_42 (v0 : Int32) (v1 : Int32) : Int32 := if v1 = (95 : Int32) then (own_f2_48 v0 v1) else (own_f2_50 v0 v1)
set_option maxRecDepth 65536 in
theorem own_b2_42 {l : Launch} {p : Program} {e : Env} {below : List Frame} {s : State} {m : MethodId} {meth : Method} {c : Code} {Z : State} {a0 args : Array Value} {T : State} {h0 : Heap} (X : Stand p l e ({ frames := 0, cells := 0, slots := 0, locals := 0 } : Room) s m args below meth c T [] 0 0) (C : own_Ctx p s m meth c Z a0 tables_1 (⟨"com/example/where/where/parsing/XmlCharsIsNameStartCharPinLaw", "reference", "(C)Z"⟩ : MethodName) method_3_code 2 (some .boolean)) (hh : T.heap = h0) (v0 : Int32) (v1 : Int32) :
    own_Fin p e below s (own_QP (some (.int (own_f2_42 v0 v1))) h0) 0 0 (T.setTop (mkF m 42 #[.val (.int v0), .val (.int v1)] [])) := by
  obtain ⟨hx, hby, hml, hZ, hown, hnm, hret, hlk, hw⟩ := id C
  refine own_go (fun t => XS.iloadN X.here hx rfl (hb hby own_d2_42) rfl) ?_
  show own_Fin p e below s (own_QP (some (.int (own_f2_42 v0 v1))) h0) 0 0 (T.setTop (mkF m 43 #[.val (.int v0), .val (.int v1)] [(.int v1)]))
  refine own_go (fun t => XS.bipush X.here hx rfl (hb hby own_d2_43)) ?_
  show own_Fin p e below s (own_QP (some (.int (own_f2_42 v0 v1))) h0) 0 0 (T.setTop (mkF m 45 #[.val (.int v0), .val (.int v1)] [(.int (95 : Int32)), (.int v1)]))
  by_cases hq : v1 = (95 : Int32)
  · show own_Fin p e below s (own_QP (some (.int (own_f2_42 v0 v1))) h0) 0 0 _
    rw [show (own_f2_42 v0 v1) = (own_f2_48 v0 v1) from if_pos hq]
    refine own_go (fun t => XS.icmpNo X.here hx rfl (hb hby own_d2_45) rfl (teq hq).2) ?_
    show own_Fin p e below s (own_QP (some (.int (own_f2_48 v0 v1))) h0) 0 0 (T.setTop (mkF m 48 #[.val (.int v0), .val (.int v1)] []))
    exact own_b2_48 X C hh v0 v1
  · show own_Fin p e below s (own_QP (some (.int (own_f2_42 v0 v1))) h0) 0 0 _
    rw [show (own_f2_42 v0 v1) = (own_f2_50 v0 v1) from if_neg hq]
    refine own_go (fun t => XS.icmpYes X.here hx rfl (pc0 := 45) (pc' := 50) rfl (hb hby own_d2_45) rfl (feq hq).2 (by decide) (by decide)) ?_
    show own_Fin p e below s (own_QP (some (.int (own_f2_50 v0 v1))) h0) 0 0 (T.setTop (mkF m 50 #[.val (.int v0), .val (.int v1)] []))
    exact own_b2_50 X C hh v0 v1
def own_f2_40 (v0 : Int32) (v1 : Int32) : Int32 := (0 : Int32)
set_option maxRecDepth 65536 in
theorem own_b2_40 {l : Launch} {p : Program} {e : Env} {below : List Frame} {s : State} {m : MethodId} {meth : Method} {c : Code} {Z : State} {a0 args : Array Value} {T : State} {h0 : Heap} (X : Stand p l e ({ frames := 0, cells := 0, slots := 0, locals := 0 } : Room) s m args below meth c T [] 0 0) (C : own_Ctx p s m meth c Z a0 tables_1 (⟨"com/example/where/where/parsing/XmlCharsIsNameStartCharPinLaw", "reference", "(C)Z"⟩ : MethodName) method_3_code 2 (some .boolean)) (hh : T.heap = h0) (v0 : Int32) (v1 : Int32) :
    own_Fin p e below s (own_QP (some (.int (own_f2_40 v0 v1))) h0) 0 0 (T.setTop (mkF m 40 #[.val (.int v0), .val (.int v1)] [])) := by
  obtain ⟨hx, hby, hml, hZ, hown, hnm, hret, hlk, hw⟩ := id C
  refine own_go (fun t => XS.iconst X.here hx rfl (hb hby own_d2_40)) ?_
  show own_Fin p e below s (own_QP (some (.int (own_f2_40 v0 v1))) h0) 0 0 (T.setTop (mkF m 41 #[.val (.int v0), .val (.int v1)] [(.int (0 : Int32))]))
  exact own_ret X hlk hx (t := .boolean) hret rfl (Or.inl ⟨rfl, by simp, _, rfl⟩) (hb hby own_d2_41) ⟨rfl, rfl, hh⟩ (by decide) (by decide)
def own_f2_34 (v0 : Int32) (v1 : Int32) : Int32 := if v1 < (95 : Int32) then (own_f2_40 v0 v1) else (own_f2_42 v0 v1)
set_option maxRecDepth 65536 in
theorem own_b2_34 {l : Launch} {p : Program} {e : Env} {below : List Frame} {s : State} {m : MethodId} {meth : Method} {c : Code} {Z : State} {a0 args : Array Value} {T : State} {h0 : Heap} (X : Stand p l e ({ frames := 0, cells := 0, slots := 0, locals := 0 } : Room) s m args below meth c T [] 0 0) (C : own_Ctx p s m meth c Z a0 tables_1 (⟨"com/example/where/where/parsing/XmlCharsIsNameStartCharPinLaw", "reference", "(C)Z"⟩ : MethodName) method_3_code 2 (some .boolean)) (hh : T.heap = h0) (v0 : Int32) (v1 : Int32) :
    own_Fin p e below s (own_QP (some (.int (own_f2_34 v0 v1))) h0) 0 0 (T.setTop (mkF m 34 #[.val (.int v0), .val (.int v1)] [])) := by
  obtain ⟨hx, hby, hml, hZ, hown, hnm, hret, hlk, hw⟩ := id C
  refine own_go (fun t => XS.iloadN X.here hx rfl (hb hby own_d2_34) rfl) ?_
  show own_Fin p e below s (own_QP (some (.int (own_f2_34 v0 v1))) h0) 0 0 (T.setTop (mkF m 35 #[.val (.int v0), .val (.int v1)] [(.int v1)]))
  refine own_go (fun t => XS.bipush X.here hx rfl (hb hby own_d2_35)) ?_
  show own_Fin p e below s (own_QP (some (.int (own_f2_34 v0 v1))) h0) 0 0 (T.setTop (mkF m 37 #[.val (.int v0), .val (.int v1)] [(.int (95 : Int32)), (.int v1)]))
  by_cases hq : v1 < (95 : Int32)
  · show own_Fin p e below s (own_QP (some (.int (own_f2_34 v0 v1))) h0) 0 0 _
    rw [show (own_f2_34 v0 v1) = (own_f2_40 v0 v1) from if_pos hq]
    refine own_go (fun t => XS.icmpNo X.here hx rfl (hb hby own_d2_37) rfl (tlt hq).2.1) ?_
    show own_Fin p e below s (own_QP (some (.int (own_f2_40 v0 v1))) h0) 0 0 (T.setTop (mkF m 40 #[.val (.int v0), .val (.int v1)] []))
    exact own_b2_40 X C hh v0 v1
  · show own_Fin p e below s (own_QP (some (.int (own_f2_34 v0 v1))) h0) 0 0 _
    rw [show (own_f2_34 v0 v1) = (own_f2_42 v0 v1) from if_neg hq]
    refine own_go (fun t => XS.icmpYes X.here hx rfl (pc0 := 37) (pc' := 42) rfl (hb hby own_d2_37) rfl (flt hq).2.1 (by decide) (by decide)) ?_
    show own_Fin p e below s (own_QP (some (.int (own_f2_42 v0 v1))) h0) 0 0 (T.setTop (mkF m 42 #[.val (.int v0), .val (.int v1)] []))
    exact own_b2_42 X C hh v0 v1
def own_f2_32 (v0 : Int32) (v1 : Int32) : Int32 := (1 : Int32)
set_option maxRecDepth 65536 in
theorem own_b2_32 {l : Launch} {p : Program} {e : Env} {below : List Frame} {s : State} {m : MethodId} {meth : Method} {c : Code} {Z : State} {a0 args : Array Value} {T : State} {h0 : Heap} (X : Stand p l e ({ frames := 0, cells := 0, slots := 0, locals := 0 } : Room) s m args below meth c T [] 0 0) (C : own_Ctx p s m meth c Z a0 tables_1 (⟨"com/example/where/where/parsing/XmlCharsIsNameStartCharPinLaw", "reference", "(C)Z"⟩ : MethodName) method_3_code 2 (some .boolean)) (hh : T.heap = h0) (v0 : Int32) (v1 : Int32) :
    own_Fin p e below s (own_QP (some (.int (own_f2_32 v0 v1))) h0) 0 0 (T.setTop (mkF m 32 #[.val (.int v0), .val (.int v1)] [])) := by
  obtain ⟨hx, hby, hml, hZ, hown, hnm, hret, hlk, hw⟩ := id C
  refine own_go (fun t => XS.iconst X.here hx rfl (hb hby own_d2_32)) ?_
  show own_Fin p e below s (own_QP (some (.int (own_f2_32 v0 v1))) h0) 0 0 (T.setTop (mkF m 33 #[.val (.int v0), .val (.int v1)] [(.int (1 : Int32))]))
  exact own_ret X hlk hx (t := .boolean) hret rfl (Or.inl ⟨rfl, by simp, _, rfl⟩) (hb hby own_d2_33) ⟨rfl, rfl, hh⟩ (by decide) (by decide)
def own_f2_26 (v0 : Int32) (v1 : Int32) : Int32 := if (90 : Int32) < v1 then (own_f2_34 v0 v1) else (own_f2_32 v0 v1)
set_option maxRecDepth 65536 in
theorem own_b2_26 {l : Launch} {p : Program} {e : Env} {below : List Frame} {s : State} {m : MethodId} {meth : Method} {c : Code} {Z : State} {a0 args : Array Value} {T : State} {h0 : Heap} (X : Stand p l e ({ frames := 0, cells := 0, slots := 0, locals := 0 } : Room) s m args below meth c T [] 0 0) (C : own_Ctx p s m meth c Z a0 tables_1 (⟨"com/example/where/where/parsing/XmlCharsIsNameStartCharPinLaw", "reference", "(C)Z"⟩ : MethodName) method_3_code 2 (some .boolean)) (hh : T.heap = h0) (v0 : Int32) (v1 : Int32) :
    own_Fin p e below s (own_QP (some (.int (own_f2_26 v0 v1))) h0) 0 0 (T.setTop (mkF m 26 #[.val (.int v0), .val (.int v1)] [])) := by
  obtain ⟨hx, hby, hml, hZ, hown, hnm, hret, hlk, hw⟩ := id C
  refine own_go (fun t => XS.iloadN X.here hx rfl (hb hby own_d2_26) rfl) ?_
  show own_Fin p e below s (own_QP (some (.int (own_f2_26 v0 v1))) h0) 0 0 (T.setTop (mkF m 27 #[.val (.int v0), .val (.int v1)] [(.int v1)]))
  refine own_go (fun t => XS.bipush X.here hx rfl (hb hby own_d2_27)) ?_
  show own_Fin p e below s (own_QP (some (.int (own_f2_26 v0 v1))) h0) 0 0 (T.setTop (mkF m 29 #[.val (.int v0), .val (.int v1)] [(.int (90 : Int32)), (.int v1)]))
  by_cases hq : (90 : Int32) < v1
  · show own_Fin p e below s (own_QP (some (.int (own_f2_26 v0 v1))) h0) 0 0 _
    rw [show (own_f2_26 v0 v1) = (own_f2_34 v0 v1) from if_pos hq]
    refine own_go (fun t => XS.icmpYes X.here hx rfl (pc0 := 29) (pc' := 34) rfl (hb hby own_d2_29) rfl (tlt hq).2.2.1 (by decide) (by decide)) ?_
    show own_Fin p e below s (own_QP (some (.int (own_f2_34 v0 v1))) h0) 0 0 (T.setTop (mkF m 34 #[.val (.int v0), .val (.int v1)] []))
    exact own_b2_34 X C hh v0 v1
  · show own_Fin p e below s (own_QP (some (.int (own_f2_26 v0 v1))) h0) 0 0 _
    rw [show (own_f2_26 v0 v1) = (own_f2_32 v0 v1) from if_neg hq]
    refine own_go (fun t => XS.icmpNo X.here hx rfl (hb hby own_d2_29) rfl (flt hq).2.2.1) ?_
    show own_Fin p e below s (own_QP (some (.int (own_f2_32 v0 v1))) h0) 0 0 (T.setTop (mkF m 32 #[.val (.int v0), .val (.int v1)] []))
    exact own_b2_32 X C hh v0 v1
def own_f2_24 (v0 : Int32) (v1 : Int32) : Int32 := (0 : Int32)
set_option maxRecDepth 65536 in
theorem own_b2_24 {l : Launch} {p : Program} {e : Env} {below : List Frame} {s : State} {m : MethodId} {meth : Method} {c : Code} {Z : State} {a0 args : Array Value} {T : State} {h0 : Heap} (X : Stand p l e ({ frames := 0, cells := 0, slots := 0, locals := 0 } : Room) s m args below meth c T [] 0 0) (C : own_Ctx p s m meth c Z a0 tables_1 (⟨"com/example/where/where/parsing/XmlCharsIsNameStartCharPinLaw", "reference", "(C)Z"⟩ : MethodName) method_3_code 2 (some .boolean)) (hh : T.heap = h0) (v0 : Int32) (v1 : Int32) :
    own_Fin p e below s (own_QP (some (.int (own_f2_24 v0 v1))) h0) 0 0 (T.setTop (mkF m 24 #[.val (.int v0), .val (.int v1)] [])) := by
  obtain ⟨hx, hby, hml, hZ, hown, hnm, hret, hlk, hw⟩ := id C
  refine own_go (fun t => XS.iconst X.here hx rfl (hb hby own_d2_24)) ?_
  show own_Fin p e below s (own_QP (some (.int (own_f2_24 v0 v1))) h0) 0 0 (T.setTop (mkF m 25 #[.val (.int v0), .val (.int v1)] [(.int (0 : Int32))]))
  exact own_ret X hlk hx (t := .boolean) hret rfl (Or.inl ⟨rfl, by simp, _, rfl⟩) (hb hby own_d2_25) ⟨rfl, rfl, hh⟩ (by decide) (by decide)
def own_f2_18 (v0 : Int32) (v1 : Int32) : Int32 := if v1 < (65 : Int32) then (own_f2_24 v0 v1) else (own_f2_26 v0 v1)
set_option maxRecDepth 65536 in
theorem own_b2_18 {l : Launch} {p : Program} {e : Env} {below : List Frame} {s : State} {m : MethodId} {meth : Method} {c : Code} {Z : State} {a0 args : Array Value} {T : State} {h0 : Heap} (X : Stand p l e ({ frames := 0, cells := 0, slots := 0, locals := 0 } : Room) s m args below meth c T [] 0 0) (C : own_Ctx p s m meth c Z a0 tables_1 (⟨"com/example/where/where/parsing/XmlCharsIsNameStartCharPinLaw", "reference", "(C)Z"⟩ : MethodName) method_3_code 2 (some .boolean)) (hh : T.heap = h0) (v0 : Int32) (v1 : Int32) :
    own_Fin p e below s (own_QP (some (.int (own_f2_18 v0 v1))) h0) 0 0 (T.setTop (mkF m 18 #[.val (.int v0), .val (.int v1)] [])) := by
  obtain ⟨hx, hby, hml, hZ, hown, hnm, hret, hlk, hw⟩ := id C
  refine own_go (fun t => XS.iloadN X.here hx rfl (hb hby own_d2_18) rfl) ?_
  show own_Fin p e below s (own_QP (some (.int (own_f2_18 v0 v1))) h0) 0 0 (T.setTop (mkF m 19 #[.val (.int v0), .val (.int v1)] [(.int v1)]))
  refine own_go (fun t => XS.bipush X.here hx rfl (hb hby own_d2_19)) ?_
  show own_Fin p e below s (own_QP (some (.int (own_f2_18 v0 v1))) h0) 0 0 (T.setTop (mkF m 21 #[.val (.int v0), .val (.int v1)] [(.int (65 : Int32)), (.int v1)]))
  by_cases hq : v1 < (65 : Int32)
  · show own_Fin p e below s (own_QP (some (.int (own_f2_18 v0 v1))) h0) 0 0 _
    rw [show (own_f2_18 v0 v1) = (own_f2_24 v0 v1) from if_pos hq]
    refine own_go (fun t => XS.icmpNo X.here hx rfl (hb hby own_d2_21) rfl (tlt hq).2.1) ?_
    show own_Fin p e below s (own_QP (some (.int (own_f2_24 v0 v1))) h0) 0 0 (T.setTop (mkF m 24 #[.val (.int v0), .val (.int v1)] []))
    exact own_b2_24 X C hh v0 v1
  · show own_Fin p e below s (own_QP (some (.int (own_f2_18 v0 v1))) h0) 0 0 _
    rw [show (own_f2_18 v0 v1) = (own_f2_26 v0 v1) from if_neg hq]
    refine own_go (fun t => XS.icmpYes X.here hx rfl (pc0 := 21) (pc' := 26) rfl (hb hby own_d2_21) rfl (flt hq).2.1 (by decide) (by decide)) ?_
    show own_Fin p e below s (own_QP (some (.int (own_f2_26 v0 v1))) h0) 0 0 (T.setTop (mkF m 26 #[.val (.int v0), .val (.int v1)] []))
    exact own_b2_26 X C hh v0 v1
def own_f2_16 (v0 : Int32) (v1 : Int32) : Int32 := (1 : Int32)
set_option maxRecDepth 65536 in
theorem own_b2_16 {l : Launch} {p : Program} {e : Env} {below : List Frame} {s : State} {m : MethodId} {meth : Method} {c : Code} {Z : State} {a0 args : Array Value} {T : State} {h0 : Heap} (X : Stand p l e ({ frames := 0, cells := 0, slots := 0, locals := 0 } : Room) s m args below meth c T [] 0 0) (C : own_Ctx p s m meth c Z a0 tables_1 (⟨"com/example/where/where/parsing/XmlCharsIsNameStartCharPinLaw", "reference", "(C)Z"⟩ : MethodName) method_3_code 2 (some .boolean)) (hh : T.heap = h0) (v0 : Int32) (v1 : Int32) :
    own_Fin p e below s (own_QP (some (.int (own_f2_16 v0 v1))) h0) 0 0 (T.setTop (mkF m 16 #[.val (.int v0), .val (.int v1)] [])) := by
  obtain ⟨hx, hby, hml, hZ, hown, hnm, hret, hlk, hw⟩ := id C
  refine own_go (fun t => XS.iconst X.here hx rfl (hb hby own_d2_16)) ?_
  show own_Fin p e below s (own_QP (some (.int (own_f2_16 v0 v1))) h0) 0 0 (T.setTop (mkF m 17 #[.val (.int v0), .val (.int v1)] [(.int (1 : Int32))]))
  exact own_ret X hlk hx (t := .boolean) hret rfl (Or.inl ⟨rfl, by simp, _, rfl⟩) (hb hby own_d2_17) ⟨rfl, rfl, hh⟩ (by decide) (by decide)
def own_f2_10 (v0 : Int32) (v1 : Int32) : Int32 := if v1 = (58 : Int32) then (own_f2_16 v0 v1) else (own_f2_18 v0 v1)
set_option maxRecDepth 65536 in
theorem own_b2_10 {l : Launch} {p : Program} {e : Env} {below : List Frame} {s : State} {m : MethodId} {meth : Method} {c : Code} {Z : State} {a0 args : Array Value} {T : State} {h0 : Heap} (X : Stand p l e ({ frames := 0, cells := 0, slots := 0, locals := 0 } : Room) s m args below meth c T [] 0 0) (C : own_Ctx p s m meth c Z a0 tables_1 (⟨"com/example/where/where/parsing/XmlCharsIsNameStartCharPinLaw", "reference", "(C)Z"⟩ : MethodName) method_3_code 2 (some .boolean)) (hh : T.heap = h0) (v0 : Int32) (v1 : Int32) :
    own_Fin p e below s (own_QP (some (.int (own_f2_10 v0 v1))) h0) 0 0 (T.setTop (mkF m 10 #[.val (.int v0), .val (.int v1)] [])) := by
  obtain ⟨hx, hby, hml, hZ, hown, hnm, hret, hlk, hw⟩ := id C
  refine own_go (fun t => XS.iloadN X.here hx rfl (hb hby own_d2_10) rfl) ?_
  show own_Fin p e below s (own_QP (some (.int (own_f2_10 v0 v1))) h0) 0 0 (T.setTop (mkF m 11 #[.val (.int v0), .val (.int v1)] [(.int v1)]))
  refine own_go (fun t => XS.bipush X.here hx rfl (hb hby own_d2_11)) ?_
  show own_Fin p e below s (own_QP (some (.int (own_f2_10 v0 v1))) h0) 0 0 (T.setTop (mkF m 13 #[.val (.int v0), .val (.int v1)] [(.int (58 : Int32)), (.int v1)]))
  by_cases hq : v1 = (58 : Int32)
  · show own_Fin p e below s (own_QP (some (.int (own_f2_10 v0 v1))) h0) 0 0 _
    rw [show (own_f2_10 v0 v1) = (own_f2_16 v0 v1) from if_pos hq]
    refine own_go (fun t => XS.icmpNo X.here hx rfl (hb hby own_d2_13) rfl (teq hq).2) ?_
    show own_Fin p e below s (own_QP (some (.int (own_f2_16 v0 v1))) h0) 0 0 (T.setTop (mkF m 16 #[.val (.int v0), .val (.int v1)] []))
    exact own_b2_16 X C hh v0 v1
  · show own_Fin p e below s (own_QP (some (.int (own_f2_10 v0 v1))) h0) 0 0 _
    rw [show (own_f2_10 v0 v1) = (own_f2_18 v0 v1) from if_neg hq]
    refine own_go (fun t => XS.icmpYes X.here hx rfl (pc0 := 13) (pc' := 18) rfl (hb hby own_d2_13) rfl (feq hq).2 (by decide) (by decide)) ?_
    show own_Fin p e below s (own_QP (some (.int (own_f2_18 v0 v1))) h0) 0 0 (T.setTop (mkF m 18 #[.val (.int v0), .val (.int v1)] []))
    exact own_b2_18 X C hh v0 v1
def own_f2_8 (v0 : Int32) (v1 : Int32) : Int32 := (0 : Int32)
set_option maxRecDepth 65536 in
theorem own_b2_8 {l : Launch} {p : Program} {e : Env} {below : List Frame} {s : State} {m : MethodId} {meth : Method} {c : Code} {Z : State} {a0 args : Array Value} {T : State} {h0 : Heap} (X : Stand p l e ({ frames := 0, cells := 0, slots := 0, locals := 0 } : Room) s m args below meth c T [] 0 0) (C : own_Ctx p s m meth c Z a0 tables_1 (⟨"com/example/where/where/parsing/XmlCharsIsNameStartCharPinLaw", "reference", "(C)Z"⟩ : MethodName) method_3_code 2 (some .boolean)) (hh : T.heap = h0) (v0 : Int32) (v1 : Int32) :
    own_Fin p e below s (own_QP (some (.int (own_f2_8 v0 v1))) h0) 0 0 (T.setTop (mkF m 8 #[.val (.int v0), .val (.int v1)] [])) := by
  obtain ⟨hx, hby, hml, hZ, hown, hnm, hret, hlk, hw⟩ := id C
  refine own_go (fun t => XS.iconst X.here hx rfl (hb hby own_d2_8)) ?_
  show own_Fin p e below s (own_QP (some (.int (own_f2_8 v0 v1))) h0) 0 0 (T.setTop (mkF m 9 #[.val (.int v0), .val (.int v1)] [(.int (0 : Int32))]))
  exact own_ret X hlk hx (t := .boolean) hret rfl (Or.inl ⟨rfl, by simp, _, rfl⟩) (hb hby own_d2_9) ⟨rfl, rfl, hh⟩ (by decide) (by decide)
def own_f2_0 (v0 : Int32) : Int32 := if v0 < (58 : Int32) then (own_f2_8 v0 v0) else (own_f2_10 v0 v0)
set_option maxRecDepth 65536 in
theorem own_b2_0 {l : Launch} {p : Program} {e : Env} {below : List Frame} {s : State} {m : MethodId} {meth : Method} {c : Code} {Z : State} {a0 args : Array Value} {T : State} {h0 : Heap} (X : Stand p l e ({ frames := 0, cells := 0, slots := 0, locals := 0 } : Room) s m args below meth c T [] 0 0) (C : own_Ctx p s m meth c Z a0 tables_1 (⟨"com/example/where/where/parsing/XmlCharsIsNameStartCharPinLaw", "reference", "(C)Z"⟩ : MethodName) method_3_code 2 (some .boolean)) (hh : T.heap = h0) (v0 : Int32) :
    own_Fin p e below s (own_QP (some (.int (own_f2_0 v0))) h0) 0 0 (T.setTop (mkF m 0 #[.val (.int v0), .unset] [])) := by
  obtain ⟨hx, hby, hml, hZ, hown, hnm, hret, hlk, hw⟩ := id C
  refine own_go (fun t => XS.iloadN X.here hx rfl (hb hby own_d2_0) rfl) ?_
  show own_Fin p e below s (own_QP (some (.int (own_f2_0 v0))) h0) 0 0 (T.setTop (mkF m 1 #[.val (.int v0), .unset] [(.int v0)]))
  refine own_go (fun t => XS.istoreN X.here hx rfl (hb hby own_d2_1) rfl (l' := #[.val (.int v0), .val (.int v0)]) rfl) ?_
  show own_Fin p e below s (own_QP (some (.int (own_f2_0 v0))) h0) 0 0 (T.setTop (mkF m 2 #[.val (.int v0), .val (.int v0)] []))
  refine own_go (fun t => XS.iloadN X.here hx rfl (hb hby own_d2_2) rfl) ?_
  show own_Fin p e below s (own_QP (some (.int (own_f2_0 v0))) h0) 0 0 (T.setTop (mkF m 3 #[.val (.int v0), .val (.int v0)] [(.int v0)]))
  refine own_go (fun t => XS.bipush X.here hx rfl (hb hby own_d2_3)) ?_
  show own_Fin p e below s (own_QP (some (.int (own_f2_0 v0))) h0) 0 0 (T.setTop (mkF m 5 #[.val (.int v0), .val (.int v0)] [(.int (58 : Int32)), (.int v0)]))
  by_cases hq : v0 < (58 : Int32)
  · show own_Fin p e below s (own_QP (some (.int (own_f2_0 v0))) h0) 0 0 _
    rw [show (own_f2_0 v0) = (own_f2_8 v0 v0) from if_pos hq]
    refine own_go (fun t => XS.icmpNo X.here hx rfl (hb hby own_d2_5) rfl (tlt hq).2.1) ?_
    show own_Fin p e below s (own_QP (some (.int (own_f2_8 v0 v0))) h0) 0 0 (T.setTop (mkF m 8 #[.val (.int v0), .val (.int v0)] []))
    exact own_b2_8 X C hh v0 v0
  · show own_Fin p e below s (own_QP (some (.int (own_f2_0 v0))) h0) 0 0 _
    rw [show (own_f2_0 v0) = (own_f2_10 v0 v0) from if_neg hq]
    refine own_go (fun t => XS.icmpYes X.here hx rfl (pc0 := 5) (pc' := 10) rfl (hb hby own_d2_5) rfl (flt hq).2.1 (by decide) (by decide)) ?_
    show own_Fin p e below s (own_QP (some (.int (own_f2_10 v0 v0))) h0) 0 0 (T.setTop (mkF m 10 #[.val (.int v0), .val (.int v0)] []))
    exact own_b2_10 X C hh v0 v0
theorem own_pn1 : plainName "com/example/where/where/parsing/XmlCharsIsNameStartCharPinLaw" = true := by first | (simp [plainName, overriddenIn]; done) | decide +kernel
theorem own_c2 (l : Launch) (Z : State) (a0 : Array Value) (hw : ∀ d ∈ tables_1, d.before a0 Z = true) (x0 : Int32) (h0 : Heap) : own_Met l Z (⟨"com/example/where/where/parsing/XmlCharsIsNameStartCharPinLaw", "reference", "(C)Z"⟩ : MethodName) method_3_code 2 (some .boolean) [] ({ frames := 0, cells := 0, slots := 0, locals := 0 } : Room) #[(.int x0)] h0 (own_QP (some (.int (own_f2_0 x0))) h0) :=
  own_enter (plainFor_of_name own_pn1) (own_ef2 x0) hw (fun p e s m below meth c T X C hh => own_b2_0 X C hh x0)
theorem own_same_0 {x : Int32} (h1 : -2147483648 ≤ x.toInt) (h2 : x.toInt ≤ 57) : (own_f1_0 x) = (own_f2_0 x) :=
  Eq.trans (((if_pos (own_lt (97) (by decide) (by omega)) : (own_f1_0 x) = (own_f1_12 x))).trans (((if_pos (own_lt (65) (by decide) (by omega)) : (own_f1_12 x) = (own_f1_24 x))).trans (((if_neg (own_ineq (95) (by decide) (by omega)) : (own_f1_24 x) = (own_f1_30 x))).trans (((if_neg (own_ineq (58) (by decide) (by omega)) : (own_f1_30 x) = (own_f1_36 x))).trans (((if_pos (own_lt (192) (by decide) (by omega)) : (own_f1_36 x) = (own_f1_64 x))).trans (((if_pos (own_lt (880) (by decide) (by omega)) : (own_f1_64 x) = (own_f1_85 x))).trans (((if_pos (own_lt (8204) (by decide) (by omega)) : (own_f1_85 x) = (own_f1_99 x))).trans (((if_pos (own_lt (8304) (by decide) (by omega)) : (own_f1_99 x) = (own_f1_113 x))).trans (((if_pos (own_lt (11264) (by decide) (by omega)) : (own_f1_113 x) = (own_f1_127 x))).trans (((if_pos (own_lt (12289) (by decide) (by omega)) : (own_f1_127 x) = (own_f1_140 x))).trans (((if_pos (own_lt (63744) (by decide) (by omega)) : (own_f1_140 x) = (own_f1_152 x))).trans ((if_pos (own_lt (65008) (by decide) (by omega)) : (own_f1_152 x) = (own_f1_168 x)))))))))))))) (Eq.symm ((if_pos (own_lt (58) (by decide) (by omega)) : (own_f2_0 x) = (own_f2_8 x x))))
theorem own_same_1 {x : Int32} (h1 : 58 ≤ x.toInt) (h2 : x.toInt ≤ 58) : (own_f1_0 x) = (own_f2_0 x) :=
  Eq.trans (((if_pos (own_lt (97) (by decide) (by omega)) : (own_f1_0 x) = (own_f1_12 x))).trans (((if_pos (own_lt (65) (by decide) (by omega)) : (own_f1_12 x) = (own_f1_24 x))).trans (((if_neg (own_ineq (95) (by decide) (by omega)) : (own_f1_24 x) = (own_f1_30 x))).trans ((if_pos (own_ieq (58) (by decide) (by omega)) : (own_f1_30 x) = (own_f1_164 x)))))) (Eq.symm (((if_neg (own_nlt (58) (by decide) (by omega)) : (own_f2_0 x) = (own_f2_10 x x))).trans ((if_pos (own_ieq (58) (by decide) (by omega)) : (own_f2_10 x x) = (own_f2_16 x x)))))
theorem own_same_2 {x : Int32} (h1 : 59 ≤ x.toInt) (h2 : x.toInt ≤ 64) : (own_f1_0 x) = (own_f2_0 x) :=
  Eq.trans (((if_pos (own_lt (97) (by decide) (by omega)) : (own_f1_0 x) = (own_f1_12 x))).trans (((if_pos (own_lt (65) (by decide) (by omega)) : (own_f1_12 x) = (own_f1_24 x))).trans (((if_neg (own_ineq (95) (by decide) (by omega)) : (own_f1_24 x) = (own_f1_30 x))).trans (((if_neg (own_ineq (58) (by decide) (by omega)) : (own_f1_30 x) = (own_f1_36 x))).trans (((if_pos (own_lt (192) (by decide) (by omega)) : (own_f1_36 x) = (own_f1_64 x))).trans (((if_pos (own_lt (880) (by decide) (by omega)) : (own_f1_64 x) = (own_f1_85 x))).trans (((if_pos (own_lt (8204) (by decide) (by omega)) : (own_f1_85 x) = (own_f1_99 x))).trans (((if_pos (own_lt (8304) (by decide) (by omega)) : (own_f1_99 x) = (own_f1_113 x))).trans (((if_pos (own_lt (11264) (by decide) (by omega)) : (own_f1_113 x) = (own_f1_127 x))).trans (((if_pos (own_lt (12289) (by decide) (by omega)) : (own_f1_127 x) = (own_f1_140 x))).trans (((if_pos (own_lt (63744) (by decide) (by omega)) : (own_f1_140 x) = (own_f1_152 x))).trans ((if_pos (own_lt (65008) (by decide) (by omega)) : (own_f1_152 x) = (own_f1_168 x)))))))))))))) (Eq.symm (((if_neg (own_nlt (58) (by decide) (by omega)) : (own_f2_0 x) = (own_f2_10 x x))).trans (((if_neg (own_ineq (58) (by decide) (by omega)) : (own_f2_10 x x) = (own_f2_18 x x))).trans ((if_pos (own_lt (65) (by decide) (by omega)) : (own_f2_18 x x) = (own_f2_24 x x))))))
theorem own_same_3 {x : Int32} (h1 : 65 ≤ x.toInt) (h2 : x.toInt ≤ 90) : (own_f1_0 x) = (own_f2_0 x) :=
  Eq.trans (((if_pos (own_lt (97) (by decide) (by omega)) : (own_f1_0 x) = (own_f1_12 x))).trans (((if_neg (own_nlt (65) (by decide) (by omega)) : (own_f1_12 x) = (own_f1_18 x))).trans ((if_neg (own_ngt (90) (by decide) (by omega)) : (own_f1_18 x) = (own_f1_164 x))))) (Eq.symm (((if_neg (own_nlt (58) (by decide) (by omega)) : (own_f2_0 x) = (own_f2_10 x x))).trans (((if_neg (own_ineq (58) (by decide) (by omega)) : (own_f2_10 x x) = (own_f2_18 x x))).trans (((if_neg (own_nlt (65) (by decide) (by omega)) : (own_f2_18 x x) = (own_f2_26 x x))).trans ((if_neg (own_ngt (90) (by decide) (by omega)) : (own_f2_26 x x) = (own_f2_32 x x)))))))
theorem own_same_4 {x : Int32} (h1 : 91 ≤ x.toInt) (h2 : x.toInt ≤ 94) : (own_f1_0 x) = (own_f2_0 x) :=
  Eq.trans (((if_pos (own_lt (97) (by decide) (by omega)) : (own_f1_0 x) = (own_f1_12 x))).trans (((if_neg (own_nlt (65) (by decide) (by omega)) : (own_f1_12 x) = (own_f1_18 x))).trans (((if_pos (own_gt (90) (by decide) (by omega)) : (own_f1_18 x) = (own_f1_24 x))).trans (((if_neg (own_ineq (95) (by decide) (by omega)) : (own_f1_24 x) = (own_f1_30 x))).trans (((if_neg (own_ineq (58) (by decide) (by omega)) : (own_f1_30 x) = (own_f1_36 x))).trans (((if_pos (own_lt (192) (by decide) (by omega)) : (own_f1_36 x) = (own_f1_64 x))).trans (((if_pos (own_lt (880) (by decide) (by omega)) : (own_f1_64 x) = (own_f1_85 x))).trans (((if_pos (own_lt (8204) (by decide) (by omega)) : (own_f1_85 x) = (own_f1_99 x))).trans (((if_pos (own_lt (8304) (by decide) (by omega)) : (own_f1_99 x) = (own_f1_113 x))).trans (((if_pos (own_lt (11264) (by decide) (by omega)) : (own_f1_113 x) = (own_f1_127 x))).trans (((if_pos (own_lt (12289) (by decide) (by omega)) : (own_f1_127 x) = (own_f1_140 x))).trans (((if_pos (own_lt (63744) (by decide) (by omega)) : (own_f1_140 x) = (own_f1_152 x))).trans ((if_pos (own_lt (65008) (by decide) (by omega)) : (own_f1_152 x) = (own_f1_168 x))))))))))))))) (Eq.symm (((if_neg (own_nlt (58) (by decide) (by omega)) : (own_f2_0 x) = (own_f2_10 x x))).trans (((if_neg (own_ineq (58) (by decide) (by omega)) : (own_f2_10 x x) = (own_f2_18 x x))).trans (((if_neg (own_nlt (65) (by decide) (by omega)) : (own_f2_18 x x) = (own_f2_26 x x))).trans (((if_pos (own_gt (90) (by decide) (by omega)) : (own_f2_26 x x) = (own_f2_34 x x))).trans ((if_pos (own_lt (95) (by decide) (by omega)) : (own_f2_34 x x) = (own_f2_40 x x))))))))
theorem own_same_5 {x : Int32} (h1 : 95 ≤ x.toInt) (h2 : x.toInt ≤ 95) : (own_f1_0 x) = (own_f2_0 x) :=
  Eq.trans (((if_pos (own_lt (97) (by decide) (by omega)) : (own_f1_0 x) = (own_f1_12 x))).trans (((if_neg (own_nlt (65) (by decide) (by omega)) : (own_f1_12 x) = (own_f1_18 x))).trans (((if_pos (own_gt (90) (by decide) (by omega)) : (own_f1_18 x) = (own_f1_24 x))).trans ((if_pos (own_ieq (95) (by decide) (by omega)) : (own_f1_24 x) = (own_f1_164 x)))))) (Eq.symm (((if_neg (own_nlt (58) (by decide) (by omega)) : (own_f2_0 x) = (own_f2_10 x x))).trans (((if_neg (own_ineq (58) (by decide) (by omega)) : (own_f2_10 x x) = (own_f2_18 x x))).trans (((if_neg (own_nlt (65) (by decide) (by omega)) : (own_f2_18 x x) = (own_f2_26 x x))).trans (((if_pos (own_gt (90) (by decide) (by omega)) : (own_f2_26 x x) = (own_f2_34 x x))).trans (((if_neg (own_nlt (95) (by decide) (by omega)) : (own_f2_34 x x) = (own_f2_42 x x))).trans ((if_pos (own_ieq (95) (by decide) (by omega)) : (own_f2_42 x x) = (own_f2_48 x x)))))))))
theorem own_same_6 {x : Int32} (h1 : 96 ≤ x.toInt) (h2 : x.toInt ≤ 96) : (own_f1_0 x) = (own_f2_0 x) :=
  Eq.trans (((if_pos (own_lt (97) (by decide) (by omega)) : (own_f1_0 x) = (own_f1_12 x))).trans (((if_neg (own_nlt (65) (by decide) (by omega)) : (own_f1_12 x) = (own_f1_18 x))).trans (((if_pos (own_gt (90) (by decide) (by omega)) : (own_f1_18 x) = (own_f1_24 x))).trans (((if_neg (own_ineq (95) (by decide) (by omega)) : (own_f1_24 x) = (own_f1_30 x))).trans (((if_neg (own_ineq (58) (by decide) (by omega)) : (own_f1_30 x) = (own_f1_36 x))).trans (((if_pos (own_lt (192) (by decide) (by omega)) : (own_f1_36 x) = (own_f1_64 x))).trans (((if_pos (own_lt (880) (by decide) (by omega)) : (own_f1_64 x) = (own_f1_85 x))).trans (((if_pos (own_lt (8204) (by decide) (by omega)) : (own_f1_85 x) = (own_f1_99 x))).trans (((if_pos (own_lt (8304) (by decide) (by omega)) : (own_f1_99 x) = (own_f1_113 x))).trans (((if_pos (own_lt (11264) (by decide) (by omega)) : (own_f1_113 x) = (own_f1_127 x))).trans (((if_pos (own_lt (12289) (by decide) (by omega)) : (own_f1_127 x) = (own_f1_140 x))).trans (((if_pos (own_lt (63744) (by decide) (by omega)) : (own_f1_140 x) = (own_f1_152 x))).trans ((if_pos (own_lt (65008) (by decide) (by omega)) : (own_f1_152 x) = (own_f1_168 x))))))))))))))) (Eq.symm (((if_neg (own_nlt (58) (by decide) (by omega)) : (own_f2_0 x) = (own_f2_10 x x))).trans (((if_neg (own_ineq (58) (by decide) (by omega)) : (own_f2_10 x x) = (own_f2_18 x x))).trans (((if_neg (own_nlt (65) (by decide) (by omega)) : (own_f2_18 x x) = (own_f2_26 x x))).trans (((if_pos (own_gt (90) (by decide) (by omega)) : (own_f2_26 x x) = (own_f2_34 x x))).trans (((if_neg (own_nlt (95) (by decide) (by omega)) : (own_f2_34 x x) = (own_f2_42 x x))).trans (((if_neg (own_ineq (95) (by decide) (by omega)) : (own_f2_42 x x) = (own_f2_50 x x))).trans ((if_pos (own_lt (97) (by decide) (by omega)) : (own_f2_50 x x) = (own_f2_56 x x))))))))))
theorem own_same_7 {x : Int32} (h1 : 97 ≤ x.toInt) (h2 : x.toInt ≤ 122) : (own_f1_0 x) = (own_f2_0 x) :=
  Eq.trans (((if_neg (own_nlt (97) (by decide) (by omega)) : (own_f1_0 x) = (own_f1_6 x))).trans ((if_neg (own_ngt (122) (by decide) (by omega)) : (own_f1_6 x) = (own_f1_164 x)))) (Eq.symm (((if_neg (own_nlt (58) (by decide) (by omega)) : (own_f2_0 x) = (own_f2_10 x x))).trans (((if_neg (own_ineq (58) (by decide) (by omega)) : (own_f2_10 x x) = (own_f2_18 x x))).trans (((if_neg (own_nlt (65) (by decide) (by omega)) : (own_f2_18 x x) = (own_f2_26 x x))).trans (((if_pos (own_gt (90) (by decide) (by omega)) : (own_f2_26 x x) = (own_f2_34 x x))).trans (((if_neg (own_nlt (95) (by decide) (by omega)) : (own_f2_34 x x) = (own_f2_42 x x))).trans (((if_neg (own_ineq (95) (by decide) (by omega)) : (own_f2_42 x x) = (own_f2_50 x x))).trans (((if_neg (own_nlt (97) (by decide) (by omega)) : (own_f2_50 x x) = (own_f2_58 x x))).trans ((if_neg (own_ngt (122) (by decide) (by omega)) : (own_f2_58 x x) = (own_f2_64 x x)))))))))))
theorem own_same_8 {x : Int32} (h1 : 123 ≤ x.toInt) (h2 : x.toInt ≤ 191) : (own_f1_0 x) = (own_f2_0 x) :=
  Eq.trans (((if_neg (own_nlt (97) (by decide) (by omega)) : (own_f1_0 x) = (own_f1_6 x))).trans (((if_pos (own_gt (122) (by decide) (by omega)) : (own_f1_6 x) = (own_f1_12 x))).trans (((if_neg (own_nlt (65) (by decide) (by omega)) : (own_f1_12 x) = (own_f1_18 x))).trans (((if_pos (own_gt (90) (by decide) (by omega)) : (own_f1_18 x) = (own_f1_24 x))).trans (((if_neg (own_ineq (95) (by decide) (by omega)) : (own_f1_24 x) = (own_f1_30 x))).trans (((if_neg (own_ineq (58) (by decide) (by omega)) : (own_f1_30 x) = (own_f1_36 x))).trans (((if_pos (own_lt (192) (by decide) (by omega)) : (own_f1_36 x) = (own_f1_64 x))).trans (((if_pos (own_lt (880) (by decide) (by omega)) : (own_f1_64 x) = (own_f1_85 x))).trans (((if_pos (own_lt (8204) (by decide) (by omega)) : (own_f1_85 x) = (own_f1_99 x))).trans (((if_pos (own_lt (8304) (by decide) (by omega)) : (own_f1_99 x) = (own_f1_113 x))).trans (((if_pos (own_lt (11264) (by decide) (by omega)) : (own_f1_113 x) = (own_f1_127 x))).trans (((if_pos (own_lt (12289) (by decide) (by omega)) : (own_f1_127 x) = (own_f1_140 x))).trans (((if_pos (own_lt (63744) (by decide) (by omega)) : (own_f1_140 x) = (own_f1_152 x))).trans ((if_pos (own_lt (65008) (by decide) (by omega)) : (own_f1_152 x) = (own_f1_168 x)))))))))))))))) (Eq.symm (((if_neg (own_nlt (58) (by decide) (by omega)) : (own_f2_0 x) = (own_f2_10 x x))).trans (((if_neg (own_ineq (58) (by decide) (by omega)) : (own_f2_10 x x) = (own_f2_18 x x))).trans (((if_neg (own_nlt (65) (by decide) (by omega)) : (own_f2_18 x x) = (own_f2_26 x x))).trans (((if_pos (own_gt (90) (by decide) (by omega)) : (own_f2_26 x x) = (own_f2_34 x x))).trans (((if_neg (own_nlt (95) (by decide) (by omega)) : (own_f2_34 x x) = (own_f2_42 x x))).trans (((if_neg (own_ineq (95) (by decide) (by omega)) : (own_f2_42 x x) = (own_f2_50 x x))).trans (((if_neg (own_nlt (97) (by decide) (by omega)) : (own_f2_50 x x) = (own_f2_58 x x))).trans (((if_pos (own_gt (122) (by decide) (by omega)) : (own_f2_58 x x) = (own_f2_66 x x))).trans ((if_pos (own_lt (192) (by decide) (by omega)) : (own_f2_66 x x) = (own_f2_73 x x))))))))))))
theorem own_same_9 {x : Int32} (h1 : 192 ≤ x.toInt) (h2 : x.toInt ≤ 214) : (own_f1_0 x) = (own_f2_0 x) :=
  Eq.trans (((if_neg (own_nlt (97) (by decide) (by omega)) : (own_f1_0 x) = (own_f1_6 x))).trans (((if_pos (own_gt (122) (by decide) (by omega)) : (own_f1_6 x) = (own_f1_12 x))).trans (((if_neg (own_nlt (65) (by decide) (by omega)) : (own_f1_12 x) = (own_f1_18 x))).trans (((if_pos (own_gt (90) (by decide) (by omega)) : (own_f1_18 x) = (own_f1_24 x))).trans (((if_neg (own_ineq (95) (by decide) (by omega)) : (own_f1_24 x) = (own_f1_30 x))).trans (((if_neg (own_ineq (58) (by decide) (by omega)) : (own_f1_30 x) = (own_f1_36 x))).trans (((if_neg (own_nlt (192) (by decide) (by omega)) : (own_f1_36 x) = (own_f1_43 x))).trans (((if_neg (own_ngt (767) (by decide) (by omega)) : (own_f1_43 x) = (own_f1_50 x))).trans (((if_neg (own_ineq (215) (by decide) (by omega)) : (own_f1_50 x) = (own_f1_57 x))).trans ((if_neg (own_ineq (247) (by decide) (by omega)) : (own_f1_57 x) = (own_f1_164 x)))))))))))) (Eq.symm (((if_neg (own_nlt (58) (by decide) (by omega)) : (own_f2_0 x) = (own_f2_10 x x))).trans (((if_neg (own_ineq (58) (by decide) (by omega)) : (own_f2_10 x x) = (own_f2_18 x x))).trans (((if_neg (own_nlt (65) (by decide) (by omega)) : (own_f2_18 x x) = (own_f2_26 x x))).trans (((if_pos (own_gt (90) (by decide) (by omega)) : (own_f2_26 x x) = (own_f2_34 x x))).trans (((if_neg (own_nlt (95) (by decide) (by omega)) : (own_f2_34 x x) = (own_f2_42 x x))).trans (((if_neg (own_ineq (95) (by decide) (by omega)) : (own_f2_42 x x) = (own_f2_50 x x))).trans (((if_neg (own_nlt (97) (by decide) (by omega)) : (own_f2_50 x x) = (own_f2_58 x x))).trans (((if_pos (own_gt (122) (by decide) (by omega)) : (own_f2_58 x x) = (own_f2_66 x x))).trans (((if_neg (own_nlt (192) (by decide) (by omega)) : (own_f2_66 x x) = (own_f2_75 x x))).trans ((if_neg (own_ngt (214) (by decide) (by omega)) : (own_f2_75 x x) = (own_f2_82 x x)))))))))))))
theorem own_same_10 {x : Int32} (h1 : 215 ≤ x.toInt) (h2 : x.toInt ≤ 215) : (own_f1_0 x) = (own_f2_0 x) :=
  Eq.trans (((if_neg (own_nlt (97) (by decide) (by omega)) : (own_f1_0 x) = (own_f1_6 x))).trans (((if_pos (own_gt (122) (by decide) (by omega)) : (own_f1_6 x) = (own_f1_12 x))).trans (((if_neg (own_nlt (65) (by decide) (by omega)) : (own_f1_12 x) = (own_f1_18 x))).trans (((if_pos (own_gt (90) (by decide) (by omega)) : (own_f1_18 x) = (own_f1_24 x))).trans (((if_neg (own_ineq (95) (by decide) (by omega)) : (own_f1_24 x) = (own_f1_30 x))).trans (((if_neg (own_ineq (58) (by decide) (by omega)) : (own_f1_30 x) = (own_f1_36 x))).trans (((if_neg (own_nlt (192) (by decide) (by omega)) : (own_f1_36 x) = (own_f1_43 x))).trans (((if_neg (own_ngt (767) (by decide) (by omega)) : (own_f1_43 x) = (own_f1_50 x))).trans (((if_pos (own_ieq (215) (by decide) (by omega)) : (own_f1_50 x) = (own_f1_64 x))).trans (((if_pos (own_lt (880) (by decide) (by omega)) : (own_f1_64 x) = (own_f1_85 x))).trans (((if_pos (own_lt (8204) (by decide) (by omega)) : (own_f1_85 x) = (own_f1_99 x))).trans (((if_pos (own_lt (8304) (by decide) (by omega)) : (own_f1_99 x) = (own_f1_113 x))).trans (((if_pos (own_lt (11264) (by decide) (by omega)) : (own_f1_113 x) = (own_f1_127 x))).trans (((if_pos (own_lt (12289) (by decide) (by omega)) : (own_f1_127 x) = (own_f1_140 x))).trans (((if_pos (own_lt (63744) (by decide) (by omega)) : (own_f1_140 x) = (own_f1_152 x))).trans ((if_pos (own_lt (65008) (by decide) (by omega)) : (own_f1_152 x) = (own_f1_168 x)))))))))))))))))) (Eq.symm (((if_neg (own_nlt (58) (by decide) (by omega)) : (own_f2_0 x) = (own_f2_10 x x))).trans (((if_neg (own_ineq (58) (by decide) (by omega)) : (own_f2_10 x x) = (own_f2_18 x x))).trans (((if_neg (own_nlt (65) (by decide) (by omega)) : (own_f2_18 x x) = (own_f2_26 x x))).trans (((if_pos (own_gt (90) (by decide) (by omega)) : (own_f2_26 x x) = (own_f2_34 x x))).trans (((if_neg (own_nlt (95) (by decide) (by omega)) : (own_f2_34 x x) = (own_f2_42 x x))).trans (((if_neg (own_ineq (95) (by decide) (by omega)) : (own_f2_42 x x) = (own_f2_50 x x))).trans (((if_neg (own_nlt (97) (by decide) (by omega)) : (own_f2_50 x x) = (own_f2_58 x x))).trans (((if_pos (own_gt (122) (by decide) (by omega)) : (own_f2_58 x x) = (own_f2_66 x x))).trans (((if_neg (own_nlt (192) (by decide) (by omega)) : (own_f2_66 x x) = (own_f2_75 x x))).trans (((if_pos (own_gt (214) (by decide) (by omega)) : (own_f2_75 x x) = (own_f2_84 x x))).trans ((if_pos (own_ieq (215) (by decide) (by omega)) : (own_f2_84 x x) = (own_f2_91 x x))))))))))))))
theorem own_same_11 {x : Int32} (h1 : 216 ≤ x.toInt) (h2 : x.toInt ≤ 246) : (own_f1_0 x) = (own_f2_0 x) :=
  Eq.trans (((if_neg (own_nlt (97) (by decide) (by omega)) : (own_f1_0 x) = (own_f1_6 x))).trans (((if_pos (own_gt (122) (by decide) (by omega)) : (own_f1_6 x) = (own_f1_12 x))).trans (((if_neg (own_nlt (65) (by decide) (by omega)) : (own_f1_12 x) = (own_f1_18 x))).trans (((if_pos (own_gt (90) (by decide) (by omega)) : (own_f1_18 x) = (own_f1_24 x))).trans (((if_neg (own_ineq (95) (by decide) (by omega)) : (own_f1_24 x) = (own_f1_30 x))).trans (((if_neg (own_ineq (58) (by decide) (by omega)) : (own_f1_30 x) = (own_f1_36 x))).trans (((if_neg (own_nlt (192) (by decide) (by omega)) : (own_f1_36 x) = (own_f1_43 x))).trans (((if_neg (own_ngt (767) (by decide) (by omega)) : (own_f1_43 x) = (own_f1_50 x))).trans (((if_neg (own_ineq (215) (by decide) (by omega)) : (own_f1_50 x) = (own_f1_57 x))).trans ((if_neg (own_ineq (247) (by decide) (by omega)) : (own_f1_57 x) = (own_f1_164 x)))))))))))) (Eq.symm (((if_neg (own_nlt (58) (by decide) (by omega)) : (own_f2_0 x) = (own_f2_10 x x))).trans (((if_neg (own_ineq (58) (by decide) (by omega)) : (own_f2_10 x x) = (own_f2_18 x x))).trans (((if_neg (own_nlt (65) (by decide) (by omega)) : (own_f2_18 x x) = (own_f2_26 x x))).trans (((if_pos (own_gt (90) (by decide) (by omega)) : (own_f2_26 x x) = (own_f2_34 x x))).trans (((if_neg (own_nlt (95) (by decide) (by omega)) : (own_f2_34 x x) = (own_f2_42 x x))).trans (((if_neg (own_ineq (95) (by decide) (by omega)) : (own_f2_42 x x) = (own_f2_50 x x))).trans (((if_neg (own_nlt (97) (by decide) (by omega)) : (own_f2_50 x x) = (own_f2_58 x x))).trans (((if_pos (own_gt (122) (by decide) (by omega)) : (own_f2_58 x x) = (own_f2_66 x x))).trans (((if_neg (own_nlt (192) (by decide) (by omega)) : (own_f2_66 x x) = (own_f2_75 x x))).trans (((if_pos (own_gt (214) (by decide) (by omega)) : (own_f2_75 x x) = (own_f2_84 x x))).trans (((if_neg (own_ineq (215) (by decide) (by omega)) : (own_f2_84 x x) = (own_f2_93 x x))).trans ((if_neg (own_ngt (246) (by decide) (by omega)) : (own_f2_93 x x) = (own_f2_100 x x)))))))))))))))
theorem own_same_12 {x : Int32} (h1 : 247 ≤ x.toInt) (h2 : x.toInt ≤ 247) : (own_f1_0 x) = (own_f2_0 x) :=
  Eq.trans (((if_neg (own_nlt (97) (by decide) (by omega)) : (own_f1_0 x) = (own_f1_6 x))).trans (((if_pos (own_gt (122) (by decide) (by omega)) : (own_f1_6 x) = (own_f1_12 x))).trans (((if_neg (own_nlt (65) (by decide) (by omega)) : (own_f1_12 x) = (own_f1_18 x))).trans (((if_pos (own_gt (90) (by decide) (by omega)) : (own_f1_18 x) = (own_f1_24 x))).trans (((if_neg (own_ineq (95) (by decide) (by omega)) : (own_f1_24 x) = (own_f1_30 x))).trans (((if_neg (own_ineq (58) (by decide) (by omega)) : (own_f1_30 x) = (own_f1_36 x))).trans (((if_neg (own_nlt (192) (by decide) (by omega)) : (own_f1_36 x) = (own_f1_43 x))).trans (((if_neg (own_ngt (767) (by decide) (by omega)) : (own_f1_43 x) = (own_f1_50 x))).trans (((if_neg (own_ineq (215) (by decide) (by omega)) : (own_f1_50 x) = (own_f1_57 x))).trans (((if_pos (own_ieq (247) (by decide) (by omega)) : (own_f1_57 x) = (own_f1_64 x))).trans (((if_pos (own_lt (880) (by decide) (by omega)) : (own_f1_64 x) = (own_f1_85 x))).trans (((if_pos (own_lt (8204) (by decide) (by omega)) : (own_f1_85 x) = (own_f1_99 x))).trans (((if_pos (own_lt (8304) (by decide) (by omega)) : (own_f1_99 x) = (own_f1_113 x))).trans (((if_pos (own_lt (11264) (by decide) (by omega)) : (own_f1_113 x) = (own_f1_127 x))).trans (((if_pos (own_lt (12289) (by decide) (by omega)) : (own_f1_127 x) = (own_f1_140 x))).trans (((if_pos (own_lt (63744) (by decide) (by omega)) : (own_f1_140 x) = (own_f1_152 x))).trans ((if_pos (own_lt (65008) (by decide) (by omega)) : (own_f1_152 x) = (own_f1_168 x))))))))))))))))))) (Eq.symm (((if_neg (own_nlt (58) (by decide) (by omega)) : (own_f2_0 x) = (own_f2_10 x x))).trans (((if_neg (own_ineq (58) (by decide) (by omega)) : (own_f2_10 x x) = (own_f2_18 x x))).trans (((if_neg (own_nlt (65) (by decide) (by omega)) : (own_f2_18 x x) = (own_f2_26 x x))).trans (((if_pos (own_gt (90) (by decide) (by omega)) : (own_f2_26 x x) = (own_f2_34 x x))).trans (((if_neg (own_nlt (95) (by decide) (by omega)) : (own_f2_34 x x) = (own_f2_42 x x))).trans (((if_neg (own_ineq (95) (by decide) (by omega)) : (own_f2_42 x x) = (own_f2_50 x x))).trans (((if_neg (own_nlt (97) (by decide) (by omega)) : (own_f2_50 x x) = (own_f2_58 x x))).trans (((if_pos (own_gt (122) (by decide) (by omega)) : (own_f2_58 x x) = (own_f2_66 x x))).trans (((if_neg (own_nlt (192) (by decide) (by omega)) : (own_f2_66 x x) = (own_f2_75 x x))).trans (((if_pos (own_gt (214) (by decide) (by omega)) : (own_f2_75 x x) = (own_f2_84 x x))).trans (((if_neg (own_ineq (215) (by decide) (by omega)) : (own_f2_84 x x) = (own_f2_93 x x))).trans (((if_pos (own_gt (246) (by decide) (by omega)) : (own_f2_93 x x) = (own_f2_102 x x))).trans ((if_pos (own_ieq (247) (by decide) (by omega)) : (own_f2_102 x x) = (own_f2_109 x x))))))))))))))))
theorem own_same_13 {x : Int32} (h1 : 248 ≤ x.toInt) (h2 : x.toInt ≤ 767) : (own_f1_0 x) = (own_f2_0 x) :=
  Eq.trans (((if_neg (own_nlt (97) (by decide) (by omega)) : (own_f1_0 x) = (own_f1_6 x))).trans (((if_pos (own_gt (122) (by decide) (by omega)) : (own_f1_6 x) = (own_f1_12 x))).trans (((if_neg (own_nlt (65) (by decide) (by omega)) : (own_f1_12 x) = (own_f1_18 x))).trans (((if_pos (own_gt (90) (by decide) (by omega)) : (own_f1_18 x) = (own_f1_24 x))).trans (((if_neg (own_ineq (95) (by decide) (by omega)) : (own_f1_24 x) = (own_f1_30 x))).trans (((if_neg (own_ineq (58) (by decide) (by omega)) : (own_f1_30 x) = (own_f1_36 x))).trans (((if_neg (own_nlt (192) (by decide) (by omega)) : (own_f1_36 x) = (own_f1_43 x))).trans (((if_neg (own_ngt (767) (by decide) (by omega)) : (own_f1_43 x) = (own_f1_50 x))).trans (((if_neg (own_ineq (215) (by decide) (by omega)) : (own_f1_50 x) = (own_f1_57 x))).trans ((if_neg (own_ineq (247) (by decide) (by omega)) : (own_f1_57 x) = (own_f1_164 x)))))))))))) (Eq.symm (((if_neg (own_nlt (58) (by decide) (by omega)) : (own_f2_0 x) = (own_f2_10 x x))).trans (((if_neg (own_ineq (58) (by decide) (by omega)) : (own_f2_10 x x) = (own_f2_18 x x))).trans (((if_neg (own_nlt (65) (by decide) (by omega)) : (own_f2_18 x x) = (own_f2_26 x x))).trans (((if_pos (own_gt (90) (by decide) (by omega)) : (own_f2_26 x x) = (own_f2_34 x x))).trans (((if_neg (own_nlt (95) (by decide) (by omega)) : (own_f2_34 x x) = (own_f2_42 x x))).trans (((if_neg (own_ineq (95) (by decide) (by omega)) : (own_f2_42 x x) = (own_f2_50 x x))).trans (((if_neg (own_nlt (97) (by decide) (by omega)) : (own_f2_50 x x) = (own_f2_58 x x))).trans (((if_pos (own_gt (122) (by decide) (by omega)) : (own_f2_58 x x) = (own_f2_66 x x))).trans (((if_neg (own_nlt (192) (by decide) (by omega)) : (own_f2_66 x x) = (own_f2_75 x x))).trans (((if_pos (own_gt (214) (by decide) (by omega)) : (own_f2_75 x x) = (own_f2_84 x x))).trans (((if_neg (own_ineq (215) (by decide) (by omega)) : (own_f2_84 x x) = (own_f2_93 x x))).trans (((if_pos (own_gt (246) (by decide) (by omega)) : (own_f2_93 x x) = (own_f2_102 x x))).trans (((if_neg (own_ineq (247) (by decide) (by omega)) : (own_f2_102 x x) = (own_f2_111 x x))).trans ((if_neg (own_ngt (767) (by decide) (by omega)) : (own_f2_111 x x) = (own_f2_118 x x)))))))))))))))))
theorem own_same_14 {x : Int32} (h1 : 768 ≤ x.toInt) (h2 : x.toInt ≤ 879) : (own_f1_0 x) = (own_f2_0 x) :=
  Eq.trans (((if_neg (own_nlt (97) (by decide) (by omega)) : (own_f1_0 x) = (own_f1_6 x))).trans (((if_pos (own_gt (122) (by decide) (by omega)) : (own_f1_6 x) = (own_f1_12 x))).trans (((if_neg (own_nlt (65) (by decide) (by omega)) : (own_f1_12 x) = (own_f1_18 x))).trans (((if_pos (own_gt (90) (by decide) (by omega)) : (own_f1_18 x) = (own_f1_24 x))).trans (((if_neg (own_ineq (95) (by decide) (by omega)) : (own_f1_24 x) = (own_f1_30 x))).trans (((if_neg (own_ineq (58) (by decide) (by omega)) : (own_f1_30 x) = (own_f1_36 x))).trans (((if_neg (own_nlt (192) (by decide) (by omega)) : (own_f1_36 x) = (own_f1_43 x))).trans (((if_pos (own_gt (767) (by decide) (by omega)) : (own_f1_43 x) = (own_f1_64 x))).trans (((if_pos (own_lt (880) (by decide) (by omega)) : (own_f1_64 x) = (own_f1_85 x))).trans (((if_pos (own_lt (8204) (by decide) (by omega)) : (own_f1_85 x) = (own_f1_99 x))).trans (((if_pos (own_lt (8304) (by decide) (by omega)) : (own_f1_99 x) = (own_f1_113 x))).trans (((if_pos (own_lt (11264) (by decide) (by omega)) : (own_f1_113 x) = (own_f1_127 x))).trans (((if_pos (own_lt (12289) (by decide) (by omega)) : (own_f1_127 x) = (own_f1_140 x))).trans (((if_pos (own_lt (63744) (by decide) (by omega)) : (own_f1_140 x) = (own_f1_152 x))).trans ((if_pos (own_lt (65008) (by decide) (by omega)) : (own_f1_152 x) = (own_f1_168 x))))))))))))))))) (Eq.symm (((if_neg (own_nlt (58) (by decide) (by omega)) : (own_f2_0 x) = (own_f2_10 x x))).trans (((if_neg (own_ineq (58) (by decide) (by omega)) : (own_f2_10 x x) = (own_f2_18 x x))).trans (((if_neg (own_nlt (65) (by decide) (by omega)) : (own_f2_18 x x) = (own_f2_26 x x))).trans (((if_pos (own_gt (90) (by decide) (by omega)) : (own_f2_26 x x) = (own_f2_34 x x))).trans (((if_neg (own_nlt (95) (by decide) (by omega)) : (own_f2_34 x x) = (own_f2_42 x x))).trans (((if_neg (own_ineq (95) (by decide) (by omega)) : (own_f2_42 x x) = (own_f2_50 x x))).trans (((if_neg (own_nlt (97) (by decide) (by omega)) : (own_f2_50 x x) = (own_f2_58 x x))).trans (((if_pos (own_gt (122) (by decide) (by omega)) : (own_f2_58 x x) = (own_f2_66 x x))).trans (((if_neg (own_nlt (192) (by decide) (by omega)) : (own_f2_66 x x) = (own_f2_75 x x))).trans (((if_pos (own_gt (214) (by decide) (by omega)) : (own_f2_75 x x) = (own_f2_84 x x))).trans (((if_neg (own_ineq (215) (by decide) (by omega)) : (own_f2_84 x x) = (own_f2_93 x x))).trans (((if_pos (own_gt (246) (by decide) (by omega)) : (own_f2_93 x x) = (own_f2_102 x x))).trans (((if_neg (own_ineq (247) (by decide) (by omega)) : (own_f2_102 x x) = (own_f2_111 x x))).trans (((if_pos (own_gt (767) (by decide) (by omega)) : (own_f2_111 x x) = (own_f2_120 x x))).trans ((if_pos (own_lt (880) (by decide) (by omega)) : (own_f2_120 x x) = (own_f2_127 x x))))))))))))))))))
theorem own_same_15 {x : Int32} (h1 : 880 ≤ x.toInt) (h2 : x.toInt ≤ 893) : (own_f1_0 x) = (own_f2_0 x) :=
  Eq.trans (((if_neg (own_nlt (97) (by decide) (by omega)) : (own_f1_0 x) = (own_f1_6 x))).trans (((if_pos (own_gt (122) (by decide) (by omega)) : (own_f1_6 x) = (own_f1_12 x))).trans (((if_neg (own_nlt (65) (by decide) (by omega)) : (own_f1_12 x) = (own_f1_18 x))).trans (((if_pos (own_gt (90) (by decide) (by omega)) : (own_f1_18 x) = (own_f1_24 x))).trans (((if_neg (own_ineq (95) (by decide) (by omega)) : (own_f1_24 x) = (own_f1_30 x))).trans (((if_neg (own_ineq (58) (by decide) (by omega)) : (own_f1_30 x) = (own_f1_36 x))).trans (((if_neg (own_nlt (192) (by decide) (by omega)) : (own_f1_36 x) = (own_f1_43 x))).trans (((if_pos (own_gt (767) (by decide) (by omega)) : (own_f1_43 x) = (own_f1_64 x))).trans (((if_neg (own_nlt (880) (by decide) (by omega)) : (own_f1_64 x) = (own_f1_71 x))).trans (((if_neg (own_ngt (8191) (by decide) (by omega)) : (own_f1_71 x) = (own_f1_78 x))).trans ((if_neg (own_ineq (894) (by decide) (by omega)) : (own_f1_78 x) = (own_f1_164 x))))))))))))) (Eq.symm (((if_neg (own_nlt (58) (by decide) (by omega)) : (own_f2_0 x) = (own_f2_10 x x))).trans (((if_neg (own_ineq (58) (by decide) (by omega)) : (own_f2_10 x x) = (own_f2_18 x x))).trans (((if_neg (own_nlt (65) (by decide) (by omega)) : (own_f2_18 x x) = (own_f2_26 x x))).trans (((if_pos (own_gt (90) (by decide) (by omega)) : (own_f2_26 x x) = (own_f2_34 x x))).trans (((if_neg (own_nlt (95) (by decide) (by omega)) : (own_f2_34 x x) = (own_f2_42 x x))).trans (((if_neg (own_ineq (95) (by decide) (by omega)) : (own_f2_42 x x) = (own_f2_50 x x))).trans (((if_neg (own_nlt (97) (by decide) (by omega)) : (own_f2_50 x x) = (own_f2_58 x x))).trans (((if_pos (own_gt (122) (by decide) (by omega)) : (own_f2_58 x x) = (own_f2_66 x x))).trans (((if_neg (own_nlt (192) (by decide) (by omega)) : (own_f2_66 x x) = (own_f2_75 x x))).trans (((if_pos (own_gt (214) (by decide) (by omega)) : (own_f2_75 x x) = (own_f2_84 x x))).trans (((if_neg (own_ineq (215) (by decide) (by omega)) : (own_f2_84 x x) = (own_f2_93 x x))).trans (((if_pos (own_gt (246) (by decide) (by omega)) : (own_f2_93 x x) = (own_f2_102 x x))).trans (((if_neg (own_ineq (247) (by decide) (by omega)) : (own_f2_102 x x) = (own_f2_111 x x))).trans (((if_pos (own_gt (767) (by decide) (by omega)) : (own_f2_111 x x) = (own_f2_120 x x))).trans (((if_neg (own_nlt (880) (by decide) (by omega)) : (own_f2_120 x x) = (own_f2_129 x x))).trans ((if_neg (own_ngt (893) (by decide) (by omega)) : (own_f2_129 x x) = (own_f2_136 x x)))))))))))))))))))
theorem own_same_16 {x : Int32} (h1 : 894 ≤ x.toInt) (h2 : x.toInt ≤ 894) : (own_f1_0 x) = (own_f2_0 x) :=
  Eq.trans (((if_neg (own_nlt (97) (by decide) (by omega)) : (own_f1_0 x) = (own_f1_6 x))).trans (((if_pos (own_gt (122) (by decide) (by omega)) : (own_f1_6 x) = (own_f1_12 x))).trans (((if_neg (own_nlt (65) (by decide) (by omega)) : (own_f1_12 x) = (own_f1_18 x))).trans (((if_pos (own_gt (90) (by decide) (by omega)) : (own_f1_18 x) = (own_f1_24 x))).trans (((if_neg (own_ineq (95) (by decide) (by omega)) : (own_f1_24 x) = (own_f1_30 x))).trans (((if_neg (own_ineq (58) (by decide) (by omega)) : (own_f1_30 x) = (own_f1_36 x))).trans (((if_neg (own_nlt (192) (by decide) (by omega)) : (own_f1_36 x) = (own_f1_43 x))).trans (((if_pos (own_gt (767) (by decide) (by omega)) : (own_f1_43 x) = (own_f1_64 x))).trans (((if_neg (own_nlt (880) (by decide) (by omega)) : (own_f1_64 x) = (own_f1_71 x))).trans (((if_neg (own_ngt (8191) (by decide) (by omega)) : (own_f1_71 x) = (own_f1_78 x))).trans (((if_pos (own_ieq (894) (by decide) (by omega)) : (own_f1_78 x) = (own_f1_85 x))).trans (((if_pos (own_lt (8204) (by decide) (by omega)) : (own_f1_85 x) = (own_f1_99 x))).trans (((if_pos (own_lt (8304) (by decide) (by omega)) : (own_f1_99 x) = (own_f1_113 x))).trans (((if_pos (own_lt (11264) (by decide) (by omega)) : (own_f1_113 x) = (own_f1_127 x))).trans (((if_pos (own_lt (12289) (by decide) (by omega)) : (own_f1_127 x) = (own_f1_140 x))).trans (((if_pos (own_lt (63744) (by decide) (by omega)) : (own_f1_140 x) = (own_f1_152 x))).trans ((if_pos (own_lt (65008) (by decide) (by omega)) : (own_f1_152 x) = (own_f1_168 x))))))))))))))))))) (Eq.symm (((if_neg (own_nlt (58) (by decide) (by omega)) : (own_f2_0 x) = (own_f2_10 x x))).trans (((if_neg (own_ineq (58) (by decide) (by omega)) : (own_f2_10 x x) = (own_f2_18 x x))).trans (((if_neg (own_nlt (65) (by decide) (by omega)) : (own_f2_18 x x) = (own_f2_26 x x))).trans (((if_pos (own_gt (90) (by decide) (by omega)) : (own_f2_26 x x) = (own_f2_34 x x))).trans (((if_neg (own_nlt (95) (by decide) (by omega)) : (own_f2_34 x x) = (own_f2_42 x x))).trans (((if_neg (own_ineq (95) (by decide) (by omega)) : (own_f2_42 x x) = (own_f2_50 x x))).trans (((if_neg (own_nlt (97) (by decide) (by omega)) : (own_f2_50 x x) = (own_f2_58 x x))).trans (((if_pos (own_gt (122) (by decide) (by omega)) : (own_f2_58 x x) = (own_f2_66 x x))).trans (((if_neg (own_nlt (192) (by decide) (by omega)) : (own_f2_66 x x) = (own_f2_75 x x))).trans (((if_pos (own_gt (214) (by decide) (by omega)) : (own_f2_75 x x) = (own_f2_84 x x))).trans (((if_neg (own_ineq (215) (by decide) (by omega)) : (own_f2_84 x x) = (own_f2_93 x x))).trans (((if_pos (own_gt (246) (by decide) (by omega)) : (own_f2_93 x x) = (own_f2_102 x x))).trans (((if_neg (own_ineq (247) (by decide) (by omega)) : (own_f2_102 x x) = (own_f2_111 x x))).trans (((if_pos (own_gt (767) (by decide) (by omega)) : (own_f2_111 x x) = (own_f2_120 x x))).trans (((if_neg (own_nlt (880) (by decide) (by omega)) : (own_f2_120 x x) = (own_f2_129 x x))).trans (((if_pos (own_gt (893) (by decide) (by omega)) : (own_f2_129 x x) = (own_f2_138 x x))).trans ((if_pos (own_ieq (894) (by decide) (by omega)) : (own_f2_138 x x) = (own_f2_145 x x))))))))))))))))))))
theorem own_same_17 {x : Int32} (h1 : 895 ≤ x.toInt) (h2 : x.toInt ≤ 8191) : (own_f1_0 x) = (own_f2_0 x) :=
  Eq.trans (((if_neg (own_nlt (97) (by decide) (by omega)) : (own_f1_0 x) = (own_f1_6 x))).trans (((if_pos (own_gt (122) (by decide) (by omega)) : (own_f1_6 x) = (own_f1_12 x))).trans (((if_neg (own_nlt (65) (by decide) (by omega)) : (own_f1_12 x) = (own_f1_18 x))).trans (((if_pos (own_gt (90) (by decide) (by omega)) : (own_f1_18 x) = (own_f1_24 x))).trans (((if_neg (own_ineq (95) (by decide) (by omega)) : (own_f1_24 x) = (own_f1_30 x))).trans (((if_neg (own_ineq (58) (by decide) (by omega)) : (own_f1_30 x) = (own_f1_36 x))).trans (((if_neg (own_nlt (192) (by decide) (by omega)) : (own_f1_36 x) = (own_f1_43 x))).trans (((if_pos (own_gt (767) (by decide) (by omega)) : (own_f1_43 x) = (own_f1_64 x))).trans (((if_neg (own_nlt (880) (by decide) (by omega)) : (own_f1_64 x) = (own_f1_71 x))).trans (((if_neg (own_ngt (8191) (by decide) (by omega)) : (own_f1_71 x) = (own_f1_78 x))).trans ((if_neg (own_ineq (894) (by decide) (by omega)) : (own_f1_78 x) = (own_f1_164 x))))))))))))) (Eq.symm (((if_neg (own_nlt (58) (by decide) (by omega)) : (own_f2_0 x) = (own_f2_10 x x))).trans (((if_neg (own_ineq (58) (by decide) (by omega)) : (own_f2_10 x x) = (own_f2_18 x x))).trans (((if_neg (own_nlt (65) (by decide) (by omega)) : (own_f2_18 x x) = (own_f2_26 x x))).trans (((if_pos (own_gt (90) (by decide) (by omega)) : (own_f2_26 x x) = (own_f2_34 x x))).trans (((if_neg (own_nlt (95) (by decide) (by omega)) : (own_f2_34 x x) = (own_f2_42 x x))).trans (((if_neg (own_ineq (95) (by decide) (by omega)) : (own_f2_42 x x) = (own_f2_50 x x))).trans (((if_neg (own_nlt (97) (by decide) (by omega)) : (own_f2_50 x x) = (own_f2_58 x x))).trans (((if_pos (own_gt (122) (by decide) (by omega)) : (own_f2_58 x x) = (own_f2_66 x x))).trans (((if_neg (own_nlt (192) (by decide) (by omega)) : (own_f2_66 x x) = (own_f2_75 x x))).trans (((if_pos (own_gt (214) (by decide) (by omega)) : (own_f2_75 x x) = (own_f2_84 x x))).trans (((if_neg (own_ineq (215) (by decide) (by omega)) : (own_f2_84 x x) = (own_f2_93 x x))).trans (((if_pos (own_gt (246) (by decide) (by omega)) : (own_f2_93 x x) = (own_f2_102 x x))).trans (((if_neg (own_ineq (247) (by decide) (by omega)) : (own_f2_102 x x) = (own_f2_111 x x))).trans (((if_pos (own_gt (767) (by decide) (by omega)) : (own_f2_111 x x) = (own_f2_120 x x))).trans (((if_neg (own_nlt (880) (by decide) (by omega)) : (own_f2_120 x x) = (own_f2_129 x x))).trans (((if_pos (own_gt (893) (by decide) (by omega)) : (own_f2_129 x x) = (own_f2_138 x x))).trans (((if_neg (own_ineq (894) (by decide) (by omega)) : (own_f2_138 x x) = (own_f2_147 x x))).trans ((if_neg (own_ngt (8191) (by decide) (by omega)) : (own_f2_147 x x) = (own_f2_154 x x)))))))))))))))))))))
theorem own_same_18 {x : Int32} (h1 : 8192 ≤ x.toInt) (h2 : x.toInt ≤ 8203) : (own_f1_0 x) = (own_f2_0 x) :=
  Eq.trans (((if_neg (own_nlt (97) (by decide) (by omega)) : (own_f1_0 x) = (own_f1_6 x))).trans (((if_pos (own_gt (122) (by decide) (by omega)) : (own_f1_6 x) = (own_f1_12 x))).trans (((if_neg (own_nlt (65) (by decide) (by omega)) : (own_f1_12 x) = (own_f1_18 x))).trans (((if_pos (own_gt (90) (by decide) (by omega)) : (own_f1_18 x) = (own_f1_24 x))).trans (((if_neg (own_ineq (95) (by decide) (by omega)) : (own_f1_24 x) = (own_f1_30 x))).trans (((if_neg (own_ineq (58) (by decide) (by omega)) : (own_f1_30 x) = (own_f1_36 x))).trans (((if_neg (own_nlt (192) (by decide) (by omega)) : (own_f1_36 x) = (own_f1_43 x))).trans (((if_pos (own_gt (767) (by decide) (by omega)) : (own_f1_43 x) = (own_f1_64 x))).trans (((if_neg (own_nlt (880) (by decide) (by omega)) : (own_f1_64 x) = (own_f1_71 x))).trans (((if_pos (own_gt (8191) (by decide) (by omega)) : (own_f1_71 x) = (own_f1_85 x))).trans (((if_pos (own_lt (8204) (by decide) (by omega)) : (own_f1_85 x) = (own_f1_99 x))).trans (((if_pos (own_lt (8304) (by decide) (by omega)) : (own_f1_99 x) = (own_f1_113 x))).trans (((if_pos (own_lt (11264) (by decide) (by omega)) : (own_f1_113 x) = (own_f1_127 x))).trans (((if_pos (own_lt (12289) (by decide) (by omega)) : (own_f1_127 x) = (own_f1_140 x))).trans (((if_pos (own_lt (63744) (by decide) (by omega)) : (own_f1_140 x) = (own_f1_152 x))).trans ((if_pos (own_lt (65008) (by decide) (by omega)) : (own_f1_152 x) = (own_f1_168 x)))))))))))))))))) (Eq.symm (((if_neg (own_nlt (58) (by decide) (by omega)) : (own_f2_0 x) = (own_f2_10 x x))).trans (((if_neg (own_ineq (58) (by decide) (by omega)) : (own_f2_10 x x) = (own_f2_18 x x))).trans (((if_neg (own_nlt (65) (by decide) (by omega)) : (own_f2_18 x x) = (own_f2_26 x x))).trans (((if_pos (own_gt (90) (by decide) (by omega)) : (own_f2_26 x x) = (own_f2_34 x x))).trans (((if_neg (own_nlt (95) (by decide) (by omega)) : (own_f2_34 x x) = (own_f2_42 x x))).trans (((if_neg (own_ineq (95) (by decide) (by omega)) : (own_f2_42 x x) = (own_f2_50 x x))).trans (((if_neg (own_nlt (97) (by decide) (by omega)) : (own_f2_50 x x) = (own_f2_58 x x))).trans (((if_pos (own_gt (122) (by decide) (by omega)) : (own_f2_58 x x) = (own_f2_66 x x))).trans (((if_neg (own_nlt (192) (by decide) (by omega)) : (own_f2_66 x x) = (own_f2_75 x x))).trans (((if_pos (own_gt (214) (by decide) (by omega)) : (own_f2_75 x x) = (own_f2_84 x x))).trans (((if_neg (own_ineq (215) (by decide) (by omega)) : (own_f2_84 x x) = (own_f2_93 x x))).trans (((if_pos (own_gt (246) (by decide) (by omega)) : (own_f2_93 x x) = (own_f2_102 x x))).trans (((if_neg (own_ineq (247) (by decide) (by omega)) : (own_f2_102 x x) = (own_f2_111 x x))).trans (((if_pos (own_gt (767) (by decide) (by omega)) : (own_f2_111 x x) = (own_f2_120 x x))).trans (((if_neg (own_nlt (880) (by decide) (by omega)) : (own_f2_120 x x) = (own_f2_129 x x))).trans (((if_pos (own_gt (893) (by decide) (by omega)) : (own_f2_129 x x) = (own_f2_138 x x))).trans (((if_neg (own_ineq (894) (by decide) (by omega)) : (own_f2_138 x x) = (own_f2_147 x x))).trans (((if_pos (own_gt (8191) (by decide) (by omega)) : (own_f2_147 x x) = (own_f2_156 x x))).trans ((if_pos (own_lt (8204) (by decide) (by omega)) : (own_f2_156 x x) = (own_f2_163 x x))))))))))))))))))))))
theorem own_same_19 {x : Int32} (h1 : 8204 ≤ x.toInt) (h2 : x.toInt ≤ 8205) : (own_f1_0 x) = (own_f2_0 x) :=
  Eq.trans (((if_neg (own_nlt (97) (by decide) (by omega)) : (own_f1_0 x) = (own_f1_6 x))).trans (((if_pos (own_gt (122) (by decide) (by omega)) : (own_f1_6 x) = (own_f1_12 x))).trans (((if_neg (own_nlt (65) (by decide) (by omega)) : (own_f1_12 x) = (own_f1_18 x))).trans (((if_pos (own_gt (90) (by decide) (by omega)) : (own_f1_18 x) = (own_f1_24 x))).trans (((if_neg (own_ineq (95) (by decide) (by omega)) : (own_f1_24 x) = (own_f1_30 x))).trans (((if_neg (own_ineq (58) (by decide) (by omega)) : (own_f1_30 x) = (own_f1_36 x))).trans (((if_neg (own_nlt (192) (by decide) (by omega)) : (own_f1_36 x) = (own_f1_43 x))).trans (((if_pos (own_gt (767) (by decide) (by omega)) : (own_f1_43 x) = (own_f1_64 x))).trans (((if_neg (own_nlt (880) (by decide) (by omega)) : (own_f1_64 x) = (own_f1_71 x))).trans (((if_pos (own_gt (8191) (by decide) (by omega)) : (own_f1_71 x) = (own_f1_85 x))).trans (((if_neg (own_nlt (8204) (by decide) (by omega)) : (own_f1_85 x) = (own_f1_92 x))).trans ((if_neg (own_ngt (8205) (by decide) (by omega)) : (own_f1_92 x) = (own_f1_164 x)))))))))))))) (Eq.symm (((if_neg (own_nlt (58) (by decide) (by omega)) : (own_f2_0 x) = (own_f2_10 x x))).trans (((if_neg (own_ineq (58) (by decide) (by omega)) : (own_f2_10 x x) = (own_f2_18 x x))).trans (((if_neg (own_nlt (65) (by decide) (by omega)) : (own_f2_18 x x) = (own_f2_26 x x))).trans (((if_pos (own_gt (90) (by decide) (by omega)) : (own_f2_26 x x) = (own_f2_34 x x))).trans (((if_neg (own_nlt (95) (by decide) (by omega)) : (own_f2_34 x x) = (own_f2_42 x x))).trans (((if_neg (own_ineq (95) (by decide) (by omega)) : (own_f2_42 x x) = (own_f2_50 x x))).trans (((if_neg (own_nlt (97) (by decide) (by omega)) : (own_f2_50 x x) = (own_f2_58 x x))).trans (((if_pos (own_gt (122) (by decide) (by omega)) : (own_f2_58 x x) = (own_f2_66 x x))).trans (((if_neg (own_nlt (192) (by decide) (by omega)) : (own_f2_66 x x) = (own_f2_75 x x))).trans (((if_pos (own_gt (214) (by decide) (by omega)) : (own_f2_75 x x) = (own_f2_84 x x))).trans (((if_neg (own_ineq (215) (by decide) (by omega)) : (own_f2_84 x x) = (own_f2_93 x x))).trans (((if_pos (own_gt (246) (by decide) (by omega)) : (own_f2_93 x x) = (own_f2_102 x x))).trans (((if_neg (own_ineq (247) (by decide) (by omega)) : (own_f2_102 x x) = (own_f2_111 x x))).trans (((if_pos (own_gt (767) (by decide) (by omega)) : (own_f2_111 x x) = (own_f2_120 x x))).trans (((if_neg (own_nlt (880) (by decide) (by omega)) : (own_f2_120 x x) = (own_f2_129 x x))).trans (((if_pos (own_gt (893) (by decide) (by omega)) : (own_f2_129 x x) = (own_f2_138 x x))).trans (((if_neg (own_ineq (894) (by decide) (by omega)) : (own_f2_138 x x) = (own_f2_147 x x))).trans (((if_pos (own_gt (8191) (by decide) (by omega)) : (own_f2_147 x x) = (own_f2_156 x x))).trans (((if_neg (own_nlt (8204) (by decide) (by omega)) : (own_f2_156 x x) = (own_f2_165 x x))).trans ((if_neg (own_ngt (8205) (by decide) (by omega)) : (own_f2_165 x x) = (own_f2_172 x x)))))))))))))))))))))))
theorem own_same_20 {x : Int32} (h1 : 8206 ≤ x.toInt) (h2 : x.toInt ≤ 8303) : (own_f1_0 x) = (own_f2_0 x) :=
  Eq.trans (((if_neg (own_nlt (97) (by decide) (by omega)) : (own_f1_0 x) = (own_f1_6 x))).trans (((if_pos (own_gt (122) (by decide) (by omega)) : (own_f1_6 x) = (own_f1_12 x))).trans (((if_neg (own_nlt (65) (by decide) (by omega)) : (own_f1_12 x) = (own_f1_18 x))).trans (((if_pos (own_gt (90) (by decide) (by omega)) : (own_f1_18 x) = (own_f1_24 x))).trans (((if_neg (own_ineq (95) (by decide) (by omega)) : (own_f1_24 x) = (own_f1_30 x))).trans (((if_neg (own_ineq (58) (by decide) (by omega)) : (own_f1_30 x) = (own_f1_36 x))).trans (((if_neg (own_nlt (192) (by decide) (by omega)) : (own_f1_36 x) = (own_f1_43 x))).trans (((if_pos (own_gt (767) (by decide) (by omega)) : (own_f1_43 x) = (own_f1_64 x))).trans (((if_neg (own_nlt (880) (by decide) (by omega)) : (own_f1_64 x) = (own_f1_71 x))).trans (((if_pos (own_gt (8191) (by decide) (by omega)) : (own_f1_71 x) = (own_f1_85 x))).trans (((if_neg (own_nlt (8204) (by decide) (by omega)) : (own_f1_85 x) = (own_f1_92 x))).trans (((if_pos (own_gt (8205) (by decide) (by omega)) : (own_f1_92 x) = (own_f1_99 x))).trans (((if_pos (own_lt (8304) (by decide) (by omega)) : (own_f1_99 x) = (own_f1_113 x))).trans (((if_pos (own_lt (11264) (by decide) (by omega)) : (own_f1_113 x) = (own_f1_127 x))).trans (((if_pos (own_lt (12289) (by decide) (by omega)) : (own_f1_127 x) = (own_f1_140 x))).trans (((if_pos (own_lt (63744) (by decide) (by omega)) : (own_f1_140 x) = (own_f1_152 x))).trans ((if_pos (own_lt (65008) (by decide) (by omega)) : (own_f1_152 x) = (own_f1_168 x))))))))))))))))))) (Eq.symm (((if_neg (own_nlt (58) (by decide) (by omega)) : (own_f2_0 x) = (own_f2_10 x x))).trans (((if_neg (own_ineq (58) (by decide) (by omega)) : (own_f2_10 x x) = (own_f2_18 x x))).trans (((if_neg (own_nlt (65) (by decide) (by omega)) : (own_f2_18 x x) = (own_f2_26 x x))).trans (((if_pos (own_gt (90) (by decide) (by omega)) : (own_f2_26 x x) = (own_f2_34 x x))).trans (((if_neg (own_nlt (95) (by decide) (by omega)) : (own_f2_34 x x) = (own_f2_42 x x))).trans (((if_neg (own_ineq (95) (by decide) (by omega)) : (own_f2_42 x x) = (own_f2_50 x x))).trans (((if_neg (own_nlt (97) (by decide) (by omega)) : (own_f2_50 x x) = (own_f2_58 x x))).trans (((if_pos (own_gt (122) (by decide) (by omega)) : (own_f2_58 x x) = (own_f2_66 x x))).trans (((if_neg (own_nlt (192) (by decide) (by omega)) : (own_f2_66 x x) = (own_f2_75 x x))).trans (((if_pos (own_gt (214) (by decide) (by omega)) : (own_f2_75 x x) = (own_f2_84 x x))).trans (((if_neg (own_ineq (215) (by decide) (by omega)) : (own_f2_84 x x) = (own_f2_93 x x))).trans (((if_pos (own_gt (246) (by decide) (by omega)) : (own_f2_93 x x) = (own_f2_102 x x))).trans (((if_neg (own_ineq (247) (by decide) (by omega)) : (own_f2_102 x x) = (own_f2_111 x x))).trans (((if_pos (own_gt (767) (by decide) (by omega)) : (own_f2_111 x x) = (own_f2_120 x x))).trans (((if_neg (own_nlt (880) (by decide) (by omega)) : (own_f2_120 x x) = (own_f2_129 x x))).trans (((if_pos (own_gt (893) (by decide) (by omega)) : (own_f2_129 x x) = (own_f2_138 x x))).trans (((if_neg (own_ineq (894) (by decide) (by omega)) : (own_f2_138 x x) = (own_f2_147 x x))).trans (((if_pos (own_gt (8191) (by decide) (by omega)) : (own_f2_147 x x) = (own_f2_156 x x))).trans (((if_neg (own_nlt (8204) (by decide) (by omega)) : (own_f2_156 x x) = (own_f2_165 x x))).trans (((if_pos (own_gt (8205) (by decide) (by omega)) : (own_f2_165 x x) = (own_f2_174 x x))).trans ((if_pos (own_lt (8304) (by decide) (by omega)) : (own_f2_174 x x) = (own_f2_181 x x))))))))))))))))))))))))
theorem own_same_21 {x : Int32} (h1 : 8304 ≤ x.toInt) (h2 : x.toInt ≤ 8591) : (own_f1_0 x) = (own_f2_0 x) :=
  Eq.trans (((if_neg (own_nlt (97) (by decide) (by omega)) : (own_f1_0 x) = (own_f1_6 x))).trans (((if_pos (own_gt (122) (by decide) (by omega)) : (own_f1_6 x) = (own_f1_12 x))).trans (((if_neg (own_nlt (65) (by decide) (by omega)) : (own_f1_12 x) = (own_f1_18 x))).trans (((if_pos (own_gt (90) (by decide) (by omega)) : (own_f1_18 x) = (own_f1_24 x))).trans (((if_neg (own_ineq (95) (by decide) (by omega)) : (own_f1_24 x) = (own_f1_30 x))).trans (((if_neg (own_ineq (58) (by decide) (by omega)) : (own_f1_30 x) = (own_f1_36 x))).trans (((if_neg (own_nlt (192) (by decide) (by omega)) : (own_f1_36 x) = (own_f1_43 x))).trans (((if_pos (own_gt (767) (by decide) (by omega)) : (own_f1_43 x) = (own_f1_64 x))).trans (((if_neg (own_nlt (880) (by decide) (by omega)) : (own_f1_64 x) = (own_f1_71 x))).trans (((if_pos (own_gt (8191) (by decide) (by omega)) : (own_f1_71 x) = (own_f1_85 x))).trans (((if_neg (own_nlt (8204) (by decide) (by omega)) : (own_f1_85 x) = (own_f1_92 x))).trans (((if_pos (own_gt (8205) (by decide) (by omega)) : (own_f1_92 x) = (own_f1_99 x))).trans (((if_neg (own_nlt (8304) (by decide) (by omega)) : (own_f1_99 x) = (own_f1_106 x))).trans ((if_neg (own_ngt (8591) (by decide) (by omega)) : (own_f1_106 x) = (own_f1_164 x)))))))))))))))) (Eq.symm (((if_neg (own_nlt (58) (by decide) (by omega)) : (own_f2_0 x) = (own_f2_10 x x))).trans (((if_neg (own_ineq (58) (by decide) (by omega)) : (own_f2_10 x x) = (own_f2_18 x x))).trans (((if_neg (own_nlt (65) (by decide) (by omega)) : (own_f2_18 x x) = (own_f2_26 x x))).trans (((if_pos (own_gt (90) (by decide) (by omega)) : (own_f2_26 x x) = (own_f2_34 x x))).trans (((if_neg (own_nlt (95) (by decide) (by omega)) : (own_f2_34 x x) = (own_f2_42 x x))).trans (((if_neg (own_ineq (95) (by decide) (by omega)) : (own_f2_42 x x) = (own_f2_50 x x))).trans (((if_neg (own_nlt (97) (by decide) (by omega)) : (own_f2_50 x x) = (own_f2_58 x x))).trans (((if_pos (own_gt (122) (by decide) (by omega)) : (own_f2_58 x x) = (own_f2_66 x x))).trans (((if_neg (own_nlt (192) (by decide) (by omega)) : (own_f2_66 x x) = (own_f2_75 x x))).trans (((if_pos (own_gt (214) (by decide) (by omega)) : (own_f2_75 x x) = (own_f2_84 x x))).trans (((if_neg (own_ineq (215) (by decide) (by omega)) : (own_f2_84 x x) = (own_f2_93 x x))).trans (((if_pos (own_gt (246) (by decide) (by omega)) : (own_f2_93 x x) = (own_f2_102 x x))).trans (((if_neg (own_ineq (247) (by decide) (by omega)) : (own_f2_102 x x) = (own_f2_111 x x))).trans (((if_pos (own_gt (767) (by decide) (by omega)) : (own_f2_111 x x) = (own_f2_120 x x))).trans (((if_neg (own_nlt (880) (by decide) (by omega)) : (own_f2_120 x x) = (own_f2_129 x x))).trans (((if_pos (own_gt (893) (by decide) (by omega)) : (own_f2_129 x x) = (own_f2_138 x x))).trans (((if_neg (own_ineq (894) (by decide) (by omega)) : (own_f2_138 x x) = (own_f2_147 x x))).trans (((if_pos (own_gt (8191) (by decide) (by omega)) : (own_f2_147 x x) = (own_f2_156 x x))).trans (((if_neg (own_nlt (8204) (by decide) (by omega)) : (own_f2_156 x x) = (own_f2_165 x x))).trans (((if_pos (own_gt (8205) (by decide) (by omega)) : (own_f2_165 x x) = (own_f2_174 x x))).trans (((if_neg (own_nlt (8304) (by decide) (by omega)) : (own_f2_174 x x) = (own_f2_183 x x))).trans ((if_neg (own_ngt (8591) (by decide) (by omega)) : (own_f2_183 x x) = (own_f2_190 x x)))))))))))))))))))))))))
theorem own_same_22 {x : Int32} (h1 : 8592 ≤ x.toInt) (h2 : x.toInt ≤ 11263) : (own_f1_0 x) = (own_f2_0 x) :=
  Eq.trans (((if_neg (own_nlt (97) (by decide) (by omega)) : (own_f1_0 x) = (own_f1_6 x))).trans (((if_pos (own_gt (122) (by decide) (by omega)) : (own_f1_6 x) = (own_f1_12 x))).trans (((if_neg (own_nlt (65) (by decide) (by omega)) : (own_f1_12 x) = (own_f1_18 x))).trans (((if_pos (own_gt (90) (by decide) (by omega)) : (own_f1_18 x) = (own_f1_24 x))).trans (((if_neg (own_ineq (95) (by decide) (by omega)) : (own_f1_24 x) = (own_f1_30 x))).trans (((if_neg (own_ineq (58) (by decide) (by omega)) : (own_f1_30 x) = (own_f1_36 x))).trans (((if_neg (own_nlt (192) (by decide) (by omega)) : (own_f1_36 x) = (own_f1_43 x))).trans (((if_pos (own_gt (767) (by decide) (by omega)) : (own_f1_43 x) = (own_f1_64 x))).trans (((if_neg (own_nlt (880) (by decide) (by omega)) : (own_f1_64 x) = (own_f1_71 x))).trans (((if_pos (own_gt (8191) (by decide) (by omega)) : (own_f1_71 x) = (own_f1_85 x))).trans (((if_neg (own_nlt (8204) (by decide) (by omega)) : (own_f1_85 x) = (own_f1_92 x))).trans (((if_pos (own_gt (8205) (by decide) (by omega)) : (own_f1_92 x) = (own_f1_99 x))).trans (((if_neg (own_nlt (8304) (by decide) (by omega)) : (own_f1_99 x) = (own_f1_106 x))).trans (((if_pos (own_gt (8591) (by decide) (by omega)) : (own_f1_106 x) = (own_f1_113 x))).trans (((if_pos (own_lt (11264) (by decide) (by omega)) : (own_f1_113 x) = (own_f1_127 x))).trans (((if_pos (own_lt (12289) (by decide) (by omega)) : (own_f1_127 x) = (own_f1_140 x))).trans (((if_pos (own_lt (63744) (by decide) (by omega)) : (own_f1_140 x) = (own_f1_152 x))).trans ((if_pos (own_lt (65008) (by decide) (by omega)) : (own_f1_152 x) = (own_f1_168 x)))))))))))))))))))) (Eq.symm (((if_neg (own_nlt (58) (by decide) (by omega)) : (own_f2_0 x) = (own_f2_10 x x))).trans (((if_neg (own_ineq (58) (by decide) (by omega)) : (own_f2_10 x x) = (own_f2_18 x x))).trans (((if_neg (own_nlt (65) (by decide) (by omega)) : (own_f2_18 x x) = (own_f2_26 x x))).trans (((if_pos (own_gt (90) (by decide) (by omega)) : (own_f2_26 x x) = (own_f2_34 x x))).trans (((if_neg (own_nlt (95) (by decide) (by omega)) : (own_f2_34 x x) = (own_f2_42 x x))).trans (((if_neg (own_ineq (95) (by decide) (by omega)) : (own_f2_42 x x) = (own_f2_50 x x))).trans (((if_neg (own_nlt (97) (by decide) (by omega)) : (own_f2_50 x x) = (own_f2_58 x x))).trans (((if_pos (own_gt (122) (by decide) (by omega)) : (own_f2_58 x x) = (own_f2_66 x x))).trans (((if_neg (own_nlt (192) (by decide) (by omega)) : (own_f2_66 x x) = (own_f2_75 x x))).trans (((if_pos (own_gt (214) (by decide) (by omega)) : (own_f2_75 x x) = (own_f2_84 x x))).trans (((if_neg (own_ineq (215) (by decide) (by omega)) : (own_f2_84 x x) = (own_f2_93 x x))).trans (((if_pos (own_gt (246) (by decide) (by omega)) : (own_f2_93 x x) = (own_f2_102 x x))).trans (((if_neg (own_ineq (247) (by decide) (by omega)) : (own_f2_102 x x) = (own_f2_111 x x))).trans (((if_pos (own_gt (767) (by decide) (by omega)) : (own_f2_111 x x) = (own_f2_120 x x))).trans (((if_neg (own_nlt (880) (by decide) (by omega)) : (own_f2_120 x x) = (own_f2_129 x x))).trans (((if_pos (own_gt (893) (by decide) (by omega)) : (own_f2_129 x x) = (own_f2_138 x x))).trans (((if_neg (own_ineq (894) (by decide) (by omega)) : (own_f2_138 x x) = (own_f2_147 x x))).trans (((if_pos (own_gt (8191) (by decide) (by omega)) : (own_f2_147 x x) = (own_f2_156 x x))).trans (((if_neg (own_nlt (8204) (by decide) (by omega)) : (own_f2_156 x x) = (own_f2_165 x x))).trans (((if_pos (own_gt (8205) (by decide) (by omega)) : (own_f2_165 x x) = (own_f2_174 x x))).trans (((if_neg (own_nlt (8304) (by decide) (by omega)) : (own_f2_174 x x) = (own_f2_183 x x))).trans (((if_pos (own_gt (8591) (by decide) (by omega)) : (own_f2_183 x x) = (own_f2_192 x x))).trans ((if_pos (own_lt (11264) (by decide) (by omega)) : (own_f2_192 x x) = (own_f2_199 x x))))))))))))))))))))))))))
theorem own_same_23 {x : Int32} (h1 : 11264 ≤ x.toInt) (h2 : x.toInt ≤ 12271) : (own_f1_0 x) = (own_f2_0 x) :=
  Eq.trans (((if_neg (own_nlt (97) (by decide) (by omega)) : (own_f1_0 x) = (own_f1_6 x))).trans (((if_pos (own_gt (122) (by decide) (by omega)) : (own_f1_6 x) = (own_f1_12 x))).trans (((if_neg (own_nlt (65) (by decide) (by omega)) : (own_f1_12 x) = (own_f1_18 x))).trans (((if_pos (own_gt (90) (by decide) (by omega)) : (own_f1_18 x) = (own_f1_24 x))).trans (((if_neg (own_ineq (95) (by decide) (by omega)) : (own_f1_24 x) = (own_f1_30 x))).trans (((if_neg (own_ineq (58) (by decide) (by omega)) : (own_f1_30 x) = (own_f1_36 x))).trans (((if_neg (own_nlt (192) (by decide) (by omega)) : (own_f1_36 x) = (own_f1_43 x))).trans (((if_pos (own_gt (767) (by decide) (by omega)) : (own_f1_43 x) = (own_f1_64 x))).trans (((if_neg (own_nlt (880) (by decide) (by omega)) : (own_f1_64 x) = (own_f1_71 x))).trans (((if_pos (own_gt (8191) (by decide) (by omega)) : (own_f1_71 x) = (own_f1_85 x))).trans (((if_neg (own_nlt (8204) (by decide) (by omega)) : (own_f1_85 x) = (own_f1_92 x))).trans (((if_pos (own_gt (8205) (by decide) (by omega)) : (own_f1_92 x) = (own_f1_99 x))).trans (((if_neg (own_nlt (8304) (by decide) (by omega)) : (own_f1_99 x) = (own_f1_106 x))).trans (((if_pos (own_gt (8591) (by decide) (by omega)) : (own_f1_106 x) = (own_f1_113 x))).trans (((if_neg (own_nlt (11264) (by decide) (by omega)) : (own_f1_113 x) = (own_f1_120 x))).trans ((if_neg (own_ngt (12271) (by decide) (by omega)) : (own_f1_120 x) = (own_f1_164 x)))))))))))))))))) (Eq.symm (((if_neg (own_nlt (58) (by decide) (by omega)) : (own_f2_0 x) = (own_f2_10 x x))).trans (((if_neg (own_ineq (58) (by decide) (by omega)) : (own_f2_10 x x) = (own_f2_18 x x))).trans (((if_neg (own_nlt (65) (by decide) (by omega)) : (own_f2_18 x x) = (own_f2_26 x x))).trans (((if_pos (own_gt (90) (by decide) (by omega)) : (own_f2_26 x x) = (own_f2_34 x x))).trans (((if_neg (own_nlt (95) (by decide) (by omega)) : (own_f2_34 x x) = (own_f2_42 x x))).trans (((if_neg (own_ineq (95) (by decide) (by omega)) : (own_f2_42 x x) = (own_f2_50 x x))).trans (((if_neg (own_nlt (97) (by decide) (by omega)) : (own_f2_50 x x) = (own_f2_58 x x))).trans (((if_pos (own_gt (122) (by decide) (by omega)) : (own_f2_58 x x) = (own_f2_66 x x))).trans (((if_neg (own_nlt (192) (by decide) (by omega)) : (own_f2_66 x x) = (own_f2_75 x x))).trans (((if_pos (own_gt (214) (by decide) (by omega)) : (own_f2_75 x x) = (own_f2_84 x x))).trans (((if_neg (own_ineq (215) (by decide) (by omega)) : (own_f2_84 x x) = (own_f2_93 x x))).trans (((if_pos (own_gt (246) (by decide) (by omega)) : (own_f2_93 x x) = (own_f2_102 x x))).trans (((if_neg (own_ineq (247) (by decide) (by omega)) : (own_f2_102 x x) = (own_f2_111 x x))).trans (((if_pos (own_gt (767) (by decide) (by omega)) : (own_f2_111 x x) = (own_f2_120 x x))).trans (((if_neg (own_nlt (880) (by decide) (by omega)) : (own_f2_120 x x) = (own_f2_129 x x))).trans (((if_pos (own_gt (893) (by decide) (by omega)) : (own_f2_129 x x) = (own_f2_138 x x))).trans (((if_neg (own_ineq (894) (by decide) (by omega)) : (own_f2_138 x x) = (own_f2_147 x x))).trans (((if_pos (own_gt (8191) (by decide) (by omega)) : (own_f2_147 x x) = (own_f2_156 x x))).trans (((if_neg (own_nlt (8204) (by decide) (by omega)) : (own_f2_156 x x) = (own_f2_165 x x))).trans (((if_pos (own_gt (8205) (by decide) (by omega)) : (own_f2_165 x x) = (own_f2_174 x x))).trans (((if_neg (own_nlt (8304) (by decide) (by omega)) : (own_f2_174 x x) = (own_f2_183 x x))).trans (((if_pos (own_gt (8591) (by decide) (by omega)) : (own_f2_183 x x) = (own_f2_192 x x))).trans (((if_neg (own_nlt (11264) (by decide) (by omega)) : (own_f2_192 x x) = (own_f2_201 x x))).trans ((if_neg (own_ngt (12271) (by decide) (by omega)) : (own_f2_201 x x) = (own_f2_208 x x)))))))))))))))))))))))))))
theorem own_same_24 {x : Int32} (h1 : 12272 ≤ x.toInt) (h2 : x.toInt ≤ 12288) : (own_f1_0 x) = (own_f2_0 x) :=
  Eq.trans (((if_neg (own_nlt (97) (by decide) (by omega)) : (own_f1_0 x) = (own_f1_6 x))).trans (((if_pos (own_gt (122) (by decide) (by omega)) : (own_f1_6 x) = (own_f1_12 x))).trans (((if_neg (own_nlt (65) (by decide) (by omega)) : (own_f1_12 x) = (own_f1_18 x))).trans (((if_pos (own_gt (90) (by decide) (by omega)) : (own_f1_18 x) = (own_f1_24 x))).trans (((if_neg (own_ineq (95) (by decide) (by omega)) : (own_f1_24 x) = (own_f1_30 x))).trans (((if_neg (own_ineq (58) (by decide) (by omega)) : (own_f1_30 x) = (own_f1_36 x))).trans (((if_neg (own_nlt (192) (by decide) (by omega)) : (own_f1_36 x) = (own_f1_43 x))).trans (((if_pos (own_gt (767) (by decide) (by omega)) : (own_f1_43 x) = (own_f1_64 x))).trans (((if_neg (own_nlt (880) (by decide) (by omega)) : (own_f1_64 x) = (own_f1_71 x))).trans (((if_pos (own_gt (8191) (by decide) (by omega)) : (own_f1_71 x) = (own_f1_85 x))).trans (((if_neg (own_nlt (8204) (by decide) (by omega)) : (own_f1_85 x) = (own_f1_92 x))).trans (((if_pos (own_gt (8205) (by decide) (by omega)) : (own_f1_92 x) = (own_f1_99 x))).trans (((if_neg (own_nlt (8304) (by decide) (by omega)) : (own_f1_99 x) = (own_f1_106 x))).trans (((if_pos (own_gt (8591) (by decide) (by omega)) : (own_f1_106 x) = (own_f1_113 x))).trans (((if_neg (own_nlt (11264) (by decide) (by omega)) : (own_f1_113 x) = (own_f1_120 x))).trans (((if_pos (own_gt (12271) (by decide) (by omega)) : (own_f1_120 x) = (own_f1_127 x))).trans (((if_pos (own_lt (12289) (by decide) (by omega)) : (own_f1_127 x) = (own_f1_140 x))).trans (((if_pos (own_lt (63744) (by decide) (by omega)) : (own_f1_140 x) = (own_f1_152 x))).trans ((if_pos (own_lt (65008) (by decide) (by omega)) : (own_f1_152 x) = (own_f1_168 x))))))))))))))))))))) (Eq.symm (((if_neg (own_nlt (58) (by decide) (by omega)) : (own_f2_0 x) = (own_f2_10 x x))).trans (((if_neg (own_ineq (58) (by decide) (by omega)) : (own_f2_10 x x) = (own_f2_18 x x))).trans (((if_neg (own_nlt (65) (by decide) (by omega)) : (own_f2_18 x x) = (own_f2_26 x x))).trans (((if_pos (own_gt (90) (by decide) (by omega)) : (own_f2_26 x x) = (own_f2_34 x x))).trans (((if_neg (own_nlt (95) (by decide) (by omega)) : (own_f2_34 x x) = (own_f2_42 x x))).trans (((if_neg (own_ineq (95) (by decide) (by omega)) : (own_f2_42 x x) = (own_f2_50 x x))).trans (((if_neg (own_nlt (97) (by decide) (by omega)) : (own_f2_50 x x) = (own_f2_58 x x))).trans (((if_pos (own_gt (122) (by decide) (by omega)) : (own_f2_58 x x) = (own_f2_66 x x))).trans (((if_neg (own_nlt (192) (by decide) (by omega)) : (own_f2_66 x x) = (own_f2_75 x x))).trans (((if_pos (own_gt (214) (by decide) (by omega)) : (own_f2_75 x x) = (own_f2_84 x x))).trans (((if_neg (own_ineq (215) (by decide) (by omega)) : (own_f2_84 x x) = (own_f2_93 x x))).trans (((if_pos (own_gt (246) (by decide) (by omega)) : (own_f2_93 x x) = (own_f2_102 x x))).trans (((if_neg (own_ineq (247) (by decide) (by omega)) : (own_f2_102 x x) = (own_f2_111 x x))).trans (((if_pos (own_gt (767) (by decide) (by omega)) : (own_f2_111 x x) = (own_f2_120 x x))).trans (((if_neg (own_nlt (880) (by decide) (by omega)) : (own_f2_120 x x) = (own_f2_129 x x))).trans (((if_pos (own_gt (893) (by decide) (by omega)) : (own_f2_129 x x) = (own_f2_138 x x))).trans (((if_neg (own_ineq (894) (by decide) (by omega)) : (own_f2_138 x x) = (own_f2_147 x x))).trans (((if_pos (own_gt (8191) (by decide) (by omega)) : (own_f2_147 x x) = (own_f2_156 x x))).trans (((if_neg (own_nlt (8204) (by decide) (by omega)) : (own_f2_156 x x) = (own_f2_165 x x))).trans (((if_pos (own_gt (8205) (by decide) (by omega)) : (own_f2_165 x x) = (own_f2_174 x x))).trans (((if_neg (own_nlt (8304) (by decide) (by omega)) : (own_f2_174 x x) = (own_f2_183 x x))).trans (((if_pos (own_gt (8591) (by decide) (by omega)) : (own_f2_183 x x) = (own_f2_192 x x))).trans (((if_neg (own_nlt (11264) (by decide) (by omega)) : (own_f2_192 x x) = (own_f2_201 x x))).trans (((if_pos (own_gt (12271) (by decide) (by omega)) : (own_f2_201 x x) = (own_f2_210 x x))).trans ((if_pos (own_lt (12289) (by decide) (by omega)) : (own_f2_210 x x) = (own_f2_217 x x))))))))))))))))))))))))))))
theorem own_same_25 {x : Int32} (h1 : 12289 ≤ x.toInt) (h2 : x.toInt ≤ 55295) : (own_f1_0 x) = (own_f2_0 x) :=
  Eq.trans (((if_neg (own_nlt (97) (by decide) (by omega)) : (own_f1_0 x) = (own_f1_6 x))).trans (((if_pos (own_gt (122) (by decide) (by omega)) : (own_f1_6 x) = (own_f1_12 x))).trans (((if_neg (own_nlt (65) (by decide) (by omega)) : (own_f1_12 x) = (own_f1_18 x))).trans (((if_pos (own_gt (90) (by decide) (by omega)) : (own_f1_18 x) = (own_f1_24 x))).trans (((if_neg (own_ineq (95) (by decide) (by omega)) : (own_f1_24 x) = (own_f1_30 x))).trans (((if_neg (own_ineq (58) (by decide) (by omega)) : (own_f1_30 x) = (own_f1_36 x))).trans (((if_neg (own_nlt (192) (by decide) (by omega)) : (own_f1_36 x) = (own_f1_43 x))).trans (((if_pos (own_gt (767) (by decide) (by omega)) : (own_f1_43 x) = (own_f1_64 x))).trans (((if_neg (own_nlt (880) (by decide) (by omega)) : (own_f1_64 x) = (own_f1_71 x))).trans (((if_pos (own_gt (8191) (by decide) (by omega)) : (own_f1_71 x) = (own_f1_85 x))).trans (((if_neg (own_nlt (8204) (by decide) (by omega)) : (own_f1_85 x) = (own_f1_92 x))).trans (((if_pos (own_gt (8205) (by decide) (by omega)) : (own_f1_92 x) = (own_f1_99 x))).trans (((if_neg (own_nlt (8304) (by decide) (by omega)) : (own_f1_99 x) = (own_f1_106 x))).trans (((if_pos (own_gt (8591) (by decide) (by omega)) : (own_f1_106 x) = (own_f1_113 x))).trans (((if_neg (own_nlt (11264) (by decide) (by omega)) : (own_f1_113 x) = (own_f1_120 x))).trans (((if_pos (own_gt (12271) (by decide) (by omega)) : (own_f1_120 x) = (own_f1_127 x))).trans (((if_neg (own_nlt (12289) (by decide) (by omega)) : (own_f1_127 x) = (own_f1_134 x))).trans ((if_neg (own_ngt (55295) (by decide) (by omega)) : (own_f1_134 x) = (own_f1_164 x)))))))))))))))))))) (Eq.symm (((if_neg (own_nlt (58) (by decide) (by omega)) : (own_f2_0 x) = (own_f2_10 x x))).trans (((if_neg (own_ineq (58) (by decide) (by omega)) : (own_f2_10 x x) = (own_f2_18 x x))).trans (((if_neg (own_nlt (65) (by decide) (by omega)) : (own_f2_18 x x) = (own_f2_26 x x))).trans (((if_pos (own_gt (90) (by decide) (by omega)) : (own_f2_26 x x) = (own_f2_34 x x))).trans (((if_neg (own_nlt (95) (by decide) (by omega)) : (own_f2_34 x x) = (own_f2_42 x x))).trans (((if_neg (own_ineq (95) (by decide) (by omega)) : (own_f2_42 x x) = (own_f2_50 x x))).trans (((if_neg (own_nlt (97) (by decide) (by omega)) : (own_f2_50 x x) = (own_f2_58 x x))).trans (((if_pos (own_gt (122) (by decide) (by omega)) : (own_f2_58 x x) = (own_f2_66 x x))).trans (((if_neg (own_nlt (192) (by decide) (by omega)) : (own_f2_66 x x) = (own_f2_75 x x))).trans (((if_pos (own_gt (214) (by decide) (by omega)) : (own_f2_75 x x) = (own_f2_84 x x))).trans (((if_neg (own_ineq (215) (by decide) (by omega)) : (own_f2_84 x x) = (own_f2_93 x x))).trans (((if_pos (own_gt (246) (by decide) (by omega)) : (own_f2_93 x x) = (own_f2_102 x x))).trans (((if_neg (own_ineq (247) (by decide) (by omega)) : (own_f2_102 x x) = (own_f2_111 x x))).trans (((if_pos (own_gt (767) (by decide) (by omega)) : (own_f2_111 x x) = (own_f2_120 x x))).trans (((if_neg (own_nlt (880) (by decide) (by omega)) : (own_f2_120 x x) = (own_f2_129 x x))).trans (((if_pos (own_gt (893) (by decide) (by omega)) : (own_f2_129 x x) = (own_f2_138 x x))).trans (((if_neg (own_ineq (894) (by decide) (by omega)) : (own_f2_138 x x) = (own_f2_147 x x))).trans (((if_pos (own_gt (8191) (by decide) (by omega)) : (own_f2_147 x x) = (own_f2_156 x x))).trans (((if_neg (own_nlt (8204) (by decide) (by omega)) : (own_f2_156 x x) = (own_f2_165 x x))).trans (((if_pos (own_gt (8205) (by decide) (by omega)) : (own_f2_165 x x) = (own_f2_174 x x))).trans (((if_neg (own_nlt (8304) (by decide) (by omega)) : (own_f2_174 x x) = (own_f2_183 x x))).trans (((if_pos (own_gt (8591) (by decide) (by omega)) : (own_f2_183 x x) = (own_f2_192 x x))).trans (((if_neg (own_nlt (11264) (by decide) (by omega)) : (own_f2_192 x x) = (own_f2_201 x x))).trans (((if_pos (own_gt (12271) (by decide) (by omega)) : (own_f2_201 x x) = (own_f2_210 x x))).trans (((if_neg (own_nlt (12289) (by decide) (by omega)) : (own_f2_210 x x) = (own_f2_219 x x))).trans ((if_neg (own_ngt (55295) (by decide) (by omega)) : (own_f2_219 x x) = (own_f2_225 x x)))))))))))))))))))))))))))))
theorem own_same_26 {x : Int32} (h1 : 55296 ≤ x.toInt) (h2 : x.toInt ≤ 63743) : (own_f1_0 x) = (own_f2_0 x) :=
  Eq.trans (((if_neg (own_nlt (97) (by decide) (by omega)) : (own_f1_0 x) = (own_f1_6 x))).trans (((if_pos (own_gt (122) (by decide) (by omega)) : (own_f1_6 x) = (own_f1_12 x))).trans (((if_neg (own_nlt (65) (by decide) (by omega)) : (own_f1_12 x) = (own_f1_18 x))).trans (((if_pos (own_gt (90) (by decide) (by omega)) : (own_f1_18 x) = (own_f1_24 x))).trans (((if_neg (own_ineq (95) (by decide) (by omega)) : (own_f1_24 x) = (own_f1_30 x))).trans (((if_neg (own_ineq (58) (by decide) (by omega)) : (own_f1_30 x) = (own_f1_36 x))).trans (((if_neg (own_nlt (192) (by decide) (by omega)) : (own_f1_36 x) = (own_f1_43 x))).trans (((if_pos (own_gt (767) (by decide) (by omega)) : (own_f1_43 x) = (own_f1_64 x))).trans (((if_neg (own_nlt (880) (by decide) (by omega)) : (own_f1_64 x) = (own_f1_71 x))).trans (((if_pos (own_gt (8191) (by decide) (by omega)) : (own_f1_71 x) = (own_f1_85 x))).trans (((if_neg (own_nlt (8204) (by decide) (by omega)) : (own_f1_85 x) = (own_f1_92 x))).trans (((if_pos (own_gt (8205) (by decide) (by omega)) : (own_f1_92 x) = (own_f1_99 x))).trans (((if_neg (own_nlt (8304) (by decide) (by omega)) : (own_f1_99 x) = (own_f1_106 x))).trans (((if_pos (own_gt (8591) (by decide) (by omega)) : (own_f1_106 x) = (own_f1_113 x))).trans (((if_neg (own_nlt (11264) (by decide) (by omega)) : (own_f1_113 x) = (own_f1_120 x))).trans (((if_pos (own_gt (12271) (by decide) (by omega)) : (own_f1_120 x) = (own_f1_127 x))).trans (((if_neg (own_nlt (12289) (by decide) (by omega)) : (own_f1_127 x) = (own_f1_134 x))).trans (((if_pos (own_gt (55295) (by decide) (by omega)) : (own_f1_134 x) = (own_f1_140 x))).trans (((if_pos (own_lt (63744) (by decide) (by omega)) : (own_f1_140 x) = (own_f1_152 x))).trans ((if_pos (own_lt (65008) (by decide) (by omega)) : (own_f1_152 x) = (own_f1_168 x)))))))))))))))))))))) (Eq.symm (((if_neg (own_nlt (58) (by decide) (by omega)) : (own_f2_0 x) = (own_f2_10 x x))).trans (((if_neg (own_ineq (58) (by decide) (by omega)) : (own_f2_10 x x) = (own_f2_18 x x))).trans (((if_neg (own_nlt (65) (by decide) (by omega)) : (own_f2_18 x x) = (own_f2_26 x x))).trans (((if_pos (own_gt (90) (by decide) (by omega)) : (own_f2_26 x x) = (own_f2_34 x x))).trans (((if_neg (own_nlt (95) (by decide) (by omega)) : (own_f2_34 x x) = (own_f2_42 x x))).trans (((if_neg (own_ineq (95) (by decide) (by omega)) : (own_f2_42 x x) = (own_f2_50 x x))).trans (((if_neg (own_nlt (97) (by decide) (by omega)) : (own_f2_50 x x) = (own_f2_58 x x))).trans (((if_pos (own_gt (122) (by decide) (by omega)) : (own_f2_58 x x) = (own_f2_66 x x))).trans (((if_neg (own_nlt (192) (by decide) (by omega)) : (own_f2_66 x x) = (own_f2_75 x x))).trans (((if_pos (own_gt (214) (by decide) (by omega)) : (own_f2_75 x x) = (own_f2_84 x x))).trans (((if_neg (own_ineq (215) (by decide) (by omega)) : (own_f2_84 x x) = (own_f2_93 x x))).trans (((if_pos (own_gt (246) (by decide) (by omega)) : (own_f2_93 x x) = (own_f2_102 x x))).trans (((if_neg (own_ineq (247) (by decide) (by omega)) : (own_f2_102 x x) = (own_f2_111 x x))).trans (((if_pos (own_gt (767) (by decide) (by omega)) : (own_f2_111 x x) = (own_f2_120 x x))).trans (((if_neg (own_nlt (880) (by decide) (by omega)) : (own_f2_120 x x) = (own_f2_129 x x))).trans (((if_pos (own_gt (893) (by decide) (by omega)) : (own_f2_129 x x) = (own_f2_138 x x))).trans (((if_neg (own_ineq (894) (by decide) (by omega)) : (own_f2_138 x x) = (own_f2_147 x x))).trans (((if_pos (own_gt (8191) (by decide) (by omega)) : (own_f2_147 x x) = (own_f2_156 x x))).trans (((if_neg (own_nlt (8204) (by decide) (by omega)) : (own_f2_156 x x) = (own_f2_165 x x))).trans (((if_pos (own_gt (8205) (by decide) (by omega)) : (own_f2_165 x x) = (own_f2_174 x x))).trans (((if_neg (own_nlt (8304) (by decide) (by omega)) : (own_f2_174 x x) = (own_f2_183 x x))).trans (((if_pos (own_gt (8591) (by decide) (by omega)) : (own_f2_183 x x) = (own_f2_192 x x))).trans (((if_neg (own_nlt (11264) (by decide) (by omega)) : (own_f2_192 x x) = (own_f2_201 x x))).trans (((if_pos (own_gt (12271) (by decide) (by omega)) : (own_f2_201 x x) = (own_f2_210 x x))).trans (((if_neg (own_nlt (12289) (by decide) (by omega)) : (own_f2_210 x x) = (own_f2_219 x x))).trans (((if_pos (own_gt (55295) (by decide) (by omega)) : (own_f2_219 x x) = (own_f2_227 x x))).trans ((if_pos (own_lt (63744) (by decide) (by omega)) : (own_f2_227 x x) = (own_f2_233 x x))))))))))))))))))))))))))))))
theorem own_same_27 {x : Int32} (h1 : 63744 ≤ x.toInt) (h2 : x.toInt ≤ 64975) : (own_f1_0 x) = (own_f2_0 x) :=
  Eq.trans (((if_neg (own_nlt (97) (by decide) (by omega)) : (own_f1_0 x) = (own_f1_6 x))).trans (((if_pos (own_gt (122) (by decide) (by omega)) : (own_f1_6 x) = (own_f1_12 x))).trans (((if_neg (own_nlt (65) (by decide) (by omega)) : (own_f1_12 x) = (own_f1_18 x))).trans (((if_pos (own_gt (90) (by decide) (by omega)) : (own_f1_18 x) = (own_f1_24 x))).trans (((if_neg (own_ineq (95) (by decide) (by omega)) : (own_f1_24 x) = (own_f1_30 x))).trans (((if_neg (own_ineq (58) (by decide) (by omega)) : (own_f1_30 x) = (own_f1_36 x))).trans (((if_neg (own_nlt (192) (by decide) (by omega)) : (own_f1_36 x) = (own_f1_43 x))).trans (((if_pos (own_gt (767) (by decide) (by omega)) : (own_f1_43 x) = (own_f1_64 x))).trans (((if_neg (own_nlt (880) (by decide) (by omega)) : (own_f1_64 x) = (own_f1_71 x))).trans (((if_pos (own_gt (8191) (by decide) (by omega)) : (own_f1_71 x) = (own_f1_85 x))).trans (((if_neg (own_nlt (8204) (by decide) (by omega)) : (own_f1_85 x) = (own_f1_92 x))).trans (((if_pos (own_gt (8205) (by decide) (by omega)) : (own_f1_92 x) = (own_f1_99 x))).trans (((if_neg (own_nlt (8304) (by decide) (by omega)) : (own_f1_99 x) = (own_f1_106 x))).trans (((if_pos (own_gt (8591) (by decide) (by omega)) : (own_f1_106 x) = (own_f1_113 x))).trans (((if_neg (own_nlt (11264) (by decide) (by omega)) : (own_f1_113 x) = (own_f1_120 x))).trans (((if_pos (own_gt (12271) (by decide) (by omega)) : (own_f1_120 x) = (own_f1_127 x))).trans (((if_neg (own_nlt (12289) (by decide) (by omega)) : (own_f1_127 x) = (own_f1_134 x))).trans (((if_pos (own_gt (55295) (by decide) (by omega)) : (own_f1_134 x) = (own_f1_140 x))).trans (((if_neg (own_nlt (63744) (by decide) (by omega)) : (own_f1_140 x) = (own_f1_146 x))).trans ((if_neg (own_ngt (64975) (by decide) (by omega)) : (own_f1_146 x) = (own_f1_164 x)))))))))))))))))))))) (Eq.symm (((if_neg (own_nlt (58) (by decide) (by omega)) : (own_f2_0 x) = (own_f2_10 x x))).trans (((if_neg (own_ineq (58) (by decide) (by omega)) : (own_f2_10 x x) = (own_f2_18 x x))).trans (((if_neg (own_nlt (65) (by decide) (by omega)) : (own_f2_18 x x) = (own_f2_26 x x))).trans (((if_pos (own_gt (90) (by decide) (by omega)) : (own_f2_26 x x) = (own_f2_34 x x))).trans (((if_neg (own_nlt (95) (by decide) (by omega)) : (own_f2_34 x x) = (own_f2_42 x x))).trans (((if_neg (own_ineq (95) (by decide) (by omega)) : (own_f2_42 x x) = (own_f2_50 x x))).trans (((if_neg (own_nlt (97) (by decide) (by omega)) : (own_f2_50 x x) = (own_f2_58 x x))).trans (((if_pos (own_gt (122) (by decide) (by omega)) : (own_f2_58 x x) = (own_f2_66 x x))).trans (((if_neg (own_nlt (192) (by decide) (by omega)) : (own_f2_66 x x) = (own_f2_75 x x))).trans (((if_pos (own_gt (214) (by decide) (by omega)) : (own_f2_75 x x) = (own_f2_84 x x))).trans (((if_neg (own_ineq (215) (by decide) (by omega)) : (own_f2_84 x x) = (own_f2_93 x x))).trans (((if_pos (own_gt (246) (by decide) (by omega)) : (own_f2_93 x x) = (own_f2_102 x x))).trans (((if_neg (own_ineq (247) (by decide) (by omega)) : (own_f2_102 x x) = (own_f2_111 x x))).trans (((if_pos (own_gt (767) (by decide) (by omega)) : (own_f2_111 x x) = (own_f2_120 x x))).trans (((if_neg (own_nlt (880) (by decide) (by omega)) : (own_f2_120 x x) = (own_f2_129 x x))).trans (((if_pos (own_gt (893) (by decide) (by omega)) : (own_f2_129 x x) = (own_f2_138 x x))).trans (((if_neg (own_ineq (894) (by decide) (by omega)) : (own_f2_138 x x) = (own_f2_147 x x))).trans (((if_pos (own_gt (8191) (by decide) (by omega)) : (own_f2_147 x x) = (own_f2_156 x x))).trans (((if_neg (own_nlt (8204) (by decide) (by omega)) : (own_f2_156 x x) = (own_f2_165 x x))).trans (((if_pos (own_gt (8205) (by decide) (by omega)) : (own_f2_165 x x) = (own_f2_174 x x))).trans (((if_neg (own_nlt (8304) (by decide) (by omega)) : (own_f2_174 x x) = (own_f2_183 x x))).trans (((if_pos (own_gt (8591) (by decide) (by omega)) : (own_f2_183 x x) = (own_f2_192 x x))).trans (((if_neg (own_nlt (11264) (by decide) (by omega)) : (own_f2_192 x x) = (own_f2_201 x x))).trans (((if_pos (own_gt (12271) (by decide) (by omega)) : (own_f2_201 x x) = (own_f2_210 x x))).trans (((if_neg (own_nlt (12289) (by decide) (by omega)) : (own_f2_210 x x) = (own_f2_219 x x))).trans (((if_pos (own_gt (55295) (by decide) (by omega)) : (own_f2_219 x x) = (own_f2_227 x x))).trans (((if_neg (own_nlt (63744) (by decide) (by omega)) : (own_f2_227 x x) = (own_f2_235 x x))).trans ((if_neg (own_ngt (64975) (by decide) (by omega)) : (own_f2_235 x x) = (own_f2_241 x x)))))))))))))))))))))))))))))))
theorem own_same_28 {x : Int32} (h1 : 64976 ≤ x.toInt) (h2 : x.toInt ≤ 65007) : (own_f1_0 x) = (own_f2_0 x) :=
  Eq.trans (((if_neg (own_nlt (97) (by decide) (by omega)) : (own_f1_0 x) = (own_f1_6 x))).trans (((if_pos (own_gt (122) (by decide) (by omega)) : (own_f1_6 x) = (own_f1_12 x))).trans (((if_neg (own_nlt (65) (by decide) (by omega)) : (own_f1_12 x) = (own_f1_18 x))).trans (((if_pos (own_gt (90) (by decide) (by omega)) : (own_f1_18 x) = (own_f1_24 x))).trans (((if_neg (own_ineq (95) (by decide) (by omega)) : (own_f1_24 x) = (own_f1_30 x))).trans (((if_neg (own_ineq (58) (by decide) (by omega)) : (own_f1_30 x) = (own_f1_36 x))).trans (((if_neg (own_nlt (192) (by decide) (by omega)) : (own_f1_36 x) = (own_f1_43 x))).trans (((if_pos (own_gt (767) (by decide) (by omega)) : (own_f1_43 x) = (own_f1_64 x))).trans (((if_neg (own_nlt (880) (by decide) (by omega)) : (own_f1_64 x) = (own_f1_71 x))).trans (((if_pos (own_gt (8191) (by decide) (by omega)) : (own_f1_71 x) = (own_f1_85 x))).trans (((if_neg (own_nlt (8204) (by decide) (by omega)) : (own_f1_85 x) = (own_f1_92 x))).trans (((if_pos (own_gt (8205) (by decide) (by omega)) : (own_f1_92 x) = (own_f1_99 x))).trans (((if_neg (own_nlt (8304) (by decide) (by omega)) : (own_f1_99 x) = (own_f1_106 x))).trans (((if_pos (own_gt (8591) (by decide) (by omega)) : (own_f1_106 x) = (own_f1_113 x))).trans (((if_neg (own_nlt (11264) (by decide) (by omega)) : (own_f1_113 x) = (own_f1_120 x))).trans (((if_pos (own_gt (12271) (by decide) (by omega)) : (own_f1_120 x) = (own_f1_127 x))).trans (((if_neg (own_nlt (12289) (by decide) (by omega)) : (own_f1_127 x) = (own_f1_134 x))).trans (((if_pos (own_gt (55295) (by decide) (by omega)) : (own_f1_134 x) = (own_f1_140 x))).trans (((if_neg (own_nlt (63744) (by decide) (by omega)) : (own_f1_140 x) = (own_f1_146 x))).trans (((if_pos (own_gt (64975) (by decide) (by omega)) : (own_f1_146 x) = (own_f1_152 x))).trans ((if_pos (own_lt (65008) (by decide) (by omega)) : (own_f1_152 x) = (own_f1_168 x))))))))))))))))))))))) (Eq.symm (((if_neg (own_nlt (58) (by decide) (by omega)) : (own_f2_0 x) = (own_f2_10 x x))).trans (((if_neg (own_ineq (58) (by decide) (by omega)) : (own_f2_10 x x) = (own_f2_18 x x))).trans (((if_neg (own_nlt (65) (by decide) (by omega)) : (own_f2_18 x x) = (own_f2_26 x x))).trans (((if_pos (own_gt (90) (by decide) (by omega)) : (own_f2_26 x x) = (own_f2_34 x x))).trans (((if_neg (own_nlt (95) (by decide) (by omega)) : (own_f2_34 x x) = (own_f2_42 x x))).trans (((if_neg (own_ineq (95) (by decide) (by omega)) : (own_f2_42 x x) = (own_f2_50 x x))).trans (((if_neg (own_nlt (97) (by decide) (by omega)) : (own_f2_50 x x) = (own_f2_58 x x))).trans (((if_pos (own_gt (122) (by decide) (by omega)) : (own_f2_58 x x) = (own_f2_66 x x))).trans (((if_neg (own_nlt (192) (by decide) (by omega)) : (own_f2_66 x x) = (own_f2_75 x x))).trans (((if_pos (own_gt (214) (by decide) (by omega)) : (own_f2_75 x x) = (own_f2_84 x x))).trans (((if_neg (own_ineq (215) (by decide) (by omega)) : (own_f2_84 x x) = (own_f2_93 x x))).trans (((if_pos (own_gt (246) (by decide) (by omega)) : (own_f2_93 x x) = (own_f2_102 x x))).trans (((if_neg (own_ineq (247) (by decide) (by omega)) : (own_f2_102 x x) = (own_f2_111 x x))).trans (((if_pos (own_gt (767) (by decide) (by omega)) : (own_f2_111 x x) = (own_f2_120 x x))).trans (((if_neg (own_nlt (880) (by decide) (by omega)) : (own_f2_120 x x) = (own_f2_129 x x))).trans (((if_pos (own_gt (893) (by decide) (by omega)) : (own_f2_129 x x) = (own_f2_138 x x))).trans (((if_neg (own_ineq (894) (by decide) (by omega)) : (own_f2_138 x x) = (own_f2_147 x x))).trans (((if_pos (own_gt (8191) (by decide) (by omega)) : (own_f2_147 x x) = (own_f2_156 x x))).trans (((if_neg (own_nlt (8204) (by decide) (by omega)) : (own_f2_156 x x) = (own_f2_165 x x))).trans (((if_pos (own_gt (8205) (by decide) (by omega)) : (own_f2_165 x x) = (own_f2_174 x x))).trans (((if_neg (own_nlt (8304) (by decide) (by omega)) : (own_f2_174 x x) = (own_f2_183 x x))).trans (((if_pos (own_gt (8591) (by decide) (by omega)) : (own_f2_183 x x) = (own_f2_192 x x))).trans (((if_neg (own_nlt (11264) (by decide) (by omega)) : (own_f2_192 x x) = (own_f2_201 x x))).trans (((if_pos (own_gt (12271) (by decide) (by omega)) : (own_f2_201 x x) = (own_f2_210 x x))).trans (((if_neg (own_nlt (12289) (by decide) (by omega)) : (own_f2_210 x x) = (own_f2_219 x x))).trans (((if_pos (own_gt (55295) (by decide) (by omega)) : (own_f2_219 x x) = (own_f2_227 x x))).trans (((if_neg (own_nlt (63744) (by decide) (by omega)) : (own_f2_227 x x) = (own_f2_235 x x))).trans (((if_pos (own_gt (64975) (by decide) (by omega)) : (own_f2_235 x x) = (own_f2_243 x x))).trans ((if_pos (own_lt (65008) (by decide) (by omega)) : (own_f2_243 x x) = (own_f2_249 x x))))))))))))))))))))))))))))))))
theorem own_same_29 {x : Int32} (h1 : 65008 ≤ x.toInt) (h2 : x.toInt ≤ 65533) : (own_f1_0 x) = (own_f2_0 x) :=
  Eq.trans (((if_neg (own_nlt (97) (by decide) (by omega)) : (own_f1_0 x) = (own_f1_6 x))).trans (((if_pos (own_gt (122) (by decide) (by omega)) : (own_f1_6 x) = (own_f1_12 x))).trans (((if_neg (own_nlt (65) (by decide) (by omega)) : (own_f1_12 x) = (own_f1_18 x))).trans (((if_pos (own_gt (90) (by decide) (by omega)) : (own_f1_18 x) = (own_f1_24 x))).trans (((if_neg (own_ineq (95) (by decide) (by omega)) : (own_f1_24 x) = (own_f1_30 x))).trans (((if_neg (own_ineq (58) (by decide) (by omega)) : (own_f1_30 x) = (own_f1_36 x))).trans (((if_neg (own_nlt (192) (by decide) (by omega)) : (own_f1_36 x) = (own_f1_43 x))).trans (((if_pos (own_gt (767) (by decide) (by omega)) : (own_f1_43 x) = (own_f1_64 x))).trans (((if_neg (own_nlt (880) (by decide) (by omega)) : (own_f1_64 x) = (own_f1_71 x))).trans (((if_pos (own_gt (8191) (by decide) (by omega)) : (own_f1_71 x) = (own_f1_85 x))).trans (((if_neg (own_nlt (8204) (by decide) (by omega)) : (own_f1_85 x) = (own_f1_92 x))).trans (((if_pos (own_gt (8205) (by decide) (by omega)) : (own_f1_92 x) = (own_f1_99 x))).trans (((if_neg (own_nlt (8304) (by decide) (by omega)) : (own_f1_99 x) = (own_f1_106 x))).trans (((if_pos (own_gt (8591) (by decide) (by omega)) : (own_f1_106 x) = (own_f1_113 x))).trans (((if_neg (own_nlt (11264) (by decide) (by omega)) : (own_f1_113 x) = (own_f1_120 x))).trans (((if_pos (own_gt (12271) (by decide) (by omega)) : (own_f1_120 x) = (own_f1_127 x))).trans (((if_neg (own_nlt (12289) (by decide) (by omega)) : (own_f1_127 x) = (own_f1_134 x))).trans (((if_pos (own_gt (55295) (by decide) (by omega)) : (own_f1_134 x) = (own_f1_140 x))).trans (((if_neg (own_nlt (63744) (by decide) (by omega)) : (own_f1_140 x) = (own_f1_146 x))).trans (((if_pos (own_gt (64975) (by decide) (by omega)) : (own_f1_146 x) = (own_f1_152 x))).trans (((if_neg (own_nlt (65008) (by decide) (by omega)) : (own_f1_152 x) = (own_f1_158 x))).trans ((if_neg (own_ngt (65533) (by decide) (by omega)) : (own_f1_158 x) = (own_f1_164 x)))))))))))))))))))))))) (Eq.symm (((if_neg (own_nlt (58) (by decide) (by omega)) : (own_f2_0 x) = (own_f2_10 x x))).trans (((if_neg (own_ineq (58) (by decide) (by omega)) : (own_f2_10 x x) = (own_f2_18 x x))).trans (((if_neg (own_nlt (65) (by decide) (by omega)) : (own_f2_18 x x) = (own_f2_26 x x))).trans (((if_pos (own_gt (90) (by decide) (by omega)) : (own_f2_26 x x) = (own_f2_34 x x))).trans (((if_neg (own_nlt (95) (by decide) (by omega)) : (own_f2_34 x x) = (own_f2_42 x x))).trans (((if_neg (own_ineq (95) (by decide) (by omega)) : (own_f2_42 x x) = (own_f2_50 x x))).trans (((if_neg (own_nlt (97) (by decide) (by omega)) : (own_f2_50 x x) = (own_f2_58 x x))).trans (((if_pos (own_gt (122) (by decide) (by omega)) : (own_f2_58 x x) = (own_f2_66 x x))).trans (((if_neg (own_nlt (192) (by decide) (by omega)) : (own_f2_66 x x) = (own_f2_75 x x))).trans (((if_pos (own_gt (214) (by decide) (by omega)) : (own_f2_75 x x) = (own_f2_84 x x))).trans (((if_neg (own_ineq (215) (by decide) (by omega)) : (own_f2_84 x x) = (own_f2_93 x x))).trans (((if_pos (own_gt (246) (by decide) (by omega)) : (own_f2_93 x x) = (own_f2_102 x x))).trans (((if_neg (own_ineq (247) (by decide) (by omega)) : (own_f2_102 x x) = (own_f2_111 x x))).trans (((if_pos (own_gt (767) (by decide) (by omega)) : (own_f2_111 x x) = (own_f2_120 x x))).trans (((if_neg (own_nlt (880) (by decide) (by omega)) : (own_f2_120 x x) = (own_f2_129 x x))).trans (((if_pos (own_gt (893) (by decide) (by omega)) : (own_f2_129 x x) = (own_f2_138 x x))).trans (((if_neg (own_ineq (894) (by decide) (by omega)) : (own_f2_138 x x) = (own_f2_147 x x))).trans (((if_pos (own_gt (8191) (by decide) (by omega)) : (own_f2_147 x x) = (own_f2_156 x x))).trans (((if_neg (own_nlt (8204) (by decide) (by omega)) : (own_f2_156 x x) = (own_f2_165 x x))).trans (((if_pos (own_gt (8205) (by decide) (by omega)) : (own_f2_165 x x) = (own_f2_174 x x))).trans (((if_neg (own_nlt (8304) (by decide) (by omega)) : (own_f2_174 x x) = (own_f2_183 x x))).trans (((if_pos (own_gt (8591) (by decide) (by omega)) : (own_f2_183 x x) = (own_f2_192 x x))).trans (((if_neg (own_nlt (11264) (by decide) (by omega)) : (own_f2_192 x x) = (own_f2_201 x x))).trans (((if_pos (own_gt (12271) (by decide) (by omega)) : (own_f2_201 x x) = (own_f2_210 x x))).trans (((if_neg (own_nlt (12289) (by decide) (by omega)) : (own_f2_210 x x) = (own_f2_219 x x))).trans (((if_pos (own_gt (55295) (by decide) (by omega)) : (own_f2_219 x x) = (own_f2_227 x x))).trans (((if_neg (own_nlt (63744) (by decide) (by omega)) : (own_f2_227 x x) = (own_f2_235 x x))).trans (((if_pos (own_gt (64975) (by decide) (by omega)) : (own_f2_235 x x) = (own_f2_243 x x))).trans (((if_neg (own_nlt (65008) (by decide) (by omega)) : (own_f2_243 x x) = (own_f2_251 x x))).trans ((if_neg (own_ngt (65533) (by decide) (by omega)) : (own_f2_251 x x) = (own_f2_257 x x)))))))))))))))))))))))))))))))))
theorem own_same_30 {x : Int32} (h1 : 65534 ≤ x.toInt) (h2 : x.toInt ≤ 2147483647) : (own_f1_0 x) = (own_f2_0 x) :=
  Eq.trans (((if_neg (own_nlt (97) (by decide) (by omega)) : (own_f1_0 x) = (own_f1_6 x))).trans (((if_pos (own_gt (122) (by decide) (by omega)) : (own_f1_6 x) = (own_f1_12 x))).trans (((if_neg (own_nlt (65) (by decide) (by omega)) : (own_f1_12 x) = (own_f1_18 x))).trans (((if_pos (own_gt (90) (by decide) (by omega)) : (own_f1_18 x) = (own_f1_24 x))).trans (((if_neg (own_ineq (95) (by decide) (by omega)) : (own_f1_24 x) = (own_f1_30 x))).trans (((if_neg (own_ineq (58) (by decide) (by omega)) : (own_f1_30 x) = (own_f1_36 x))).trans (((if_neg (own_nlt (192) (by decide) (by omega)) : (own_f1_36 x) = (own_f1_43 x))).trans (((if_pos (own_gt (767) (by decide) (by omega)) : (own_f1_43 x) = (own_f1_64 x))).trans (((if_neg (own_nlt (880) (by decide) (by omega)) : (own_f1_64 x) = (own_f1_71 x))).trans (((if_pos (own_gt (8191) (by decide) (by omega)) : (own_f1_71 x) = (own_f1_85 x))).trans (((if_neg (own_nlt (8204) (by decide) (by omega)) : (own_f1_85 x) = (own_f1_92 x))).trans (((if_pos (own_gt (8205) (by decide) (by omega)) : (own_f1_92 x) = (own_f1_99 x))).trans (((if_neg (own_nlt (8304) (by decide) (by omega)) : (own_f1_99 x) = (own_f1_106 x))).trans (((if_pos (own_gt (8591) (by decide) (by omega)) : (own_f1_106 x) = (own_f1_113 x))).trans (((if_neg (own_nlt (11264) (by decide) (by omega)) : (own_f1_113 x) = (own_f1_120 x))).trans (((if_pos (own_gt (12271) (by decide) (by omega)) : (own_f1_120 x) = (own_f1_127 x))).trans (((if_neg (own_nlt (12289) (by decide) (by omega)) : (own_f1_127 x) = (own_f1_134 x))).trans (((if_pos (own_gt (55295) (by decide) (by omega)) : (own_f1_134 x) = (own_f1_140 x))).trans (((if_neg (own_nlt (63744) (by decide) (by omega)) : (own_f1_140 x) = (own_f1_146 x))).trans (((if_pos (own_gt (64975) (by decide) (by omega)) : (own_f1_146 x) = (own_f1_152 x))).trans (((if_neg (own_nlt (65008) (by decide) (by omega)) : (own_f1_152 x) = (own_f1_158 x))).trans ((if_pos (own_gt (65533) (by decide) (by omega)) : (own_f1_158 x) = (own_f1_168 x)))))))))))))))))))))))) (Eq.symm (((if_neg (own_nlt (58) (by decide) (by omega)) : (own_f2_0 x) = (own_f2_10 x x))).trans (((if_neg (own_ineq (58) (by decide) (by omega)) : (own_f2_10 x x) = (own_f2_18 x x))).trans (((if_neg (own_nlt (65) (by decide) (by omega)) : (own_f2_18 x x) = (own_f2_26 x x))).trans (((if_pos (own_gt (90) (by decide) (by omega)) : (own_f2_26 x x) = (own_f2_34 x x))).trans (((if_neg (own_nlt (95) (by decide) (by omega)) : (own_f2_34 x x) = (own_f2_42 x x))).trans (((if_neg (own_ineq (95) (by decide) (by omega)) : (own_f2_42 x x) = (own_f2_50 x x))).trans (((if_neg (own_nlt (97) (by decide) (by omega)) : (own_f2_50 x x) = (own_f2_58 x x))).trans (((if_pos (own_gt (122) (by decide) (by omega)) : (own_f2_58 x x) = (own_f2_66 x x))).trans (((if_neg (own_nlt (192) (by decide) (by omega)) : (own_f2_66 x x) = (own_f2_75 x x))).trans (((if_pos (own_gt (214) (by decide) (by omega)) : (own_f2_75 x x) = (own_f2_84 x x))).trans (((if_neg (own_ineq (215) (by decide) (by omega)) : (own_f2_84 x x) = (own_f2_93 x x))).trans (((if_pos (own_gt (246) (by decide) (by omega)) : (own_f2_93 x x) = (own_f2_102 x x))).trans (((if_neg (own_ineq (247) (by decide) (by omega)) : (own_f2_102 x x) = (own_f2_111 x x))).trans (((if_pos (own_gt (767) (by decide) (by omega)) : (own_f2_111 x x) = (own_f2_120 x x))).trans (((if_neg (own_nlt (880) (by decide) (by omega)) : (own_f2_120 x x) = (own_f2_129 x x))).trans (((if_pos (own_gt (893) (by decide) (by omega)) : (own_f2_129 x x) = (own_f2_138 x x))).trans (((if_neg (own_ineq (894) (by decide) (by omega)) : (own_f2_138 x x) = (own_f2_147 x x))).trans (((if_pos (own_gt (8191) (by decide) (by omega)) : (own_f2_147 x x) = (own_f2_156 x x))).trans (((if_neg (own_nlt (8204) (by decide) (by omega)) : (own_f2_156 x x) = (own_f2_165 x x))).trans (((if_pos (own_gt (8205) (by decide) (by omega)) : (own_f2_165 x x) = (own_f2_174 x x))).trans (((if_neg (own_nlt (8304) (by decide) (by omega)) : (own_f2_174 x x) = (own_f2_183 x x))).trans (((if_pos (own_gt (8591) (by decide) (by omega)) : (own_f2_183 x x) = (own_f2_192 x x))).trans (((if_neg (own_nlt (11264) (by decide) (by omega)) : (own_f2_192 x x) = (own_f2_201 x x))).trans (((if_pos (own_gt (12271) (by decide) (by omega)) : (own_f2_201 x x) = (own_f2_210 x x))).trans (((if_neg (own_nlt (12289) (by decide) (by omega)) : (own_f2_210 x x) = (own_f2_219 x x))).trans (((if_pos (own_gt (55295) (by decide) (by omega)) : (own_f2_219 x x) = (own_f2_227 x x))).trans (((if_neg (own_nlt (63744) (by decide) (by omega)) : (own_f2_227 x x) = (own_f2_235 x x))).trans (((if_pos (own_gt (64975) (by decide) (by omega)) : (own_f2_235 x x) = (own_f2_243 x x))).trans (((if_neg (own_nlt (65008) (by decide) (by omega)) : (own_f2_243 x x) = (own_f2_251 x x))).trans ((if_pos (own_gt (65533) (by decide) (by omega)) : (own_f2_251 x x) = (own_f2_261 x x)))))))))))))))))))))))))))))))))
theorem own_same (x : Int32) : own_f1_0 x = own_f2_0 x := by
  have h0 : (-2147483648 : Int) ≤ x.toInt := (rng32 x).1
  have hN : x.toInt < 2147483648 := (rng32 x).2
  by_cases h1 : x.toInt ≤ 57
  · exact own_same_0 (by omega) h1
  by_cases h2 : x.toInt ≤ 58
  · exact own_same_1 (by omega) h2
  by_cases h3 : x.toInt ≤ 64
  · exact own_same_2 (by omega) h3
  by_cases h4 : x.toInt ≤ 90
  · exact own_same_3 (by omega) h4
  by_cases h5 : x.toInt ≤ 94
  · exact own_same_4 (by omega) h5
  by_cases h6 : x.toInt ≤ 95
  · exact own_same_5 (by omega) h6
  by_cases h7 : x.toInt ≤ 96
  · exact own_same_6 (by omega) h7
  by_cases h8 : x.toInt ≤ 122
  · exact own_same_7 (by omega) h8
  by_cases h9 : x.toInt ≤ 191
  · exact own_same_8 (by omega) h9
  by_cases h10 : x.toInt ≤ 214
  · exact own_same_9 (by omega) h10
  by_cases h11 : x.toInt ≤ 215
  · exact own_same_10 (by omega) h11
  by_cases h12 : x.toInt ≤ 246
  · exact own_same_11 (by omega) h12
  by_cases h13 : x.toInt ≤ 247
  · exact own_same_12 (by omega) h13
  by_cases h14 : x.toInt ≤ 767
  · exact own_same_13 (by omega) h14
  by_cases h15 : x.toInt ≤ 879
  · exact own_same_14 (by omega) h15
  by_cases h16 : x.toInt ≤ 893
  · exact own_same_15 (by omega) h16
  by_cases h17 : x.toInt ≤ 894
  · exact own_same_16 (by omega) h17
  by_cases h18 : x.toInt ≤ 8191
  · exact own_same_17 (by omega) h18
  by_cases h19 : x.toInt ≤ 8203
  · exact own_same_18 (by omega) h19
  by_cases h20 : x.toInt ≤ 8205
  · exact own_same_19 (by omega) h20
  by_cases h21 : x.toInt ≤ 8303
  · exact own_same_20 (by omega) h21
  by_cases h22 : x.toInt ≤ 8591
  · exact own_same_21 (by omega) h22
  by_cases h23 : x.toInt ≤ 11263
  · exact own_same_22 (by omega) h23
  by_cases h24 : x.toInt ≤ 12271
  · exact own_same_23 (by omega) h24
  by_cases h25 : x.toInt ≤ 12288
  · exact own_same_24 (by omega) h25
  by_cases h26 : x.toInt ≤ 55295
  · exact own_same_25 (by omega) h26
  by_cases h27 : x.toInt ≤ 63743
  · exact own_same_26 (by omega) h27
  by_cases h28 : x.toInt ≤ 64975
  · exact own_same_27 (by omega) h28
  by_cases h29 : x.toInt ≤ 65007
  · exact own_same_28 (by omega) h29
  by_cases h30 : x.toInt ≤ 65533
  · exact own_same_29 (by omega) h30
  exact own_same_30 (by omega) (by omega)
theorem own_ef0 (x0 : Int32) : ∀ m, entryFrame m #[(.int x0)] maxLocals = mkF m 0 #[.val (.int x0), .unset] [] := fun m => by first | (simp [entryFrame, mkF, argsToLocals, Value.category, maxLocals]; done) | rfl
theorem own_pd0 : parseMethodDescriptor "(C)Z" = some ⟨[.char], some .boolean⟩ := by decide +kernel
def own_Q0 (n0 : Nat) (v : Option Value) (h : Heap) (L : List Loc) : Prop := v = some (.int 1) ∧ Fr n0 L
set_option maxRecDepth 65536 in
set_option maxHeartbeats 40000000 in
theorem own_law {l : Launch} {p : Program} {e : Env} {below : List Frame} {s : State} {m : MethodId} {meth : Method} {c : Code} {Z : State} {a0 args : Array Value} {T : State} {h0 : Heap} (X : Stand p l e room_1 s m args below meth c T [] 0 0) (C : own_Ctx p s m meth c Z a0 tables_1 x code maxLocals ret) (hh : T.heap = h0) (x0 : Int32) (n0 : Nat) (Z0 : n0 ≤ h0.size) :
    own_Fin p e below s (own_Q0 n0) room_1.cells room_1.slots (T.setTop (mkF m 0 #[.val (.int x0), .unset] [])) := by
  obtain ⟨hx, hby, hml, hZ, hown, hnm, hret, hlk, hw⟩ := id C
  show own_Fin p e below s (own_Q0 n0) room_1.cells room_1.slots (T.setTop (mkF m 0 #[.val (.int x0), .unset] []))
  refine own_go (fun t => XS.iloadN X.here hx rfl (hb hby at_0) rfl) ?_
  show own_Fin p e below s (own_Q0 n0) room_1.cells room_1.slots (T.setTop (mkF m 1 #[.val (.int x0), .unset] [(.int x0)]))
  refine own_go (fun t => X.ldcInt hx hown (mvT hZ (hw _ (List.mem_of_getElem? (i := 0) rfl))) (g := (mkF m 1 #[.val (.int x0), .unset] [(.int x0)])) rfl (hb hby at_1) t) ?_
  show own_Fin p e below s (own_Q0 n0) room_1.cells room_1.slots (T.setTop (mkF m 3 #[.val (.int x0), .unset] [(.int (65535 : Int32)), (.int x0)]))
  refine own_go (fun t => XS.iand X.here hx rfl (hb hby at_3) rfl) ?_
  show own_Fin p e below s (own_Q0 n0) room_1.cells room_1.slots (T.setTop (mkF m 4 #[.val (.int x0), .unset] [(.int (x0 &&& (65535 : Int32)))]))
  refine own_go (fun t => XS.i2c X.here hx rfl (hb hby at_4) rfl) ?_
  show own_Fin p e below s (own_Q0 n0) room_1.cells room_1.slots (T.setTop (mkF m 5 #[.val (.int x0), .unset] [(.int ((x0 &&& (65535 : Int32)).toUInt32.toUInt16.toUInt32.toInt32))]))
  refine own_go (fun t => XS.istoreN X.here hx rfl (hb hby at_5) rfl (l' := #[.val (.int x0), .val (.int ((x0 &&& (65535 : Int32)).toUInt32.toUInt16.toUInt32.toInt32))]) rfl) ?_
  show own_Fin p e below s (own_Q0 n0) room_1.cells room_1.slots (T.setTop (mkF m 6 #[.val (.int x0), .val (.int ((x0 &&& (65535 : Int32)).toUInt32.toUInt16.toUInt32.toInt32))] []))
  refine own_go (fun t => XS.iloadN X.here hx rfl (hb hby at_6) rfl) ?_
  show own_Fin p e below s (own_Q0 n0) room_1.cells room_1.slots (T.setTop (mkF m 7 #[.val (.int x0), .val (.int ((x0 &&& (65535 : Int32)).toUInt32.toUInt16.toUInt32.toInt32))] [(.int ((x0 &&& (65535 : Int32)).toUInt32.toUInt16.toUInt32.toInt32))]))
  obtain ⟨T1, X1, e1, st1⟩ := own_callP X hx hZ hh (y := (⟨"com/example/where/where/parsing/XmlChars", "isNameStartChar", "(C)Z"⟩ : MethodName)) hown (hw _ (List.mem_of_getElem? (i := 1) rfl)) (hw _ (List.mem_of_getElem? (i := 2) rfl)) (hw _ (List.mem_of_getElem? (i := 3) rfl)) (hw _ (List.mem_of_getElem? (i := 4) rfl)) (by decide) (argsL := [(.int ((x0 &&& (65535 : Int32)).toUInt32.toUInt16.toUInt32.toInt32))]) (rest := []) (own_c1 l Z a0 hw ((x0 &&& (65535 : Int32)).toUInt32.toUInt16.toUInt32.toInt32) _) (by decide) 0 (by decide) (by decide) (by decide) (g := (mkF m 7 #[.val (.int x0), .val (.int ((x0 &&& (65535 : Int32)).toUInt32.toUInt16.toUInt32.toInt32))] [(.int ((x0 &&& (65535 : Int32)).toUInt32.toUInt16.toUInt32.toInt32))])) rfl (by rw [hml]; rfl) (lenOf own_pd0 rfl) rfl (by show 2 * 0 + _ ≤ _; exact Nat.le_of_eq rfl) (hb hby at_7)
  refine own_go st1 ?_
  show own_Fin p e below s (own_Q0 n0) room_1.cells room_1.slots (T1.setTop (mkF m 10 #[.val (.int x0), .val (.int ((x0 &&& (65535 : Int32)).toUInt32.toUInt16.toUInt32.toInt32))] [(.int (own_f1_0 ((x0 &&& (65535 : Int32)).toUInt32.toUInt16.toUInt32.toInt32)))]))
  refine own_go (fun t => XS.iloadN X1.here hx rfl (hb hby at_10) rfl) ?_
  show own_Fin p e below s (own_Q0 n0) room_1.cells room_1.slots (T1.setTop (mkF m 11 #[.val (.int x0), .val (.int ((x0 &&& (65535 : Int32)).toUInt32.toUInt16.toUInt32.toInt32))] [(.int ((x0 &&& (65535 : Int32)).toUInt32.toUInt16.toUInt32.toInt32)), (.int (own_f1_0 ((x0 &&& (65535 : Int32)).toUInt32.toUInt16.toUInt32.toInt32)))]))
  obtain ⟨T2, X2, e2, st2⟩ := own_callP X1 hx hZ e1 (y := (⟨"com/example/where/where/parsing/XmlCharsIsNameStartCharPinLaw", "reference", "(C)Z"⟩ : MethodName)) hown (hw _ (List.mem_of_getElem? (i := 7) rfl)) (hw _ (List.mem_of_getElem? (i := 8) rfl)) (hw _ (List.mem_of_getElem? (i := 9) rfl)) (hw _ (List.mem_of_getElem? (i := 10) rfl)) (by decide) (argsL := [(.int ((x0 &&& (65535 : Int32)).toUInt32.toUInt16.toUInt32.toInt32))]) (rest := [(.int (own_f1_0 ((x0 &&& (65535 : Int32)).toUInt32.toUInt16.toUInt32.toInt32)))]) (own_c2 l Z a0 hw ((x0 &&& (65535 : Int32)).toUInt32.toUInt16.toUInt32.toInt32) _) (by decide) 1 (by decide) (by decide) (by decide) (g := (mkF m 11 #[.val (.int x0), .val (.int ((x0 &&& (65535 : Int32)).toUInt32.toUInt16.toUInt32.toInt32))] [(.int ((x0 &&& (65535 : Int32)).toUInt32.toUInt16.toUInt32.toInt32)), (.int (own_f1_0 ((x0 &&& (65535 : Int32)).toUInt32.toUInt16.toUInt32.toInt32)))])) rfl (by rw [hml]; rfl) (lenOf own_pd0 rfl) rfl (by show 2 * 0 + _ ≤ _; exact Nat.le_of_eq rfl) (hb hby at_11)
  refine own_go st2 ?_
  show own_Fin p e below s (own_Q0 n0) room_1.cells room_1.slots (T2.setTop (mkF m 14 #[.val (.int x0), .val (.int ((x0 &&& (65535 : Int32)).toUInt32.toUInt16.toUInt32.toInt32))] [(.int (own_f2_0 ((x0 &&& (65535 : Int32)).toUInt32.toUInt16.toUInt32.toInt32))), (.int (own_f1_0 ((x0 &&& (65535 : Int32)).toUInt32.toUInt16.toUInt32.toInt32)))]))
  refine own_go (fun t => XS.icmpNo X2.here hx rfl (hb hby at_14) rfl (teq (own_same ((x0 &&& (65535 : Int32)).toUInt32.toUInt16.toUInt32.toInt32))).2) ?_
  show own_Fin p e below s (own_Q0 n0) room_1.cells room_1.slots (T2.setTop (mkF m 17 #[.val (.int x0), .val (.int ((x0 &&& (65535 : Int32)).toUInt32.toUInt16.toUInt32.toInt32))] []))
  refine own_go (fun t => XS.iconst X2.here hx rfl (hb hby at_17)) ?_
  show own_Fin p e below s (own_Q0 n0) room_1.cells room_1.slots (T2.setTop (mkF m 18 #[.val (.int x0), .val (.int ((x0 &&& (65535 : Int32)).toUInt32.toUInt16.toUInt32.toInt32))] [(.int (1 : Int32))]))
  refine own_go (fun t => XS.goto X2.here hx rfl (pc0 := 18) (pc' := 22) rfl (hb hby at_18) (by decide) (by decide)) ?_
  show own_Fin p e below s (own_Q0 n0) room_1.cells room_1.slots (T2.setTop (mkF m 22 #[.val (.int x0), .val (.int ((x0 &&& (65535 : Int32)).toUInt32.toUInt16.toUInt32.toInt32))] [(.int (1 : Int32))]))
  exact own_ret X2 hlk hx (t := .boolean) hret rfl (Or.inl ⟨rfl, by simp, _, rfl⟩) (hb hby at_22) ⟨rfl, Fr.nil n0⟩ (by decide) (by decide)
theorem own_rm0 (l : Launch) (Z : State) (a0 : Array Value) (hw : ∀ d ∈ tables_1, d.before a0 Z = true) (ws : List Jvm.Cond) (x0 : Int32) (h0 : Heap) (n0 : Nat) (Z0 : n0 ≤ h0.size) : own_Met l Z x code maxLocals ret ws room_1 #[(.int x0)] h0 (own_Q0 n0) :=
  own_enter (plainFor_of_name own_pn1) (own_ef0 x0) hw (fun p e s m below meth c T X C hh => own_law X C hh x0 n0 Z0)
set_option maxRecDepth 65536 in
set_option maxHeartbeats 40000000 in
theorem own_comes {Post : Tables → Env → Array Value → State → Outcome → State → Prop} (hpost : ∀ tb e args s v u, (limb_1_1.after args s (.returned v) u = true ∧ limb_1_2.after args s (.returned v) u = true ∧ True) → FrameEnd s (.returned v) u (Jvm.fieldLocs frame_1_writes args s ++ Jvm.arrayLocs frame_1_arrays args s ++ Jvm.staticLocs frame_1_statics s) 0 0 → Post tb e args s (.returned v) u) :
    ArmFor flags0 classFile x code maxLocals ret World_1 tables_1 room_1 Calls_1 rest_1 Pre_1 Post := by
  intro l hfl _ _ p e ha hc hk s m args below hf hA hF happ hP
  obtain ⟨hcalls, hrest, hpre⟩ := hP
  obtain ⟨-, -, -, hnamed, -, -, -, hat⟩ := (Spec.applies_iff hf).mp happ
  obtain ⟨hg, hn⟩ := and_e (Cond.before_iff.mp (show (Jvm.Cond.and given_1 narrow_1).before args s = true from hpre))
  obtain ⟨g0, r0⟩ := and_e hg
  obtain ⟨w0, rfl⟩ : ∃ w0 : Value, args = #[w0] := by
    have hs : args.size = 1 := by simpa [Cond.value, given_1] using g0
    obtain ⟨L⟩ := args
    match L, hs with
    | [w0], _ => exact ⟨w0, rfl⟩
  have hw := fun d (hd : d ∈ tables_1) => atoms_spec (ws := Jvm.Cond.code x code maxLocals ret :: tables_1) hat d (List.mem_cons_of_mem _ hd)
  obtain ⟨i0, ei0⟩ := is_v r0
  obtain rfl : w0 = (.int i0) := Option.some.inj ei0
  obtain ⟨n, o, h1, h2, h3, _, L, rfl, ⟨rfl, N⟩, hq⟩ := own_rm0 l s _ hw tables_1 i0 s.heap s.heap.size (Nat.le_refl _) p e ha hc hk s m _ below hf ((Spec.applies_iff_loose hf).mp happ).1 ⟨rfl, State.Warmed39.refl s, rfl⟩ trivial
  refine ⟨n, _, h1, h2, h3, hpost _ _ _ _ _ _ ⟨Cond.after_iff.mpr rfl, Cond.after_iff.mpr (eq_i res_at (Term.int_eval (1)) rfl), trivial⟩ ⟨hq.1, hq.2.1, (hq.2.2.sift fun y hy => Or.inr (N y hy)).mono (by decide) (by decide)⟩⟩
theorem main_1_1 : Claimed_1_1 := own_comes fun _ _ _ _ _ _ h hF => ⟨h.1, hF⟩
theorem main_1_2 : Claimed_1_2 := own_comes fun _ _ _ _ _ _ h hF => ⟨h.2.1, hF⟩
end Jvm.Pilot.@@N@@
namespace Jvm.Pilot.@@N@@
open Jvm Jvm.ClassFile Sem Op Lib Jvm.Free Jvm.Stand Jvm.Pilot.@@N@@.Jvm.D
/-! MADE BY PROGRAM (witnessworld.py) out of the Statement's table words and the real class files: 9 classes; the members and pool entries that the words name. The judged class is class 1, her method 1. -/
namespace start1
open Jvm.ClassFile
def u (s : String) : CpInfo := .utf8 (stringToUtf16 s)
/-- a pool by its gaps: so many unusable entries, then the entry; so many at the end -/
def gap : Nat → List CpInfo → List CpInfo
  | 0, r => r
  | n + 1, r => .unusable :: gap n r
def poolList (es : List (Nat × CpInfo)) (last : Nat) : List CpInfo := es.foldr (fun e r => gap e.1 (e.2 :: r)) (gap last [])
def pool (es : List (Nat × CpInfo)) (last : Nat) : Array CpInfo := ⟨poolList es last⟩
def fileOf (pool : Array CpInfo) (this : Nat) (attrs : Array Attribute := #[]) (ms : Array MethodInfo := #[]) (fl : Nat := 33) (sup : Nat := 0) (ifs : Array Nat := #[]) (fds : Array FieldInfo := #[]) : ClassFile where
  minorVersion := 0
  majorVersion := 65
  constantPool := pool
  accessFlags := fl
  thisClass := this
  superClass := sup
  interfaces := ifs
  fields := fds
  methods := ms
  attributes := attrs
def plain (name : String) (sup : Option ClassId) : Class where
  name := name
  kind := .ordinary
  loader := none
  accessFlags := 33
  super := sup
  interfaces := #[]
  cf := none
  fields := #[]
  methods := #[]
  instanceTypes := #[]
  staticTypes := #[]
  resolved := #[]
  callSites := []
  init := .initialized
  statics := none
  mirror := none

def pool0 : Array CpInfo := pool [(5, u "<init>"), (0, u "()V"), (1, .class_ 10), (1, u "java/lang/Object")] 113

def k0m0 : Method := { name := "<init>", desc := "()V", sig := { parameters := [], returnType := none }, accessFlags := 1, code := none }
/-- java/lang/Object -/
def k0 : Class := { plain "java/lang/Object" none with
  accessFlags := 33
  interfaces := #[]
  cf := some (fileOf pool0 8 #[] #[{ accessFlags := 1, nameIndex := 5, descriptorIndex := 6, attributes := #[] }] 33 0 #[] #[])
  fields := #[]
  methods := #[k0m0]
  instanceTypes := #[]
  staticTypes := #[]
  resolved := Array.replicate 124 none
  statics := none }

def pool1 : Array CpInfo := pool [(2, .class_ 4), (1, u "java/lang/Object"), (0, u "<init>"), (0, u "()V"), (0, .integer 65535), (0, .methodref 9 10), (0, .class_ 11), (0, .nameAndType 12 13), (0, u "com/example/where/where/parsing/XmlChars"), (0, u "isNameStartChar"), (0, u "(C)Z"), (0, .methodref 15 16), (0, .class_ 17), (0, .nameAndType 18 13), (0, u "com/example/where/where/parsing/XmlCharsIsNameStartCharPinLaw"), (0, u "reference"), (0, .integer 55295), (0, .integer 63744), (0, .integer 64975), (0, .integer 65008), (0, .integer 65533), (2, u "law"), (0, u "(I)Z")] 3

def k1m0 : Method := { name := "<init>", desc := "()V", sig := { parameters := [], returnType := none }, accessFlags := 2, code := none }
def k1c1 : Code := { maxStack := 2, maxLocals := 2, code := code, exceptionTable := #[], attributes := #[] }
def k1m1 : Method := { name := "law", desc := "(I)Z", sig := { parameters := [.int], returnType := some .boolean }, accessFlags := 9, code := some k1c1 }
def k1c2 : Code := { maxStack := 2, maxLocals := 2, code := method_3_code, exceptionTable := #[], attributes := #[] }
def k1m2 : Method := { name := "reference", desc := "(C)Z", sig := { parameters := [.char], returnType := some .boolean }, accessFlags := 10, code := some k1c2 }
/-- com/example/where/where/parsing/XmlCharsIsNameStartCharPinLaw -/
def k1 : Class := { plain "com/example/where/where/parsing/XmlCharsIsNameStartCharPinLaw" (some 0) with
  accessFlags := 49
  interfaces := #[]
  cf := some (fileOf pool1 15 #[] #[{ accessFlags := 2, nameIndex := 5, descriptorIndex := 6, attributes := #[] }, { accessFlags := 9, nameIndex := 26, descriptorIndex := 27, attributes := #[] }, { accessFlags := 10, nameIndex := 18, descriptorIndex := 13, attributes := #[] }] 49 2 #[] #[])
  fields := #[]
  methods := #[k1m0, k1m1, k1m2]
  instanceTypes := #[]
  staticTypes := #[]
  resolved := Array.replicate 31 none
  statics := none }

def pool2 : Array CpInfo := pool [(2, .class_ 4), (1, u "java/lang/Object"), (0, u "<init>"), (0, u "()V"), (0, .integer 55295), (1, .integer 65533), (2, .integer 63744), (0, .integer 64975), (0, .integer 65008), (1, .class_ 18), (1, u "com/example/where/where/parsing/XmlChars"), (0, u "isNameStartChar"), (0, u "(C)Z")] 9

def k2m0 : Method := { name := "<init>", desc := "()V", sig := { parameters := [], returnType := none }, accessFlags := 2, code := none }
def k2c1 : Code := { maxStack := 2, maxLocals := 1, code := prog_114_method_4_code, exceptionTable := #[], attributes := #[] }
def k2m1 : Method := { name := "isNameStartChar", desc := "(C)Z", sig := { parameters := [.char], returnType := some .boolean }, accessFlags := 8, code := some k2c1 }
/-- com/example/where/where/parsing/XmlChars -/
def k2 : Class := { plain "com/example/where/where/parsing/XmlChars" (some 0) with
  accessFlags := 48
  interfaces := #[]
  cf := some (fileOf pool2 16 #[] #[{ accessFlags := 2, nameIndex := 5, descriptorIndex := 6, attributes := #[] }, { accessFlags := 8, nameIndex := 19, descriptorIndex := 20, attributes := #[] }] 48 2 #[] #[])
  fields := #[]
  methods := #[k2m0, k2m1]
  instanceTypes := #[]
  staticTypes := #[]
  resolved := Array.replicate 30 none
  statics := none }

def pool3 : Array CpInfo := pool [(1, u "java/lang/Cloneable"), (0, .class_ 1), (0, u "java/lang/Object"), (0, .class_ 3)] 3

/-- java/lang/Cloneable -/
def k3 : Class := { plain "java/lang/Cloneable" (some 0) with
  accessFlags := 1537
  interfaces := #[]
  cf := some (fileOf pool3 2 #[] #[] 1537 4 #[] #[])
  fields := #[]
  methods := #[]
  instanceTypes := #[]
  staticTypes := #[]
  resolved := Array.replicate 8 none
  statics := none }

def pool4 : Array CpInfo := pool [(1, u "java/io/Serializable"), (0, .class_ 1), (0, u "java/lang/Object"), (0, .class_ 3)] 3

/-- java/io/Serializable -/
def k4 : Class := { plain "java/io/Serializable" (some 0) with
  accessFlags := 1537
  interfaces := #[]
  cf := some (fileOf pool4 2 #[] #[] 1537 4 #[] #[])
  fields := #[]
  methods := #[]
  instanceTypes := #[]
  staticTypes := #[]
  resolved := Array.replicate 8 none
  statics := none }

/-- the primitive byte -/
def k5 : Class := { plain "byte" none with kind := .primitive 'B', accessFlags := 0x411 }
/-- [B -/
def k6 : Class := { plain "[B" (some 0) with kind := .array 5 .byte, interfaces := #[3, 4], accessFlags := 1041 }

/-- the primitive int -/
def k7 : Class := { plain "int" none with kind := .primitive 'I', accessFlags := 0x411 }
/-- [I -/
def k8 : Class := { plain "[I" (some 0) with kind := .array 7 .int, interfaces := #[3, 4], accessFlags := 1041 }

def heap : Heap := #[]
def classes : Array Class := #[k0, k1, k2, k3, k4, k5, k6, k7, k8]
def interned : List (Array UInt16 × Addr) := []
def slotsUsed : Nat := 0
def theMethod : MethodId := ⟨1, 1⟩
def args0 : Array Value := #[.int 65]
def aboutOver (below : List Frame) : State where
  vm := { classes := classes, interned := interned.toArray }
  heap := heap
  slotsUsed := slotsUsed
  threads := #[{ frames := .invoking theMethod args0 :: below }]
def below0 : List Frame := [.native { method := ⟨0, 0⟩, args := #[] }]
def about1 : State := aboutOver below0
def p0 : Program := .bare "" "" ""
def e0 : Env := launch0.env 0 0 0
theorem w_frames : about1.frames = Frame.invoking theMethod args0 :: below0 := rfl
set_option maxRecDepth 65536 in
theorem w_args : argsFit about1.vm theMethod args0 = true := by decide +kernel
set_option maxRecDepth 65536 in
theorem w_heap : heapFits about1 = true := by decide +kernel
set_option maxRecDepth 65536 in
theorem w_runnable : about1.curStatus? = some .runnable := by decide +kernel
set_option maxRecDepth 65536 in
theorem w_alone : about1.alone = true := by decide +kernel
set_option maxRecDepth 65536 in
theorem w_named : about1.methodNamed? x = some theMethod := by decide +kernel
set_option maxRecDepth 65536 in
theorem w_hears : about1.hears theMethod below0 = true := by decide +kernel
set_option maxRecDepth 65536 in
theorem w_ripe : about1.ripe theMethod args0 below0 = true := by decide +kernel
theorem w_running : about1.status = .running := rfl
set_option maxRecDepth 65536 in
theorem w_room : about1.hasRoom e0.platform room_1 = true :=
  launch0.hasRoom_least _ room_1 (by decide +kernel) (by decide +kernel) (by decide +kernel) (by decide +kernel) (by decide +kernel) (by decide +kernel)
theorem allAtoms_all (ts : List Jvm.Cond) (a : Array Jvm.Value) (st : Jvm.State) : (allAtoms ts).before a st = ts.all (fun c => c.before a st) := by
  induction ts with
  | nil => rfl
  | cons c t ih =>
    show (Jvm.Cond.and c (allAtoms t)).before a st = _
    rw [Jvm.Cond.before_and, ih, List.all_cons]
def words1 : List Jvm.Cond := Jvm.Cond.code x code maxLocals ret :: tables_1
/-- a 'code' word, met by the world's own term for the bytes: nothing is compared byte by byte -/
theorem code_word {y : MethodName} {bytes : ByteArray} {mx : Nat} {rt : Option FieldType} {a : Array Value} {s : State} {m : MethodId} {meth : Method} {c : Code} (h1 : s.methodNamed? y = some m) (h2 : s.vm.method? m = some meth) (h3 : meth.code = some c) (h4 : c.code = bytes)
    (h5 : (c.maxLocals == mx && c.exceptionTable.isEmpty && decide (c.maxStack ≤ mostOperands) && decide (meth.sig.returnType = rt) && !meth.locks && decide (parseMethodDescriptor y.desc = some meth.sig)) = true) : (Jvm.Cond.code y bytes mx rt).before a s = true := by
  simp only [Bool.and_eq_true, beq_iff_eq, Bool.not_eq_true', decide_eq_true_eq] at h5
  obtain ⟨⟨⟨⟨⟨g1, g2⟩, g3⟩, g4⟩, g5⟩, g6⟩ := h5
  simp [Cond.before, Cond.holds, Cond.value, h1, h2, h3, h4, g1, g2, g3, g4, g5, g6]
def isCode : Jvm.Cond → Bool
  | .code _ _ _ _ => true
  | _ => false
theorem all_split {L : List Jvm.Cond} {P : Jvm.Cond → Bool} (h1 : L.all (fun c => isCode c || P c) = true) (h2 : ∀ c ∈ L.filter isCode, P c = true) : L.all P = true := by
  refine List.all_eq_true.mpr fun c hc => ?_
  have h := List.all_eq_true.mp h1 c hc
  rcases Bool.eq_false_or_eq_true (isCode c) with hi | hi
  · exact h2 c (List.mem_filter.mpr ⟨hc, hi⟩)
  · simpa [hi] using h
set_option maxRecDepth 65536 in
theorem w_c0 : (Jvm.Cond.code x code maxLocals ret).before args0 about1 = true := code_word (m := ⟨1, 1⟩) (meth := k1m1) (c := k1c1) (by decide +kernel) rfl rfl rfl (by decide +kernel)
set_option maxRecDepth 65536 in
theorem w_c1 : (Jvm.Cond.code ({ cls := "com/example/where/where/parsing/XmlChars", name := "isNameStartChar", desc := "(C)Z" } : Jvm.MethodName) prog_114_method_4_code (1 : Nat) (Option.some Jvm.ClassFile.FieldType.boolean)).before args0 about1 = true := code_word (m := ⟨2, 1⟩) (meth := k2m1) (c := k2c1) (by decide +kernel) rfl rfl rfl (by decide +kernel)
set_option maxRecDepth 65536 in
theorem w_c2 : (Jvm.Cond.code ({ cls := "com/example/where/where/parsing/XmlCharsIsNameStartCharPinLaw", name := "reference", desc := "(C)Z" } : Jvm.MethodName) method_3_code (2 : Nat) (Option.some Jvm.ClassFile.FieldType.boolean)).before args0 about1 = true := code_word (m := ⟨1, 2⟩) (meth := k1m2) (c := k1c2) (by decide +kernel) rfl rfl rfl (by decide +kernel)
def codes1 : List Jvm.Cond := [Jvm.Cond.code x code maxLocals ret, Jvm.Cond.code ({ cls := "com/example/where/where/parsing/XmlChars", name := "isNameStartChar", desc := "(C)Z" } : Jvm.MethodName) prog_114_method_4_code (1 : Nat) (Option.some Jvm.ClassFile.FieldType.boolean), Jvm.Cond.code ({ cls := "com/example/where/where/parsing/XmlCharsIsNameStartCharPinLaw", name := "reference", desc := "(C)Z" } : Jvm.MethodName) method_3_code (2 : Nat) (Option.some Jvm.ClassFile.FieldType.boolean)]
set_option maxRecDepth 65536 in
theorem codes_eq : words1.filter isCode = codes1 := rfl
theorem w_codes : ∀ c ∈ words1.filter isCode, c.before args0 about1 = true := by
  rw [codes_eq]
  intro c hc
  simp only [codes1, List.mem_cons, List.not_mem_nil, or_false] at hc
  rcases hc with rfl | rfl | rfl
  · exact w_c0
  · exact w_c1
  · exact w_c2
set_option maxRecDepth 65536 in
theorem w_t1 : words1.all (fun c => isCode c || c.before args0 about1) = true := by decide +kernel
theorem w_tables : (allAtoms (Jvm.Cond.code x code maxLocals ret :: tables_1)).before args0 about1 = true := by
  rw [allAtoms_all]
  show words1.all (fun c => c.before args0 about1) = true
  refine all_split ?_ w_codes
  rw [w_t1]
set_option maxRecDepth 65536 in
theorem w_case : (Jvm.Cond.and given_1 narrow_1).before args0 about1 = true := by decide +kernel
theorem w_applies : (headSpec (Jvm.Cond.code x code maxLocals ret :: tables_1) room_1).applies x e0.platform about1 = true :=
  (Spec.applies_iff w_frames).mpr ⟨w_running, w_runnable, w_alone, w_named, w_hears, w_ripe, w_room, w_tables⟩
theorem atStart : AtStart classFile x code maxLocals ret World_1 tables_1 room_1 Calls_1 rest_1 Pre_1 launch0 p0 e0 about1 theMethod args0 below0 :=
  ⟨lists_1, trivial, launch0.admits_env _ _ _, launch0.least_env, fairChoices_fair.cas, fairChoices_fair.clock, w_frames, w_args, w_heap, w_applies, trivial, trivial, w_case⟩
end start1
theorem witness_1 : WitnessClaimed_1 := ⟨start1.p0, start1.e0, start1.about1, start1.theMethod, start1.args0, start1.below0, start1.atStart⟩
end Jvm.Pilot.@@N@@
