import JvmDerived
import JvmDerived.Pilot.@@N@@Statement
import JvmDerived.Pilot.@@N@@Code
set_option linter.unusedVariables false
set_option linter.unusedSimpArgs false
namespace Jvm.RoadKit
open Sem ClassFile Op Lib Jvm.Stand Jvm.Free Jvm.LawKit
section New
variable {p : Program} {l : Launch} {e : Env} {R : Room} {s : State} {m : MethodId} {args : Array Value} {below : List Frame} {meth : Method} {c : Code} {T : State} {locs : List Loc} {cells slots : Nat}
theorem retI (X : Stand p l e R s m args below meth c T locs cells slots) (hx : p.tables.exec = Jvm.exec) {pc : Nat} {Ls : Array Slot} {z : Int32} {rest : List Value} (hret : meth.sig.returnType = some .int) (hd : decode c.code pc = .ok (.ireturn, 1)) {fs : List Frame}
    (hl : ∀ (f : JFrame) (acts : List Action), f.method = m → f.locked = none → f.entered = [] → (doReturn e (T.setTop f) acts (some (.int z))).1 = T.setFrames fs) : Steps p.tables e below (T.setTop (mkF m pc Ls (.int z :: rest))) (T.setFrames fs) := by
  have hm' : T.vm.method? m = some meth := X.method'
  have hn : narrow .int (.int z) = .int z := rfl
  show Steps p.tables e below (T.setTop { method := m, pc := pc, locals := Ls, stack := _ :: rest, locked := none }) _
  jvm_step X.here [X.here.top, hx, hd, hm', hret, hn]
  first | (intro acts; rw [hl _ acts rfl rfl rfl]) | rw [hl _ _ rfl rfl rfl]
  exact Steps.refl _
end New
end Jvm.RoadKit
namespace Jvm.Pilot.@@N@@
open Jvm Jvm.ClassFile Sem Op Lib Jvm.Free Jvm.Stand Jvm.LawKit Jvm.RoadKit Bundle Jvm.Pilot.@@N@@.Jvm.D
section Own
variable {p : Program} {l : Launch} {e : Env} {R : Room} {s : State} {m : MethodId} {args : Array Value} {below : List Frame} {meth : Method} {c : Code} {T : State} {locs : List Loc} {cells slots : Nat} {Q : Option Value → Heap → List Loc → Prop} {nc ns : Nat}
/-- from here the run comes to an end of which Q speaks -/
def own_Dn (p : Program) (e : Env) (below : List Frame) (s : State) (Q : Option Value → Heap → List Loc → Prop) (nc ns : Nat) (q : State) : Prop :=
  ∃ t o, Steps p.tables e below q t ∧ t.status = .running ∧ Ended t below o ∧ ∃ v L, o = .returned v ∧ Q v t.heap L ∧ FrameEnd s o t L nc ns
theorem own_st {q q' : State} (h : ∀ t, Steps p.tables e below q' t → Steps p.tables e below q t) (d : own_Dn p e below s Q nc ns q') : own_Dn p e below s Q nc ns q := by
  obtain ⟨t, o, h1, r⟩ := d
  exact ⟨t, o, h _ h1, r⟩
/-- a body's contract -/
def own_Met (l : Launch) (Z : State) (y : MethodName) (ws : List Jvm.Cond) (bytes : ByteArray) (maxL : Nat) (ret : Option FieldType) (rm : Room) (as : Array Value) (h0 : Heap) (Q : Option Value → Heap → List Loc → Prop) : Prop :=
  MetFree l y (head1 (Jvm.Cond.code y bytes maxL ret :: ws) rm) (fun a U => a = as ∧ Z.Warmed39 U.vm ∧ U.heap = h0) (fun _ _ _ _ _ => True) (fun _ U o U' => ∃ v L, o = .returned v ∧ Q v U'.heap L ∧ FrameEnd U o U' L rm.cells rm.slots)
theorem own_body {Z : State} {y : MethodName} {ws : List Jvm.Cond} {bytes : ByteArray} {maxL : Nat} {ret : Option FieldType} {rm : Room} {as : Array Value} {h0 : Heap} (hp : plainFor y = true)
    (body : ∀ p e s m below meth c s₁, p.tables.exec = Jvm.exec → c.code = bytes → c.maxLocals = maxL → s.vm.findClass y.cls = some m.cls → meth.name = y.name → meth.sig.returnType = ret → meth.locks = false → Z.Warmed39 s.vm → Stand p l e rm s m as below meth c s₁ [] 0 0 → s₁.heap = h0 → own_Dn p e below s Q rm.cells rm.slots (s₁.setTop (entryFrame m as maxL))) :
    own_Met l Z y ws bytes maxL ret rm as h0 Q := by
  refine MetFree.of_bodySF hp hisR ?_
  intro p e s m args below meth c s₁ Bd hml0 hP hK
  obtain ⟨rfl, hZ, hh⟩ := hP
  exact body p e s m below meth c s₁ Bd.exec Bd.bytes hml0 (findClass_of_methodNamed Bd.named) (name_of_methodNamed Bd.named Bd.method).1 Bd.returns Bd.notSynchronized hZ (Stand.of_body Bd) (by rw [← hh, Bd.state]; rfl)
theorem own_entry {m : MethodId} {as : Array Value} {maxL : Nat} {g : JFrame} (q : entryFrame m as maxL = g) (d : own_Dn p e below s Q nc ns (T.setTop g)) : own_Dn p e below s Q nc ns (T.setTop (entryFrame m as maxL)) := q ▸ d
theorem own_retI (X : Stand p l e R s m args below meth c T locs cells slots) (hx : p.tables.exec = Jvm.exec) (hlk : meth.locks = false) {pc : Nat} {Ls : Array Slot} {z : Int32} {rest : List Value} (hret : meth.sig.returnType = some .int) (hd : decode c.code pc = .ok (.ireturn, 1)) {h : Heap} (eT : T.heap = h) (hQ : Q (some (.int z)) h locs) (hc : cells ≤ nc) (hs : slots ≤ ns) :
    own_Dn p e below s Q nc ns (T.setTop (mkF m pc Ls (.int z :: rest))) := by
  obtain ⟨fs, hr, hrun, hended, hW, hsame⟩ := X.leave (v := some (.int z)) (fun h => by rw [hret] at h; cases h) hlk
  subst eT
  exact ⟨_, _, retI X hx hret hd hr, hrun, hended, _, _, rfl, hQ, ⟨_, rfl⟩, hW, hsame.mono hc hs⟩
theorem own_retN (X : Stand p l e R s m args below meth c T locs cells slots) (hx : p.tables.exec = Jvm.exec) (hlk : meth.locks = false) {t : FieldType} {pc : Nat} {Ls : Array Slot} {z : Int32} {rest : List Value} (hret : meth.sig.returnType = some t) (ht : t = .boolean ∨ t = .byte ∨ t = .char ∨ t = .short) (hd : decode c.code pc = .ok (.ireturn, 1)) {h : Heap} (eT : T.heap = h) (hQ : Q (some (.int (nar t z))) h locs) (hc : cells ≤ nc) (hs : slots ≤ ns) :
    own_Dn p e below s Q nc ns (T.setTop (mkF m pc Ls (.int z :: rest))) := by
  obtain ⟨fs, hr, hrun, hended, hW, hsame⟩ := X.leave (v := some (.int (nar t z))) (fun h => by rw [hret] at h; cases h) hlk
  subst eT
  exact ⟨_, _, retN X hx hret ht hd hr, hrun, hended, _, _, rfl, hQ, ⟨_, rfl⟩, hW, hsame.mono hc hs⟩
theorem own_retV (X : Stand p l e R s m args below meth c T locs cells slots) (hx : p.tables.exec = Jvm.exec) (hlk : meth.locks = false) {pc : Nat} {Ls : Array Slot} (hret : meth.sig.returnType = none) (hd : decode c.code pc = .ok (.return_, 1)) {h : Heap} (eT : T.heap = h) (hQ : Q none h locs) (hc : cells ≤ nc) (hs : slots ≤ ns) :
    own_Dn p e below s Q nc ns (T.setTop (mkF m pc Ls [])) := by
  obtain ⟨fs, hr, hrun, hended, hW, hsame⟩ := X.leave (v := none) (fun _ => rfl) hlk
  subst eT
  exact ⟨_, _, X.returnOut hx hret hd hr, hrun, hended, _, _, rfl, hQ, ⟨_, rfl⟩, hW, hsame.mono hc hs⟩
theorem own_retO (X : Stand p l e R s m args below meth c T locs cells slots) (hx : p.tables.exec = Jvm.exec) (hlk : meth.locks = false) {t : FieldType} {w : Value} {i : Instr} {pc : Nat} {Ls : Array Slot} {rest : List Value} (hret : meth.sig.returnType = some t) (hn : narrow t w = w)
    (hi : (i = .ireturn ∧ (t = .int ∨ t = .boolean ∨ t = .byte ∨ t = .char ∨ t = .short) ∧ ∃ z, w = .int z) ∨ (i = .lreturn ∧ t = .long ∧ ∃ z, w = .long z) ∨ (i = .dreturn ∧ t = .double ∧ ∃ z, w = .double z) ∨ (i = .freturn ∧ t = .float ∧ ∃ z, w = .float z) ∨ (i = .areturn ∧ t.isReference = true ∧ w.isRef = true))
    (hd : decode c.code pc = .ok (i, 1)) {h : Heap} (eT : T.heap = h) (hQ : Q (some w) h locs) (hc : cells ≤ nc) (hs : slots ≤ ns) : own_Dn p e below s Q nc ns (T.setTop (mkF m pc Ls (w :: rest))) := by
  obtain ⟨fs, hr, hrun, hended, hW, hsame⟩ := X.leave (v := some w) (fun h => by rw [hret] at h; cases h) hlk
  subst eT
  exact ⟨_, _, retOut X hx hret hn hi hd hr, hrun, hended, _, _, rfl, hQ, ⟨_, rfl⟩, hW, hsame.mono hc hs⟩
theorem own_mono {cells' slots' : Nat} (X : Stand p l e R s m args below meth c T locs cells slots) (h1 : cells ≤ cells') (h2 : slots ≤ slots') : Stand p l e R s m args below meth c T locs cells' slots' :=
  ⟨X.admits, X.cas, X.clock, X.frames, X.room, X.hears, X.method, X.code, X.here, X.tail, X.warmed, X.limits, X.bytes, X.same.mono h1 h2⟩
theorem own_callS {Z : State} {a0 : Array Value} {h : Heap} {own : String} {index : Nat} {y : MethodName} {bytes : ByteArray} {maxL : Nat} {ret : Option FieldType} {rm : Room} {as : Array Value} {Q' : Option Value → Heap → List Loc → Prop}
    (X : Stand p l e R s m args below meth c T locs cells slots) (hx : p.tables.exec = Jvm.exec) (hZ : Z.Warmed39 s.vm) (hown : s.vm.findClass own = some m.cls)
    (w1 : (Cond.methodLink own index y).before a0 Z = true) (w2 : (Cond.static y).before a0 Z = true) (w3 : (Cond.initialized y.cls).before a0 Z = true) (w4 : (Cond.code y bytes maxL ret).before a0 Z = true) (hy : y.cls ≠ "java/lang/invoke/MethodHandle" ∧ y.cls ≠ "java/lang/invoke/VarHandle")
    (M : own_Met l Z y [] bytes maxL ret rm as h Q') (eT : T.heap = h) {W : Nat} (hf : rm.frames + 1 ≤ R.frames) (hl : W + (maxL + 11) + rm.locals ≤ R.locals) (hc : cells + rm.cells ≤ R.cells) (hs : slots + rm.slots ≤ R.slots)
    {g : JFrame} (hg : g.method = m) (hsize : g.locals.size = c.maxLocals) {argsL rest : List Value} (has : argsL.toArray = as) (hlen : ∀ sig, parseMethodDescriptor y.desc = some sig → argsL.length = sig.parameters.length)
    (hstack : g.stack = argsL.reverse ++ rest) (hW : 2 * g.monitorRoom + (rest.map fun v => v.category).sum ≤ W) (hd : decode c.code g.pc = .ok (.invokestatic index, 3))
    (k : ∀ v T' L, Q' v T'.heap L → Stand p l e R s m args below meth c T' (locs ++ L) (cells + rm.cells) (slots + rm.slots) → own_Dn p e below s Q nc ns (T'.setTop { g with pc := g.pc + 3, stack := v.toList ++ rest })) :
    own_Dn p e below s Q nc ns (T.setTop g) := by
  obtain ⟨v, _, ⟨T', L', k', n'⟩, -, X', ⟨Lc, hQ, l1, y1, z1⟩, st⟩ := Jvm.LawKit.callS X hx hown (mvT hZ w1) (mvT hZ w2) (mvT hZ w3) (mvT hZ w4) hy (backOf (W := W) M hZ w4 w3 hf hl) hg hsize (argsL := argsL) (rest := rest) hlen hstack hW hd (fun _ _ => ⟨has, eT, hc, hs⟩)
  dsimp only [Pt.U, Pt.locs, Pt.cells, Pt.slots] at X' l1 y1 z1 st hQ
  subst l1 y1 z1
  exact own_st (fun t q => st t q) (k v T' Lc hQ X')
theorem own_callI {Z : State} {a0 : Array Value} {h : Heap} {own : String} {index : Nat} {y : MethodName} {bytes : ByteArray} {maxL : Nat} {rm : Room} {as : Array Value} {Q' : Option Value → Heap → List Loc → Prop}
    (X : Stand p l e R s m args below meth c T locs cells slots) (hx : p.tables.exec = Jvm.exec) (hZ : Z.Warmed39 s.vm) (hown : s.vm.findClass own = some m.cls) (hy1 : y.name = "<init>")
    (w1 : (Cond.methodLink own index y).before a0 Z = true) (w2 : (Cond.instanceMethod y).before a0 Z = true) (w3 : (Cond.initialized y.cls).before a0 Z = true) (w4 : (Cond.code y bytes maxL none).before a0 Z = true) (hy : y.cls ≠ "java/lang/invoke/MethodHandle" ∧ y.cls ≠ "java/lang/invoke/VarHandle")
    (M : own_Met l Z y [] bytes maxL none rm as h Q') (eT : T.heap = h) {W : Nat} (hf : rm.frames + 1 ≤ R.frames) (hl : W + (maxL + 11) + rm.locals ≤ R.locals) (hc : cells + rm.cells ≤ R.cells) (hs : slots + rm.slots ≤ R.slots)
    {g : JFrame} (hg : g.method = m) (hsize : g.locals.size = c.maxLocals) {a : Addr} {argsL rest : List Value} (has : (.ref a :: argsL).toArray = as) (hlen : ∀ sig, parseMethodDescriptor y.desc = some sig → argsL.length = sig.parameters.length)
    (hstack : g.stack = argsL.reverse ++ .ref a :: rest) (hW : 2 * g.monitorRoom + (rest.map fun v => v.category).sum ≤ W) (hd : decode c.code g.pc = .ok (.invokespecial index, 3))
    (k : ∀ v T' L, Q' v T'.heap L → Stand p l e R s m args below meth c T' (locs ++ L) (cells + rm.cells) (slots + rm.slots) → own_Dn p e below s Q nc ns (T'.setTop { g with pc := g.pc + 3, stack := v.toList ++ rest })) :
    own_Dn p e below s Q nc ns (T.setTop g) := by
  obtain ⟨v, _, ⟨T', L', k', n'⟩, -, X', ⟨Lc, hQ, l1, y1, z1⟩, st⟩ := X.specialBack hx hy1 hown (mvT hZ w1) (mvT hZ w2) (mvT hZ w4) hy (backOf (W := W) M hZ w4 w3 hf hl) hg hsize (Steps.refl _) (a := a) (argsL := argsL) (rest := rest) hlen hstack hW hd (fun _ _ => ⟨has, eT, hc, hs⟩)
  dsimp only [Pt.U, Pt.locs, Pt.cells, Pt.slots] at X' l1 y1 z1 st hQ
  subst l1 y1 z1
  exact own_st (fun t q => st.trans q) (k v T' Lc hQ X')
theorem own_callV {Z : State} {a0 : Array Value} {h : Heap} {own C : String} {index : Nat} {y : MethodName} {bytes : ByteArray} {maxL : Nat} {ret : Option FieldType} {rm : Room} {as : Array Value} {Q' : Option Value → Heap → List Loc → Prop}
    (X : Stand p l e R s m args below meth c T locs cells slots) (hx : p.tables.exec = Jvm.exec) (hZ : Z.Warmed39 s.vm) (hown : s.vm.findClass own = some m.cls)
    (w1 : (Cond.methodLink own index y).before a0 Z = true) (w2 : (Cond.declares y).before a0 Z = true) (w5 : (Cond.selects C y y).before a0 Z = true) (w6 : (Cond.instanceMethod y).before a0 Z = true) (w3 : (Cond.initialized y.cls).before a0 Z = true) (w4 : (Cond.code y bytes maxL ret).before a0 Z = true) (hy : y.cls ≠ "java/lang/invoke/MethodHandle" ∧ y.cls ≠ "java/lang/invoke/VarHandle")
    (M : own_Met l Z y [] bytes maxL ret rm as h Q') (eT : T.heap = h) {b : Addr} (E : Exa Z h b C) {W : Nat} (hf : rm.frames + 1 ≤ R.frames) (hl : W + (maxL + 11) + rm.locals ≤ R.locals) (hc : cells + rm.cells ≤ R.cells) (hs : slots + rm.slots ≤ R.slots)
    {g : JFrame} (hg : g.method = m) (hsize : g.locals.size = c.maxLocals) {argsL rest : List Value} (has : (.ref b :: argsL).toArray = as) (hlen : ∀ sig, parseMethodDescriptor y.desc = some sig → argsL.length = sig.parameters.length)
    (hstack : g.stack = argsL.reverse ++ .ref b :: rest) (hW : 2 * g.monitorRoom + (rest.map fun v => v.category).sum ≤ W) (hd : decode c.code g.pc = .ok (.invokevirtual index, 3))
    (k : ∀ v T' L, Q' v T'.heap L → Stand p l e R s m args below meth c T' (locs ++ L) (cells + rm.cells) (slots + rm.slots) → own_Dn p e below s Q nc ns (T'.setTop { g with pc := g.pc + 3, stack := v.toList ++ rest })) :
    own_Dn p e below s Q nc ns (T.setTop g) := by
  obtain ⟨cq, kq, qa, qb, qc⟩ := isOf hZ eT E
  obtain ⟨v, _, ⟨T', L', k', n'⟩, -, X', ⟨Lc, hQ, l1, y1, z1⟩, st⟩ := X.virtualBack hx hown (mvT hZ w1) (mvT hZ w2) (notFace_of_selects (args := #[]) (mvT hZ w5)) (mvT hZ w5) (mvT hZ w6) hy (backOf (W := W) M hZ w4 w3 hf hl) qa qc hg hsize (Steps.refl _) (argsL := argsL) (rest := rest) hlen hstack hW hd (fun _ _ => ⟨has, eT, hc, hs⟩)
  dsimp only [Pt.U, Pt.locs, Pt.cells, Pt.slots] at X' l1 y1 z1 st hQ
  subst l1 y1 z1
  exact own_st (fun t q => st.trans q) (k v T' Lc hQ X')
theorem own_callF {Z : State} {a0 : Array Value} {h : Heap} {own C : String} {index count : Nat} {xi y : MethodName} {bytes : ByteArray} {maxL : Nat} {ret : Option FieldType} {rm : Room} {as : Array Value} {Q' : Option Value → Heap → List Loc → Prop}
    (X : Stand p l e R s m args below meth c T locs cells slots) (hx : p.tables.exec = Jvm.exec) (hZ : Z.Warmed39 s.vm) (hown : s.vm.findClass own = some m.cls)
    (w1 : (Cond.methodLink own index xi).before a0 Z = true) (w2 : (Cond.declares xi).before a0 Z = true) (wf : (Cond.interfaceMethod xi.cls xi.cls xi.name xi.desc).before a0 Z = true) (w5 : (Cond.selects C xi y).before a0 Z = true) (w6 : (Cond.instanceMethod y).before a0 Z = true)
    (wp : (Cond.publicMethod y).before a0 Z = true) (wu : (Cond.unhidden C xi.name xi.desc).before a0 Z = true) (wk : (Cond.castable C xi.cls).before a0 Z = true) (w3 : (Cond.initialized y.cls).before a0 Z = true) (w4 : (Cond.code y bytes maxL ret).before a0 Z = true) (hy : xi.cls ≠ "java/lang/invoke/MethodHandle" ∧ xi.cls ≠ "java/lang/invoke/VarHandle")
    (M : own_Met l Z y [] bytes maxL ret rm as h Q') (eT : T.heap = h) {b : Addr} (E : Exa Z h b C) {W : Nat} (hf : rm.frames + 1 ≤ R.frames) (hl : W + (maxL + 11) + rm.locals ≤ R.locals) (hc : cells + rm.cells ≤ R.cells) (hs : slots + rm.slots ≤ R.slots)
    {g : JFrame} (hg : g.method = m) (hsize : g.locals.size = c.maxLocals) {argsL rest : List Value} (has : (.ref b :: argsL).toArray = as) (hlen : ∀ sig, parseMethodDescriptor xi.desc = some sig → argsL.length = sig.parameters.length)
    (hstack : g.stack = argsL.reverse ++ .ref b :: rest) (hW : 2 * g.monitorRoom + (rest.map fun v => v.category).sum ≤ W) (hd : decode c.code g.pc = .ok (.invokeinterface index count, 5))
    (k : ∀ v T' L, Q' v T'.heap L → Stand p l e R s m args below meth c T' (locs ++ L) (cells + rm.cells) (slots + rm.slots) → own_Dn p e below s Q nc ns (T'.setTop { g with pc := g.pc + 5, stack := v.toList ++ rest })) :
    own_Dn p e below s Q nc ns (T.setTop g) := by
  obtain ⟨cq, kq, qa, qb, qc⟩ := isOf hZ eT E
  have hfc : ((Cond.interfaceMethod xi.cls xi.cls xi.name xi.desc).onTables && (Cond.interfaceMethod xi.cls xi.cls xi.name xi.desc).keepsFace) = true := by simp [Cond.onTables, Cond.keepsFace, Cond.keeps, Cond.steady, Cond.faceAtom, hy.1, hy.2]
  obtain ⟨v, _, ⟨T', L', k', n'⟩, -, X', ⟨Lc, hQ, l1, y1, z1⟩, st⟩ := X.interfaceBack hx hown (mvT hZ w1) (mvT hZ w2) (mvT hZ wf hfc) (mvT hZ w5) (mvT hZ w6) (mvT hZ wp) (mvT hZ wu) (mvT hZ wk) hy (backOf (W := W) M hZ w4 w3 hf hl) qa qb qc hg hsize (Steps.refl _) (argsL := argsL) (rest := rest) hlen hstack hW hd (fun _ _ => ⟨has, eT, hc, hs⟩)
  dsimp only [Pt.U, Pt.locs, Pt.cells, Pt.slots] at X' l1 y1 z1 st hQ
  subst l1 y1 z1
  exact own_st (fun t q => st.trans q) (k v T' Lc hQ X')
theorem own_lrem {tb : Tables} [Ours tb] {e : Env} {below : List Frame} {T target : State} {m : MethodId} {c : Code} {g : JFrame} (h : At T m c below) (hx : tb.exec = Jvm.exec) (hg : g.method = m) {x y : Int64} {rest : List Value} (hd : decode c.code g.pc = .ok (.lrem, 1)) (hs : g.stack = .long y :: .long x :: rest) (hy : y ≠ 0)
    (hr : Steps tb e below (T.setTop { g with pc := g.pc + 1, stack := .long (x % y) :: rest }) target) : Steps tb e below (T.setTop g) target :=
  Jvm.Free.XT.lrem h hx hg hd hs hy (by rw [lrem_mod]; exact hr)
theorem own_ltT {x y : Int32} (h : x < y) : x.toInt < y.toInt := Int32.lt_iff_toInt_lt.mp h
theorem own_ltF {x y : Int32} (h : ¬ x < y) : y.toInt ≤ x.toInt := by rw [Int32.lt_iff_toInt_lt] at h; omega
theorem own_eqT {x y : Int32} (h : x = y) : x.toInt = y.toInt := congrArg _ h
theorem own_eqF {x y : Int32} (h : ¬ x = y) : ¬ x.toInt = y.toInt := fun q => h (Int32.toInt_inj.mp q)
theorem own_lt {x y : Int32} (h : x.toInt < y.toInt) : x < y := Int32.lt_iff_toInt_lt.mpr h
theorem own_nlt {x y : Int32} (h : y.toInt ≤ x.toInt) : ¬ x < y := by rw [Int32.lt_iff_toInt_lt]; omega
theorem own_eq {x y : Int32} (h : x.toInt = y.toInt) : x = y := Int32.toInt_inj.mp h
theorem own_ne {x y : Int32} (h : ¬ x.toInt = y.toInt) : ¬ x = y := fun q => h (congrArg _ q)
theorem own_cat1 {v : Value} (h : v.isRef = true) : v.category = 1 := by cases v <;> simp_all [Value.isRef, Value.category]
theorem own_dupX2 {tb : Tables} [Ours tb] {e : Env} {below : List Frame} {T target : State} {m : MethodId} {c : Code} {g : JFrame} (h : At T m c below) (hx : tb.exec = Jvm.exec) (hg : g.method = m) {x y z : Value} {rest : List Value} (hd : decode c.code g.pc = .ok (.dup_x2, 1)) (hs : g.stack = x :: y :: z :: rest) (hc : x.category = 1) (hc' : y.category = 1) (hc'' : z.category = 1)
    (hr : Steps tb e below (T.setTop { g with pc := g.pc + 1, stack := x :: y :: z :: x :: rest }) target) : Steps tb e below (T.setTop g) target := by
  subst hg
  jvm_step h [h.top, hx, hd, hs, hc, hc', hc'']
  exact hr
end Own
theorem pn_0 : plainName "java/lang/Record" = true := by first | (simp [plainName, overriddenIn]; done) | decide +kernel
theorem ef_rmR (m : MethodId) (x0 : Addr) : entryFrame m #[(.ref x0)] 1 = mkF m 0 #[.val (.ref x0)] [] := by first | (simp [entryFrame, mkF, argsToLocals, Value.category]; done) | rfl
theorem d_rmR_0 : decode jdk_30_method_1_code 0 = .ok (.aload_n 0, 1) := by decide +kernel
theorem d_rmR_1 : decode jdk_30_method_1_code 1 = .ok (.invokespecial 1, 3) := by decide +kernel
theorem d_rmR_4 : decode jdk_30_method_1_code 4 = .ok (.return_, 1) := by decide +kernel
set_option maxRecDepth 65536 in
set_option maxHeartbeats 40000000 in
theorem rmR (l : Launch) (Z : State) (a0 : Array Value) (hw : ∀ d ∈ tables_1, d.before a0 Z = true) (ws : List Jvm.Cond) (a : Addr) (h0 : Heap) (n0 : Nat) (Z0 : n0 ≤ h0.size) :
    own_Met l Z (⟨"java/lang/Record", "<init>", "()V"⟩ : MethodName) ws jdk_30_method_1_code 1 none ({ frames := 1, cells := 0, slots := 0, locals := 12 } : Room) #[(.ref a)] h0 (fun v h L => v = none ∧ Fr n0 L ∧ h = h0) := by
  refine own_body (y := (⟨"java/lang/Record", "<init>", "()V"⟩ : MethodName)) (plainFor_of_name pn_0) ?_
  intro p e s m below meth c s₁ hx hby hml hown hnm hret hlk hZ X0 e0
  have hml : c.maxLocals = 1 := hml
  have hown : s.vm.findClass "java/lang/Record" = some m.cls := hown
  have N0 := Fr.nil n0
  refine own_entry (ef_rmR m a) ?_
  show own_Dn p e below s (fun v h L => v = none ∧ Fr n0 L ∧ h = h0) ({ frames := 1, cells := 0, slots := 0, locals := 12 } : Room).cells ({ frames := 1, cells := 0, slots := 0, locals := 12 } : Room).slots (s₁.setTop (mkF m 0 #[.val (.ref a)] []))
  refine own_st (q' := s₁.setTop (mkF m 1 #[.val (.ref a)] [(.ref a)])) (fun _ k => XS.aloadN X0.here hx rfl (hb hby d_rmR_0) rfl rfl k) ?_
  obtain ⟨T101, X101, e101, st101⟩ := initO X0 hx hZ hown (hw _ (List.mem_of_getElem? (i := 11) rfl)) (hw _ (List.mem_of_getElem? (i := 12) rfl)) (hw _ (List.mem_of_getElem? (i := 13) rfl)) e0 (g := (mkF m 1 #[.val (.ref a)] [(.ref a)])) rfl (by rw [hml]; rfl) rfl (hb hby d_rmR_1) (by decide) (W := 0) (by show 2 * 0 + _ ≤ _; exact Nat.le_of_eq rfl) (by decide)
  refine own_st (q' := T101.setTop (mkF m 4 #[.val (.ref a)] [])) st101 ?_
  exact own_retV X101 hx hlk hret (hb hby d_rmR_4) e101 (by exact ⟨rfl, N0, rfl⟩) (by decide) (by decide)
theorem pn_1 : plainName "com/example/nominate/nominate/datatype/DataRange$Truths" = true := by first | (simp [plainName, overriddenIn]; done) | decide +kernel
theorem ef_rmI (m : MethodId) (x0 : Addr) (x1 : Int32) : entryFrame m #[(.ref x0), (.int x1)] 2 = mkF m 0 #[.val (.ref x0), .val (.int x1)] [] := by first | (simp [entryFrame, mkF, argsToLocals, Value.category]; done) | rfl
theorem pd_0 : parseMethodDescriptor "()V" = some ⟨[], none⟩ := by decide +kernel
theorem d_rmI_0 : decode prog_12_method_1_code 0 = .ok (.aload_n 0, 1) := by decide +kernel
theorem d_rmI_1 : decode prog_12_method_1_code 1 = .ok (.invokespecial 3, 3) := by decide +kernel
theorem d_rmI_4 : decode prog_12_method_1_code 4 = .ok (.aload_n 0, 1) := by decide +kernel
theorem d_rmI_5 : decode prog_12_method_1_code 5 = .ok (.iload_n 1, 1) := by decide +kernel
theorem d_rmI_6 : decode prog_12_method_1_code 6 = .ok (.putfield 9, 3) := by decide +kernel
theorem d_rmI_9 : decode prog_12_method_1_code 9 = .ok (.return_, 1) := by decide +kernel
set_option maxRecDepth 65536 in
set_option maxHeartbeats 40000000 in
theorem rmI (l : Launch) (Z : State) (a0 : Array Value) (hw : ∀ d ∈ tables_1, d.before a0 Z = true) (ws : List Jvm.Cond) (a : Addr) (p1 : Int32) (h0 : Heap) (n0 : Nat) (Z0 : n0 ≤ h0.size) (E1 : Exa Z h0 a "com/example/nominate/nominate/datatype/DataRange$Truths") (g1 : n0 ≤ a) (F1 : Fld Z h0 a "com/example/nominate/nominate/datatype/DataRange$Truths" "values" "I" (.int (0 : Int32))) :
    own_Met l Z (⟨"com/example/nominate/nominate/datatype/DataRange$Truths", "<init>", "(I)V"⟩ : MethodName) ws prog_12_method_1_code 2 none ({ frames := 2, cells := 0, slots := 0, locals := 24 } : Room) #[(.ref a), (.int p1)] h0 (fun v h L => v = none ∧ Fr n0 L ∧ Keep h0 h [a] ∧ Exa Z h a "com/example/nominate/nominate/datatype/DataRange$Truths" ∧ Fld Z h a "com/example/nominate/nominate/datatype/DataRange$Truths" "values" "I" (.int p1)) := by
  refine own_body (y := (⟨"com/example/nominate/nominate/datatype/DataRange$Truths", "<init>", "(I)V"⟩ : MethodName)) (plainFor_of_name pn_1) ?_
  intro p e s m below meth c s₁ hx hby hml hown hnm hret hlk hZ X0 e0
  have hml : c.maxLocals = 2 := hml
  have hown : s.vm.findClass "com/example/nominate/nominate/datatype/DataRange$Truths" = some m.cls := hown
  have N0 := Fr.nil n0
  refine own_entry (ef_rmI m a p1) ?_
  show own_Dn p e below s (fun v h L => v = none ∧ Fr n0 L ∧ Keep h0 h [a] ∧ Exa Z h a "com/example/nominate/nominate/datatype/DataRange$Truths" ∧ Fld Z h a "com/example/nominate/nominate/datatype/DataRange$Truths" "values" "I" (.int p1)) ({ frames := 2, cells := 0, slots := 0, locals := 24 } : Room).cells ({ frames := 2, cells := 0, slots := 0, locals := 24 } : Room).slots (s₁.setTop (mkF m 0 #[.val (.ref a), .val (.int p1)] []))
  refine own_st (q' := s₁.setTop (mkF m 1 #[.val (.ref a), .val (.int p1)] [(.ref a)])) (fun _ k => XS.aloadN X0.here hx rfl (hb hby d_rmI_0) rfl rfl k) ?_
  refine own_callI (y := (⟨"java/lang/Record", "<init>", "()V"⟩ : MethodName)) X0 hx hZ hown rfl (hw _ (List.mem_of_getElem? (i := 6) rfl)) (hw _ (List.mem_of_getElem? (i := 7) rfl)) (hw _ (List.mem_of_getElem? (i := 9) rfl)) (hw _ (List.mem_of_getElem? (i := 10) rfl)) (by decide) (rmR l Z a0 hw [] a h0 n0 Z0) e0 (W := 0) (by decide) (by decide) (by decide) (by decide) (g := (mkF m 1 #[.val (.ref a), .val (.int p1)] [(.ref a)])) rfl (by rw [hml]; rfl) (a := a) (argsL := []) (rest := []) rfl (lenOf pd_0 rfl) rfl (by show 2 * 0 + _ ≤ _; exact Nat.le_of_eq rfl) (hb hby d_rmI_1) ?_
  intro v101 T101 L101 hQ101 X101
  obtain ⟨rfl, NN101, e101⟩ := hQ101
  have N101 := Fr.app N0 NN101
  show own_Dn p e below s (fun v h L => v = none ∧ Fr n0 L ∧ Keep h0 h [a] ∧ Exa Z h a "com/example/nominate/nominate/datatype/DataRange$Truths" ∧ Fld Z h a "com/example/nominate/nominate/datatype/DataRange$Truths" "values" "I" (.int p1)) ({ frames := 2, cells := 0, slots := 0, locals := 24 } : Room).cells ({ frames := 2, cells := 0, slots := 0, locals := 24 } : Room).slots (T101.setTop (mkF m 4 #[.val (.ref a), .val (.int p1)] []))
  refine own_st (q' := T101.setTop (mkF m 5 #[.val (.ref a), .val (.int p1)] [(.ref a)])) (fun _ k => XS.aloadN X101.here hx rfl (hb hby d_rmI_4) rfl rfl k) ?_
  refine own_st (q' := T101.setTop (mkF m 6 #[.val (.ref a), .val (.int p1)] [(.int p1), (.ref a)])) (fun _ k => XS.iloadN X101.here hx rfl (hb hby d_rmI_5) rfl k) ?_
  obtain ⟨T102, h102, X102, e102, W102, st102⟩ := putF X101 hx hZ hown (host := "") (Or.inl (hw _ (List.mem_of_getElem? (i := 14) rfl))) Via.refl e101 F1 E1 (Or.inr ⟨(hw _ (List.mem_of_getElem? (i := 15) rfl)), rfl, hnm⟩) (hw _ (List.mem_of_getElem? (i := 1) rfl)) (ty := .int) (by decide) rfl rfl (g := (mkF m 6 #[.val (.ref a), .val (.int p1)] [(.int p1), (.ref a)])) rfl rfl (hb hby d_rmI_6)
  have N102 := Fr.snoc X102 N101 g1
  have K103 : Keep h0 h102 [a] := ((Keep.refl h0 [a]).wr W102 (Or.inl (List.mem_of_getElem? (i := 0) rfl)))
  have F102 := F1.same W102
  refine own_st (q' := T102.setTop (mkF m 9 #[.val (.ref a), .val (.int p1)] [])) st102 ?_
  have f104 := (E1.wr W102)
  exact own_retV X102 hx hlk hret (hb hby d_rmI_9) e102 (by exact ⟨rfl, N102, K103, f104, F102⟩) (by decide) (by decide)
def own_emp (x : Int32) : Int32 := if x = (0 : Int32) then 1 else 0
theorem ef_rmE (m : MethodId) (x0 : Addr) : entryFrame m #[(.ref x0)] 1 = mkF m 0 #[.val (.ref x0)] [] := by first | (simp [entryFrame, mkF, argsToLocals, Value.category]; done) | rfl
theorem d_rmE_0 : decode prog_12_method_5_code 0 = .ok (.aload_n 0, 1) := by decide +kernel
theorem d_rmE_1 : decode prog_12_method_5_code 1 = .ok (.getfield 9, 3) := by decide +kernel
theorem d_rmE_4 : decode prog_12_method_5_code 4 = .ok (.ifCond .ne 7, 3) := by decide +kernel
theorem d_rmE_7 : decode prog_12_method_5_code 7 = .ok (.iconst 1, 1) := by decide +kernel
theorem d_rmE_8 : decode prog_12_method_5_code 8 = .ok (.goto 4, 3) := by decide +kernel
theorem d_rmE_11 : decode prog_12_method_5_code 11 = .ok (.iconst 0, 1) := by decide +kernel
theorem d_rmE_12 : decode prog_12_method_5_code 12 = .ok (.ireturn, 1) := by decide +kernel
set_option maxRecDepth 65536 in
set_option maxHeartbeats 40000000 in
theorem rmE (l : Launch) (Z : State) (a0 : Array Value) (hw : ∀ d ∈ tables_1, d.before a0 Z = true) (ws : List Jvm.Cond) (a : Addr) (x : Int32) (h0 : Heap) (n0 : Nat) (Z0 : n0 ≤ h0.size) (F1 : Fld Z h0 a "com/example/nominate/nominate/datatype/DataRange$Truths" "values" "I" (.int x)) :
    own_Met l Z (⟨"com/example/nominate/nominate/datatype/DataRange$Truths", "isEmpty", "()Z"⟩ : MethodName) ws prog_12_method_5_code 1 (some .boolean) ({ frames := 0, cells := 0, slots := 0, locals := 0 } : Room) #[(.ref a)] h0 (fun v h L => v = some (.int (own_emp x)) ∧ Fr n0 L ∧ h = h0) := by
  refine own_body (y := (⟨"com/example/nominate/nominate/datatype/DataRange$Truths", "isEmpty", "()Z"⟩ : MethodName)) (plainFor_of_name pn_1) ?_
  intro p e s m below meth c s₁ hx hby hml hown hnm hret hlk hZ X0 e0
  have hml : c.maxLocals = 1 := hml
  have hown : s.vm.findClass "com/example/nominate/nominate/datatype/DataRange$Truths" = some m.cls := hown
  have N0 := Fr.nil n0
  refine own_entry (ef_rmE m a) ?_
  show own_Dn p e below s (fun v h L => v = some (.int (own_emp x)) ∧ Fr n0 L ∧ h = h0) ({ frames := 0, cells := 0, slots := 0, locals := 0 } : Room).cells ({ frames := 0, cells := 0, slots := 0, locals := 0 } : Room).slots (s₁.setTop (mkF m 0 #[.val (.ref a)] []))
  refine own_st (q' := s₁.setTop (mkF m 1 #[.val (.ref a)] [(.ref a)])) (fun _ k => XS.aloadN X0.here hx rfl (hb hby d_rmE_0) rfl rfl k) ?_
  obtain ⟨T101, X101, e101, st101⟩ := getF X0 hx hZ hown (host := "") (Or.inl (hw _ (List.mem_of_getElem? (i := 14) rfl))) Via.refl e0 F1 (g := (mkF m 1 #[.val (.ref a)] [(.ref a)])) rfl rfl (hb hby d_rmE_1)
  refine own_st (q' := T101.setTop (mkF m 4 #[.val (.ref a)] [(.int x)])) st101 ?_
  by_cases hc4_102 : x = (0 : Int32)
  · skip
    have hc4_102I : (x).toInt = (0 : Int) := own_eqT hc4_102
    refine own_st (q' := T101.setTop (mkF m 7 #[.val (.ref a)] [])) (fun _ k => XS.ifNo X101.here hx rfl (hb hby d_rmE_4) rfl ((if0 _ _).trans (teq hc4_102).2) k) ?_
    refine own_st (q' := T101.setTop (mkF m 8 #[.val (.ref a)] [(.int (1 : Int32))])) (fun _ k => XS.iconst X101.here hx rfl (hb hby d_rmE_7) k) ?_
    refine own_st (q' := T101.setTop (mkF m 12 #[.val (.ref a)] [(.int (1 : Int32))])) (fun _ k => XS.goto X101.here hx rfl (pc0 := 8) (pc' := 12) rfl (hb hby d_rmE_8) (by decide) (by decide) k) ?_
    exact own_retN X101 hx hlk (t := .boolean) hret (by simp) (hb hby d_rmE_12) e101 (by exact ⟨(by unfold own_emp; rw [if_pos hc4_102]; rfl), N0, rfl⟩) (by decide) (by decide)
  · skip
    have hc4_102I : ¬ (x).toInt = (0 : Int) := own_eqF hc4_102
    refine own_st (q' := T101.setTop (mkF m 11 #[.val (.ref a)] [])) (fun _ k => XS.ifYes X101.here hx rfl (pc0 := 4) (pc' := 11) rfl (hb hby d_rmE_4) rfl ((if0 _ _).trans (feq hc4_102).2) (by decide) (by decide) k) ?_
    refine own_st (q' := T101.setTop (mkF m 12 #[.val (.ref a)] [(.int (0 : Int32))])) (fun _ k => XS.iconst X101.here hx rfl (hb hby d_rmE_11) k) ?_
    exact own_retN X101 hx hlk (t := .boolean) hret (by simp) (hb hby d_rmE_12) e101 (by exact ⟨(by unfold own_emp; rw [if_neg hc4_102]; rfl), N0, rfl⟩) (by decide) (by decide)
theorem ef_rmA (m : MethodId) (x0 : Addr) (x1 : Addr) : entryFrame m #[(.ref x0), (.ref x1)] 2 = mkF m 0 #[.val (.ref x0), .val (.ref x1)] [] := by first | (simp [entryFrame, mkF, argsToLocals, Value.category]; done) | rfl
theorem pd_1 : parseMethodDescriptor "(I)V" = some ⟨[.int], none⟩ := by decide +kernel
theorem d_rmA_0 : decode prog_12_method_2_code 0 = .ok (.new 1, 3) := by decide +kernel
theorem d_rmA_3 : decode prog_12_method_2_code 3 = .ok (.dup, 1) := by decide +kernel
theorem d_rmA_4 : decode prog_12_method_2_code 4 = .ok (.aload_n 0, 1) := by decide +kernel
theorem d_rmA_5 : decode prog_12_method_2_code 5 = .ok (.getfield 9, 3) := by decide +kernel
theorem d_rmA_8 : decode prog_12_method_2_code 8 = .ok (.aload_n 1, 1) := by decide +kernel
theorem d_rmA_9 : decode prog_12_method_2_code 9 = .ok (.checkcast 1, 3) := by decide +kernel
theorem d_rmA_12 : decode prog_12_method_2_code 12 = .ok (.getfield 9, 3) := by decide +kernel
theorem d_rmA_15 : decode prog_12_method_2_code 15 = .ok (.iand, 1) := by decide +kernel
theorem d_rmA_16 : decode prog_12_method_2_code 16 = .ok (.invokespecial 13, 3) := by decide +kernel
theorem d_rmA_19 : decode prog_12_method_2_code 19 = .ok (.areturn, 1) := by decide +kernel
set_option maxRecDepth 65536 in
set_option maxHeartbeats 40000000 in
theorem rmA (l : Launch) (Z : State) (a0 : Array Value) (hw : ∀ d ∈ tables_1, d.before a0 Z = true) (ws : List Jvm.Cond) (a u : Addr) (x y : Int32) (h0 : Heap) (n0 : Nat) (Z0 : n0 ≤ h0.size) (F1 : Fld Z h0 a "com/example/nominate/nominate/datatype/DataRange$Truths" "values" "I" (.int x)) (E2 : Exa Z h0 u "com/example/nominate/nominate/datatype/DataRange$Truths") (F2 : Fld Z h0 u "com/example/nominate/nominate/datatype/DataRange$Truths" "values" "I" (.int y)) :
    own_Met l Z (⟨"com/example/nominate/nominate/datatype/DataRange$Truths", "and", "(Lcom/example/nominate/nominate/datatype/DataRange$Part;)Lcom/example/nominate/nominate/datatype/DataRange$Part;"⟩ : MethodName) ws prog_12_method_2_code 2 (some (.object "com/example/nominate/nominate/datatype/DataRange$Part")) ({ frames := 3, cells := 1, slots := 1, locals := 38 } : Room) #[(.ref a), (.ref u)] h0 (fun v h L => ∃ r, v = some (.ref r) ∧ Fr n0 L ∧ Keep h0 h [] ∧ h0.size ≤ r ∧ n0 ≤ r ∧ Exa Z h r "com/example/nominate/nominate/datatype/DataRange$Truths" ∧ Fld Z h r "com/example/nominate/nominate/datatype/DataRange$Truths" "values" "I" (.int (x &&& y))) := by
  refine own_body (y := (⟨"com/example/nominate/nominate/datatype/DataRange$Truths", "and", "(Lcom/example/nominate/nominate/datatype/DataRange$Part;)Lcom/example/nominate/nominate/datatype/DataRange$Part;"⟩ : MethodName)) (plainFor_of_name pn_1) ?_
  intro p e s m below meth c s₁ hx hby hml hown hnm hret hlk hZ X0 e0
  have hml : c.maxLocals = 2 := hml
  have hown : s.vm.findClass "com/example/nominate/nominate/datatype/DataRange$Truths" = some m.cls := hown
  have N0 := Fr.nil n0
  refine own_entry (ef_rmA m a u) ?_
  show own_Dn p e below s (fun v h L => ∃ r, v = some (.ref r) ∧ Fr n0 L ∧ Keep h0 h [] ∧ h0.size ≤ r ∧ n0 ≤ r ∧ Exa Z h r "com/example/nominate/nominate/datatype/DataRange$Truths" ∧ Fld Z h r "com/example/nominate/nominate/datatype/DataRange$Truths" "values" "I" (.int (x &&& y))) ({ frames := 3, cells := 1, slots := 1, locals := 38 } : Room).cells ({ frames := 3, cells := 1, slots := 1, locals := 38 } : Room).slots (s₁.setTop (mkF m 0 #[.val (.ref a), .val (.ref u)] []))
  obtain ⟨T101, h101, X101, e101, E101, A101, D101, -, st101⟩ := newO X0 hx hZ hown (hw _ (List.mem_of_getElem? (i := 26) rfl)) (hw _ (List.mem_of_getElem? (i := 1) rfl)) (hw _ (List.mem_of_getElem? (i := 2) rfl)) e0 (g := (mkF m 0 #[.val (.ref a), .val (.ref u)] [])) rfl (hb hby d_rmA_0) (by decide) (by decide)
  obtain ⟨b101, g101⟩ : ∃ z, z = h0.size := ⟨_, rfl⟩
  rw [← g101] at A101 D101 st101
  have ne_a_b101 : a ≠ b101 := Nat.ne_of_lt (Nat.lt_of_lt_of_le F1.lt (Nat.le_of_eq g101.symm))
  have ne_u_b101 : u ≠ b101 := Nat.ne_of_lt (Nat.lt_of_lt_of_le E2.lt (Nat.le_of_eq g101.symm))
  have ge_b101 : n0 ≤ b101 := Nat.le_trans Z0 (Nat.le_of_eq g101.symm)
  have sz_b101 : h0.size ≤ b101 := Nat.le_trans (Keep.refl h0 []).1 (Nat.le_of_eq g101.symm)
  have K102 : Keep h0 h101 [] := ((Keep.refl h0 []).ext E101)
  have F_values_b101 : Fld Z h101 b101 "com/example/nominate/nominate/datatype/DataRange$Truths" "values" "I" (.int (0 : Int32)) := D101 (Or.inr (hw _ (List.mem_of_getElem? (i := 15) rfl))) (ty := .int) (by decide)
  refine own_st (q' := T101.setTop (mkF m 3 #[.val (.ref a), .val (.ref u)] [(.ref b101)])) st101 ?_
  refine own_st (q' := T101.setTop (mkF m 4 #[.val (.ref a), .val (.ref u)] [(.ref b101), (.ref b101)])) (fun _ k => XS.dup X101.here hx rfl (hb hby d_rmA_3) rfl rfl k) ?_
  refine own_st (q' := T101.setTop (mkF m 5 #[.val (.ref a), .val (.ref u)] [(.ref a), (.ref b101), (.ref b101)])) (fun _ k => XS.aloadN X101.here hx rfl (hb hby d_rmA_4) rfl rfl k) ?_
  have f103 := (F1.ext E101)
  obtain ⟨T104, X104, e104, st104⟩ := getF X101 hx hZ hown (host := "") (Or.inl (hw _ (List.mem_of_getElem? (i := 14) rfl))) Via.refl e101 f103 (g := (mkF m 5 #[.val (.ref a), .val (.ref u)] [(.ref a), (.ref b101), (.ref b101)])) rfl rfl (hb hby d_rmA_5)
  refine own_st (q' := T104.setTop (mkF m 8 #[.val (.ref a), .val (.ref u)] [(.int x), (.ref b101), (.ref b101)])) st104 ?_
  refine own_st (q' := T104.setTop (mkF m 9 #[.val (.ref a), .val (.ref u)] [(.ref u), (.int x), (.ref b101), (.ref b101)])) (fun _ k => XS.aloadN X104.here hx rfl (hb hby d_rmA_8) rfl rfl k) ?_
  have f106 := (E2.ext E101)
  obtain ⟨T105, X105, e105, st105⟩ := castY X104 hx hZ hown (hw _ (List.mem_of_getElem? (i := 26) rfl)) e104 (Ins.self f106) (g := (mkF m 9 #[.val (.ref a), .val (.ref u)] [(.ref u), (.int x), (.ref b101), (.ref b101)])) rfl rfl (hb hby d_rmA_9)
  refine own_st (q' := T105.setTop (mkF m 12 #[.val (.ref a), .val (.ref u)] [(.ref u), (.int x), (.ref b101), (.ref b101)])) st105 ?_
  have f107 := (F2.ext E101)
  obtain ⟨T108, X108, e108, st108⟩ := getF X105 hx hZ hown (host := "") (Or.inl (hw _ (List.mem_of_getElem? (i := 14) rfl))) Via.refl e105 f107 (g := (mkF m 12 #[.val (.ref a), .val (.ref u)] [(.ref u), (.int x), (.ref b101), (.ref b101)])) rfl rfl (hb hby d_rmA_12)
  refine own_st (q' := T108.setTop (mkF m 15 #[.val (.ref a), .val (.ref u)] [(.int y), (.int x), (.ref b101), (.ref b101)])) st108 ?_
  refine own_st (q' := T108.setTop (mkF m 16 #[.val (.ref a), .val (.ref u)] [(.int (x &&& y)), (.ref b101), (.ref b101)])) (fun _ k => XS.iand X108.here hx rfl (hb hby d_rmA_15) rfl k) ?_
  refine own_callI (y := (⟨"com/example/nominate/nominate/datatype/DataRange$Truths", "<init>", "(I)V"⟩ : MethodName)) X108 hx hZ hown rfl (hw _ (List.mem_of_getElem? (i := 28) rfl)) (hw _ (List.mem_of_getElem? (i := 4) rfl)) (hw _ (List.mem_of_getElem? (i := 2) rfl)) (hw _ (List.mem_of_getElem? (i := 5) rfl)) (by decide) (rmI l Z a0 hw [] b101 (x &&& y) h101 n0 (Nat.le_trans Z0 E101.1) A101 ge_b101 F_values_b101) e108 (W := 1) (by decide) (by decide) (by decide) (by decide) (g := (mkF m 16 #[.val (.ref a), .val (.ref u)] [(.int (x &&& y)), (.ref b101), (.ref b101)])) rfl (by rw [hml]; rfl) (a := b101) (argsL := [(.int (x &&& y))]) (rest := [(.ref b101)]) rfl (lenOf pd_1 rfl) rfl (by show 2 * 0 + _ ≤ _; exact Nat.le_of_eq rfl) (hb hby d_rmA_16) ?_
  intro v109 T109 L109 hQ109 X109
  obtain ⟨rfl, NN109, KK109, q109_0, q109_1⟩ := hQ109
  have N109 := Fr.app N0 NN109
  have K110 : Keep h0 T109.heap [] := (K102.trans KK109 (allS (Or.inr sz_b101) all0))
  show own_Dn p e below s (fun v h L => ∃ r, v = some (.ref r) ∧ Fr n0 L ∧ Keep h0 h [] ∧ h0.size ≤ r ∧ n0 ≤ r ∧ Exa Z h r "com/example/nominate/nominate/datatype/DataRange$Truths" ∧ Fld Z h r "com/example/nominate/nominate/datatype/DataRange$Truths" "values" "I" (.int (x &&& y))) ({ frames := 3, cells := 1, slots := 1, locals := 38 } : Room).cells ({ frames := 3, cells := 1, slots := 1, locals := 38 } : Room).slots (T109.setTop (mkF m 19 #[.val (.ref a), .val (.ref u)] [(.ref b101)]))
  exact own_retO X109 hx hlk (i := .areturn) hret rfl (Or.inr (Or.inr (Or.inr (Or.inr ⟨rfl, rfl, rfl⟩)))) (hb hby d_rmA_19) (rfl : T109.heap = T109.heap) (by exact ⟨b101, rfl, N109, K110, sz_b101, ge_b101, q109_0, q109_1⟩) (by decide) (by decide)
theorem ef_rmP (m : MethodId) (x0 : Addr) : entryFrame m #[(.ref x0)] 1 = mkF m 0 #[.val (.ref x0)] [] := by first | (simp [entryFrame, mkF, argsToLocals, Value.category]; done) | rfl
theorem d_rmP_0 : decode prog_12_method_4_code 0 = .ok (.new 1, 3) := by decide +kernel
theorem d_rmP_3 : decode prog_12_method_4_code 3 = .ok (.dup, 1) := by decide +kernel
theorem d_rmP_4 : decode prog_12_method_4_code 4 = .ok (.iconst 3, 1) := by decide +kernel
theorem d_rmP_5 : decode prog_12_method_4_code 5 = .ok (.aload_n 0, 1) := by decide +kernel
theorem d_rmP_6 : decode prog_12_method_4_code 6 = .ok (.getfield 9, 3) := by decide +kernel
theorem d_rmP_9 : decode prog_12_method_4_code 9 = .ok (.iconst (-1), 1) := by decide +kernel
theorem d_rmP_10 : decode prog_12_method_4_code 10 = .ok (.ixor, 1) := by decide +kernel
theorem d_rmP_11 : decode prog_12_method_4_code 11 = .ok (.iand, 1) := by decide +kernel
theorem d_rmP_12 : decode prog_12_method_4_code 12 = .ok (.invokespecial 13, 3) := by decide +kernel
theorem d_rmP_15 : decode prog_12_method_4_code 15 = .ok (.areturn, 1) := by decide +kernel
set_option maxRecDepth 65536 in
set_option maxHeartbeats 40000000 in
theorem rmP (l : Launch) (Z : State) (a0 : Array Value) (hw : ∀ d ∈ tables_1, d.before a0 Z = true) (ws : List Jvm.Cond) (a : Addr) (x : Int32) (h0 : Heap) (n0 : Nat) (Z0 : n0 ≤ h0.size) (F1 : Fld Z h0 a "com/example/nominate/nominate/datatype/DataRange$Truths" "values" "I" (.int x)) :
    own_Met l Z (⟨"com/example/nominate/nominate/datatype/DataRange$Truths", "complement", "()Lcom/example/nominate/nominate/datatype/DataRange$Part;"⟩ : MethodName) ws prog_12_method_4_code 1 (some (.object "com/example/nominate/nominate/datatype/DataRange$Part")) ({ frames := 3, cells := 1, slots := 1, locals := 38 } : Room) #[(.ref a)] h0 (fun v h L => ∃ r, v = some (.ref r) ∧ Fr n0 L ∧ Keep h0 h [] ∧ h0.size ≤ r ∧ n0 ≤ r ∧ Exa Z h r "com/example/nominate/nominate/datatype/DataRange$Truths" ∧ Fld Z h r "com/example/nominate/nominate/datatype/DataRange$Truths" "values" "I" (.int ((3 : Int32) &&& (x ^^^ (-1 : Int32))))) := by
  refine own_body (y := (⟨"com/example/nominate/nominate/datatype/DataRange$Truths", "complement", "()Lcom/example/nominate/nominate/datatype/DataRange$Part;"⟩ : MethodName)) (plainFor_of_name pn_1) ?_
  intro p e s m below meth c s₁ hx hby hml hown hnm hret hlk hZ X0 e0
  have hml : c.maxLocals = 1 := hml
  have hown : s.vm.findClass "com/example/nominate/nominate/datatype/DataRange$Truths" = some m.cls := hown
  have N0 := Fr.nil n0
  refine own_entry (ef_rmP m a) ?_
  show own_Dn p e below s (fun v h L => ∃ r, v = some (.ref r) ∧ Fr n0 L ∧ Keep h0 h [] ∧ h0.size ≤ r ∧ n0 ≤ r ∧ Exa Z h r "com/example/nominate/nominate/datatype/DataRange$Truths" ∧ Fld Z h r "com/example/nominate/nominate/datatype/DataRange$Truths" "values" "I" (.int ((3 : Int32) &&& (x ^^^ (-1 : Int32))))) ({ frames := 3, cells := 1, slots := 1, locals := 38 } : Room).cells ({ frames := 3, cells := 1, slots := 1, locals := 38 } : Room).slots (s₁.setTop (mkF m 0 #[.val (.ref a)] []))
  obtain ⟨T101, h101, X101, e101, E101, A101, D101, -, st101⟩ := newO X0 hx hZ hown (hw _ (List.mem_of_getElem? (i := 26) rfl)) (hw _ (List.mem_of_getElem? (i := 1) rfl)) (hw _ (List.mem_of_getElem? (i := 2) rfl)) e0 (g := (mkF m 0 #[.val (.ref a)] [])) rfl (hb hby d_rmP_0) (by decide) (by decide)
  obtain ⟨b101, g101⟩ : ∃ z, z = h0.size := ⟨_, rfl⟩
  rw [← g101] at A101 D101 st101
  have ne_a_b101 : a ≠ b101 := Nat.ne_of_lt (Nat.lt_of_lt_of_le F1.lt (Nat.le_of_eq g101.symm))
  have ge_b101 : n0 ≤ b101 := Nat.le_trans Z0 (Nat.le_of_eq g101.symm)
  have sz_b101 : h0.size ≤ b101 := Nat.le_trans (Keep.refl h0 []).1 (Nat.le_of_eq g101.symm)
  have K102 : Keep h0 h101 [] := ((Keep.refl h0 []).ext E101)
  have F_values_b101 : Fld Z h101 b101 "com/example/nominate/nominate/datatype/DataRange$Truths" "values" "I" (.int (0 : Int32)) := D101 (Or.inr (hw _ (List.mem_of_getElem? (i := 15) rfl))) (ty := .int) (by decide)
  refine own_st (q' := T101.setTop (mkF m 3 #[.val (.ref a)] [(.ref b101)])) st101 ?_
  refine own_st (q' := T101.setTop (mkF m 4 #[.val (.ref a)] [(.ref b101), (.ref b101)])) (fun _ k => XS.dup X101.here hx rfl (hb hby d_rmP_3) rfl rfl k) ?_
  refine own_st (q' := T101.setTop (mkF m 5 #[.val (.ref a)] [(.int (3 : Int32)), (.ref b101), (.ref b101)])) (fun _ k => XS.iconst X101.here hx rfl (hb hby d_rmP_4) k) ?_
  refine own_st (q' := T101.setTop (mkF m 6 #[.val (.ref a)] [(.ref a), (.int (3 : Int32)), (.ref b101), (.ref b101)])) (fun _ k => XS.aloadN X101.here hx rfl (hb hby d_rmP_5) rfl rfl k) ?_
  have f103 := (F1.ext E101)
  obtain ⟨T104, X104, e104, st104⟩ := getF X101 hx hZ hown (host := "") (Or.inl (hw _ (List.mem_of_getElem? (i := 14) rfl))) Via.refl e101 f103 (g := (mkF m 6 #[.val (.ref a)] [(.ref a), (.int (3 : Int32)), (.ref b101), (.ref b101)])) rfl rfl (hb hby d_rmP_6)
  refine own_st (q' := T104.setTop (mkF m 9 #[.val (.ref a)] [(.int x), (.int (3 : Int32)), (.ref b101), (.ref b101)])) st104 ?_
  refine own_st (q' := T104.setTop (mkF m 10 #[.val (.ref a)] [(.int (-1 : Int32)), (.int x), (.int (3 : Int32)), (.ref b101), (.ref b101)])) (fun _ k => XS.iconst X104.here hx rfl (hb hby d_rmP_9) k) ?_
  refine own_st (q' := T104.setTop (mkF m 11 #[.val (.ref a)] [(.int (x ^^^ (-1 : Int32))), (.int (3 : Int32)), (.ref b101), (.ref b101)])) (fun _ k => XS.ixor X104.here hx rfl (hb hby d_rmP_10) rfl k) ?_
  refine own_st (q' := T104.setTop (mkF m 12 #[.val (.ref a)] [(.int ((3 : Int32) &&& (x ^^^ (-1 : Int32)))), (.ref b101), (.ref b101)])) (fun _ k => XS.iand X104.here hx rfl (hb hby d_rmP_11) rfl k) ?_
  refine own_callI (y := (⟨"com/example/nominate/nominate/datatype/DataRange$Truths", "<init>", "(I)V"⟩ : MethodName)) X104 hx hZ hown rfl (hw _ (List.mem_of_getElem? (i := 28) rfl)) (hw _ (List.mem_of_getElem? (i := 4) rfl)) (hw _ (List.mem_of_getElem? (i := 2) rfl)) (hw _ (List.mem_of_getElem? (i := 5) rfl)) (by decide) (rmI l Z a0 hw [] b101 ((3 : Int32) &&& (x ^^^ (-1 : Int32))) h101 n0 (Nat.le_trans Z0 E101.1) A101 ge_b101 F_values_b101) e104 (W := 1) (by decide) (by decide) (by decide) (by decide) (g := (mkF m 12 #[.val (.ref a)] [(.int ((3 : Int32) &&& (x ^^^ (-1 : Int32)))), (.ref b101), (.ref b101)])) rfl (by rw [hml]; rfl) (a := b101) (argsL := [(.int ((3 : Int32) &&& (x ^^^ (-1 : Int32))))]) (rest := [(.ref b101)]) rfl (lenOf pd_1 rfl) rfl (by show 2 * 0 + _ ≤ _; exact Nat.le_of_eq rfl) (hb hby d_rmP_12) ?_
  intro v105 T105 L105 hQ105 X105
  obtain ⟨rfl, NN105, KK105, q105_0, q105_1⟩ := hQ105
  have N105 := Fr.app N0 NN105
  have K106 : Keep h0 T105.heap [] := (K102.trans KK105 (allS (Or.inr sz_b101) all0))
  show own_Dn p e below s (fun v h L => ∃ r, v = some (.ref r) ∧ Fr n0 L ∧ Keep h0 h [] ∧ h0.size ≤ r ∧ n0 ≤ r ∧ Exa Z h r "com/example/nominate/nominate/datatype/DataRange$Truths" ∧ Fld Z h r "com/example/nominate/nominate/datatype/DataRange$Truths" "values" "I" (.int ((3 : Int32) &&& (x ^^^ (-1 : Int32))))) ({ frames := 3, cells := 1, slots := 1, locals := 38 } : Room).cells ({ frames := 3, cells := 1, slots := 1, locals := 38 } : Room).slots (T105.setTop (mkF m 15 #[.val (.ref a)] [(.ref b101)]))
  exact own_retO X105 hx hlk (i := .areturn) hret rfl (Or.inr (Or.inr (Or.inr (Or.inr ⟨rfl, rfl, rfl⟩)))) (hb hby d_rmP_15) (rfl : T105.heap = T105.heap) (by exact ⟨b101, rfl, N105, K106, sz_b101, ge_b101, q105_0, q105_1⟩) (by decide) (by decide)
def own_b1 (x : Int32) : Int32 := x - (((x.toUInt32 >>> ((1 : Int32) &&& 31).toUInt32).toInt32) &&& (1431655765 : Int32))
def own_b2 (x : Int32) : Int32 := (x &&& (858993459 : Int32)) + (((x.toUInt32 >>> ((2 : Int32) &&& 31).toUInt32).toInt32) &&& (858993459 : Int32))
def own_b3 (x : Int32) : Int32 := (x + ((x.toUInt32 >>> ((4 : Int32) &&& 31).toUInt32).toInt32)) &&& (252645135 : Int32)
def own_b4 (x : Int32) : Int32 := x + ((x.toUInt32 >>> ((8 : Int32) &&& 31).toUInt32).toInt32)
def own_b5 (x : Int32) : Int32 := x + ((x.toUInt32 >>> ((16 : Int32) &&& 31).toUInt32).toInt32)
def own_bc (x : Int32) : Int32 := own_b5 (own_b4 (own_b3 (own_b2 (own_b1 x)))) &&& (63 : Int32)
theorem pn_2 : plainName "java/lang/Integer" = true := by first | (simp [plainName, overriddenIn]; done) | decide +kernel
theorem ef_rmB (m : MethodId) (x0 : Int32) : entryFrame m #[(.int x0)] 1 = mkF m 0 #[.val (.int x0)] [] := by first | (simp [entryFrame, mkF, argsToLocals, Value.category]; done) | rfl
theorem d_rmB_0 : decode jdk_33_method_49_code 0 = .ok (.iload_n 0, 1) := by decide +kernel
theorem d_rmB_1 : decode jdk_33_method_49_code 1 = .ok (.iload_n 0, 1) := by decide +kernel
theorem d_rmB_2 : decode jdk_33_method_49_code 2 = .ok (.iconst 1, 1) := by decide +kernel
theorem d_rmB_3 : decode jdk_33_method_49_code 3 = .ok (.iushr, 1) := by decide +kernel
theorem d_rmB_4 : decode jdk_33_method_49_code 4 = .ok (.ldc_w 265, 3) := by decide +kernel
theorem d_rmB_7 : decode jdk_33_method_49_code 7 = .ok (.iand, 1) := by decide +kernel
theorem d_rmB_8 : decode jdk_33_method_49_code 8 = .ok (.isub, 1) := by decide +kernel
theorem d_rmB_9 : decode jdk_33_method_49_code 9 = .ok (.istore_n 0, 1) := by decide +kernel
theorem d_rmB_10 : decode jdk_33_method_49_code 10 = .ok (.iload_n 0, 1) := by decide +kernel
theorem d_rmB_11 : decode jdk_33_method_49_code 11 = .ok (.ldc_w 266, 3) := by decide +kernel
theorem d_rmB_14 : decode jdk_33_method_49_code 14 = .ok (.iand, 1) := by decide +kernel
theorem d_rmB_15 : decode jdk_33_method_49_code 15 = .ok (.iload_n 0, 1) := by decide +kernel
theorem d_rmB_16 : decode jdk_33_method_49_code 16 = .ok (.iconst 2, 1) := by decide +kernel
theorem d_rmB_17 : decode jdk_33_method_49_code 17 = .ok (.iushr, 1) := by decide +kernel
theorem d_rmB_18 : decode jdk_33_method_49_code 18 = .ok (.ldc_w 266, 3) := by decide +kernel
theorem d_rmB_21 : decode jdk_33_method_49_code 21 = .ok (.iand, 1) := by decide +kernel
theorem d_rmB_22 : decode jdk_33_method_49_code 22 = .ok (.iadd, 1) := by decide +kernel
theorem d_rmB_23 : decode jdk_33_method_49_code 23 = .ok (.istore_n 0, 1) := by decide +kernel
theorem d_rmB_24 : decode jdk_33_method_49_code 24 = .ok (.iload_n 0, 1) := by decide +kernel
theorem d_rmB_25 : decode jdk_33_method_49_code 25 = .ok (.iload_n 0, 1) := by decide +kernel
theorem d_rmB_26 : decode jdk_33_method_49_code 26 = .ok (.iconst 4, 1) := by decide +kernel
theorem d_rmB_27 : decode jdk_33_method_49_code 27 = .ok (.iushr, 1) := by decide +kernel
theorem d_rmB_28 : decode jdk_33_method_49_code 28 = .ok (.iadd, 1) := by decide +kernel
theorem d_rmB_29 : decode jdk_33_method_49_code 29 = .ok (.ldc_w 267, 3) := by decide +kernel
theorem d_rmB_32 : decode jdk_33_method_49_code 32 = .ok (.iand, 1) := by decide +kernel
theorem d_rmB_33 : decode jdk_33_method_49_code 33 = .ok (.istore_n 0, 1) := by decide +kernel
theorem d_rmB_34 : decode jdk_33_method_49_code 34 = .ok (.iload_n 0, 1) := by decide +kernel
theorem d_rmB_35 : decode jdk_33_method_49_code 35 = .ok (.iload_n 0, 1) := by decide +kernel
theorem d_rmB_36 : decode jdk_33_method_49_code 36 = .ok (.bipush 8, 2) := by decide +kernel
theorem d_rmB_38 : decode jdk_33_method_49_code 38 = .ok (.iushr, 1) := by decide +kernel
theorem d_rmB_39 : decode jdk_33_method_49_code 39 = .ok (.iadd, 1) := by decide +kernel
theorem d_rmB_40 : decode jdk_33_method_49_code 40 = .ok (.istore_n 0, 1) := by decide +kernel
theorem d_rmB_41 : decode jdk_33_method_49_code 41 = .ok (.iload_n 0, 1) := by decide +kernel
theorem d_rmB_42 : decode jdk_33_method_49_code 42 = .ok (.iload_n 0, 1) := by decide +kernel
theorem d_rmB_43 : decode jdk_33_method_49_code 43 = .ok (.bipush 16, 2) := by decide +kernel
theorem d_rmB_45 : decode jdk_33_method_49_code 45 = .ok (.iushr, 1) := by decide +kernel
theorem d_rmB_46 : decode jdk_33_method_49_code 46 = .ok (.iadd, 1) := by decide +kernel
theorem d_rmB_47 : decode jdk_33_method_49_code 47 = .ok (.istore_n 0, 1) := by decide +kernel
theorem d_rmB_48 : decode jdk_33_method_49_code 48 = .ok (.iload_n 0, 1) := by decide +kernel
theorem d_rmB_49 : decode jdk_33_method_49_code 49 = .ok (.bipush 63, 2) := by decide +kernel
theorem d_rmB_51 : decode jdk_33_method_49_code 51 = .ok (.iand, 1) := by decide +kernel
theorem d_rmB_52 : decode jdk_33_method_49_code 52 = .ok (.ireturn, 1) := by decide +kernel
set_option maxRecDepth 65536 in
set_option maxHeartbeats 40000000 in
theorem rmB (l : Launch) (Z : State) (a0 : Array Value) (hw : ∀ d ∈ tables_1, d.before a0 Z = true) (ws : List Jvm.Cond) (x : Int32) (h0 : Heap) (n0 : Nat) (Z0 : n0 ≤ h0.size) :
    own_Met l Z (⟨"java/lang/Integer", "bitCount", "(I)I"⟩ : MethodName) ws jdk_33_method_49_code 1 (some .int) ({ frames := 0, cells := 0, slots := 0, locals := 0 } : Room) #[(.int x)] h0 (fun v h L => v = some (.int (own_bc x)) ∧ Fr n0 L ∧ h = h0) := by
  refine own_body (y := (⟨"java/lang/Integer", "bitCount", "(I)I"⟩ : MethodName)) (plainFor_of_name pn_2) ?_
  intro p e s m below meth c s₁ hx hby hml hown hnm hret hlk hZ X0 e0
  have hml : c.maxLocals = 1 := hml
  have hown : s.vm.findClass "java/lang/Integer" = some m.cls := hown
  have N0 := Fr.nil n0
  refine own_entry (ef_rmB m x) ?_
  show own_Dn p e below s (fun v h L => v = some (.int (own_bc x)) ∧ Fr n0 L ∧ h = h0) ({ frames := 0, cells := 0, slots := 0, locals := 0 } : Room).cells ({ frames := 0, cells := 0, slots := 0, locals := 0 } : Room).slots (s₁.setTop (mkF m 0 #[.val (.int x)] []))
  refine own_st (q' := s₁.setTop (mkF m 1 #[.val (.int x)] [(.int x)])) (fun _ k => XS.iloadN X0.here hx rfl (hb hby d_rmB_0) rfl k) ?_
  refine own_st (q' := s₁.setTop (mkF m 2 #[.val (.int x)] [(.int x), (.int x)])) (fun _ k => XS.iloadN X0.here hx rfl (hb hby d_rmB_1) rfl k) ?_
  refine own_st (q' := s₁.setTop (mkF m 3 #[.val (.int x)] [(.int (1 : Int32)), (.int x), (.int x)])) (fun _ k => XS.iconst X0.here hx rfl (hb hby d_rmB_2) k) ?_
  refine own_st (q' := s₁.setTop (mkF m 4 #[.val (.int x)] [(.int ((x.toUInt32 >>> ((1 : Int32) &&& 31).toUInt32).toInt32)), (.int x)])) (fun _ k => XS.iushr X0.here hx rfl (hb hby d_rmB_3) rfl k) ?_
  refine own_st (q' := s₁.setTop (mkF m 7 #[.val (.int x)] [(.int (1431655765 : Int32)), (.int ((x.toUInt32 >>> ((1 : Int32) &&& 31).toUInt32).toInt32)), (.int x)])) (fun _ k => X0.ldcwInt hx hown (mvT hZ (hw _ (List.mem_of_getElem? (i := 45) rfl))) (g := (mkF m 4 #[.val (.int x)] [(.int ((x.toUInt32 >>> ((1 : Int32) &&& 31).toUInt32).toInt32)), (.int x)])) rfl (hb hby d_rmB_4) _ k) ?_
  refine own_st (q' := s₁.setTop (mkF m 8 #[.val (.int x)] [(.int (((x.toUInt32 >>> ((1 : Int32) &&& 31).toUInt32).toInt32) &&& (1431655765 : Int32))), (.int x)])) (fun _ k => XS.iand X0.here hx rfl (hb hby d_rmB_7) rfl k) ?_
  refine own_st (q' := s₁.setTop (mkF m 9 #[.val (.int x)] [(.int (x - (((x.toUInt32 >>> ((1 : Int32) &&& 31).toUInt32).toInt32) &&& (1431655765 : Int32))))])) (fun _ k => XS.isub X0.here hx rfl (hb hby d_rmB_8) rfl k) ?_
  refine own_st (q' := s₁.setTop (mkF m 10 #[.val (.int (x - (((x.toUInt32 >>> ((1 : Int32) &&& 31).toUInt32).toInt32) &&& (1431655765 : Int32))))] [])) (fun _ k => XS.istoreN X0.here hx rfl (hb hby d_rmB_9) rfl (l' := #[.val (.int (x - (((x.toUInt32 >>> ((1 : Int32) &&& 31).toUInt32).toInt32) &&& (1431655765 : Int32))))]) rfl k) ?_
  show own_Dn p e below s (fun v h L => v = some (.int (own_bc x)) ∧ Fr n0 L ∧ h = h0) ({ frames := 0, cells := 0, slots := 0, locals := 0 } : Room).cells ({ frames := 0, cells := 0, slots := 0, locals := 0 } : Room).slots (s₁.setTop (mkF m 10 #[.val (.int (own_b1 x))] []))
  refine own_st (q' := s₁.setTop (mkF m 11 #[.val (.int (own_b1 x))] [(.int (own_b1 x))])) (fun _ k => XS.iloadN X0.here hx rfl (hb hby d_rmB_10) rfl k) ?_
  refine own_st (q' := s₁.setTop (mkF m 14 #[.val (.int (own_b1 x))] [(.int (858993459 : Int32)), (.int (own_b1 x))])) (fun _ k => X0.ldcwInt hx hown (mvT hZ (hw _ (List.mem_of_getElem? (i := 46) rfl))) (g := (mkF m 11 #[.val (.int (own_b1 x))] [(.int (own_b1 x))])) rfl (hb hby d_rmB_11) _ k) ?_
  refine own_st (q' := s₁.setTop (mkF m 15 #[.val (.int (own_b1 x))] [(.int ((own_b1 x) &&& (858993459 : Int32)))])) (fun _ k => XS.iand X0.here hx rfl (hb hby d_rmB_14) rfl k) ?_
  refine own_st (q' := s₁.setTop (mkF m 16 #[.val (.int (own_b1 x))] [(.int (own_b1 x)), (.int ((own_b1 x) &&& (858993459 : Int32)))])) (fun _ k => XS.iloadN X0.here hx rfl (hb hby d_rmB_15) rfl k) ?_
  refine own_st (q' := s₁.setTop (mkF m 17 #[.val (.int (own_b1 x))] [(.int (2 : Int32)), (.int (own_b1 x)), (.int ((own_b1 x) &&& (858993459 : Int32)))])) (fun _ k => XS.iconst X0.here hx rfl (hb hby d_rmB_16) k) ?_
  refine own_st (q' := s₁.setTop (mkF m 18 #[.val (.int (own_b1 x))] [(.int (((own_b1 x).toUInt32 >>> ((2 : Int32) &&& 31).toUInt32).toInt32)), (.int ((own_b1 x) &&& (858993459 : Int32)))])) (fun _ k => XS.iushr X0.here hx rfl (hb hby d_rmB_17) rfl k) ?_
  refine own_st (q' := s₁.setTop (mkF m 21 #[.val (.int (own_b1 x))] [(.int (858993459 : Int32)), (.int (((own_b1 x).toUInt32 >>> ((2 : Int32) &&& 31).toUInt32).toInt32)), (.int ((own_b1 x) &&& (858993459 : Int32)))])) (fun _ k => X0.ldcwInt hx hown (mvT hZ (hw _ (List.mem_of_getElem? (i := 46) rfl))) (g := (mkF m 18 #[.val (.int (own_b1 x))] [(.int (((own_b1 x).toUInt32 >>> ((2 : Int32) &&& 31).toUInt32).toInt32)), (.int ((own_b1 x) &&& (858993459 : Int32)))])) rfl (hb hby d_rmB_18) _ k) ?_
  refine own_st (q' := s₁.setTop (mkF m 22 #[.val (.int (own_b1 x))] [(.int ((((own_b1 x).toUInt32 >>> ((2 : Int32) &&& 31).toUInt32).toInt32) &&& (858993459 : Int32))), (.int ((own_b1 x) &&& (858993459 : Int32)))])) (fun _ k => XS.iand X0.here hx rfl (hb hby d_rmB_21) rfl k) ?_
  refine own_st (q' := s₁.setTop (mkF m 23 #[.val (.int (own_b1 x))] [(.int (((own_b1 x) &&& (858993459 : Int32)) + ((((own_b1 x).toUInt32 >>> ((2 : Int32) &&& 31).toUInt32).toInt32) &&& (858993459 : Int32))))])) (fun _ k => XS.iadd X0.here hx rfl (hb hby d_rmB_22) rfl k) ?_
  refine own_st (q' := s₁.setTop (mkF m 24 #[.val (.int (((own_b1 x) &&& (858993459 : Int32)) + ((((own_b1 x).toUInt32 >>> ((2 : Int32) &&& 31).toUInt32).toInt32) &&& (858993459 : Int32))))] [])) (fun _ k => XS.istoreN X0.here hx rfl (hb hby d_rmB_23) rfl (l' := #[.val (.int (((own_b1 x) &&& (858993459 : Int32)) + ((((own_b1 x).toUInt32 >>> ((2 : Int32) &&& 31).toUInt32).toInt32) &&& (858993459 : Int32))))]) rfl k) ?_
  show own_Dn p e below s (fun v h L => v = some (.int (own_bc x)) ∧ Fr n0 L ∧ h = h0) ({ frames := 0, cells := 0, slots := 0, locals := 0 } : Room).cells ({ frames := 0, cells := 0, slots := 0, locals := 0 } : Room).slots (s₁.setTop (mkF m 24 #[.val (.int (own_b2 (own_b1 x)))] []))
  refine own_st (q' := s₁.setTop (mkF m 25 #[.val (.int (own_b2 (own_b1 x)))] [(.int (own_b2 (own_b1 x)))])) (fun _ k => XS.iloadN X0.here hx rfl (hb hby d_rmB_24) rfl k) ?_
  refine own_st (q' := s₁.setTop (mkF m 26 #[.val (.int (own_b2 (own_b1 x)))] [(.int (own_b2 (own_b1 x))), (.int (own_b2 (own_b1 x)))])) (fun _ k => XS.iloadN X0.here hx rfl (hb hby d_rmB_25) rfl k) ?_
  refine own_st (q' := s₁.setTop (mkF m 27 #[.val (.int (own_b2 (own_b1 x)))] [(.int (4 : Int32)), (.int (own_b2 (own_b1 x))), (.int (own_b2 (own_b1 x)))])) (fun _ k => XS.iconst X0.here hx rfl (hb hby d_rmB_26) k) ?_
  refine own_st (q' := s₁.setTop (mkF m 28 #[.val (.int (own_b2 (own_b1 x)))] [(.int (((own_b2 (own_b1 x)).toUInt32 >>> ((4 : Int32) &&& 31).toUInt32).toInt32)), (.int (own_b2 (own_b1 x)))])) (fun _ k => XS.iushr X0.here hx rfl (hb hby d_rmB_27) rfl k) ?_
  refine own_st (q' := s₁.setTop (mkF m 29 #[.val (.int (own_b2 (own_b1 x)))] [(.int ((own_b2 (own_b1 x)) + (((own_b2 (own_b1 x)).toUInt32 >>> ((4 : Int32) &&& 31).toUInt32).toInt32)))])) (fun _ k => XS.iadd X0.here hx rfl (hb hby d_rmB_28) rfl k) ?_
  refine own_st (q' := s₁.setTop (mkF m 32 #[.val (.int (own_b2 (own_b1 x)))] [(.int (252645135 : Int32)), (.int ((own_b2 (own_b1 x)) + (((own_b2 (own_b1 x)).toUInt32 >>> ((4 : Int32) &&& 31).toUInt32).toInt32)))])) (fun _ k => X0.ldcwInt hx hown (mvT hZ (hw _ (List.mem_of_getElem? (i := 47) rfl))) (g := (mkF m 29 #[.val (.int (own_b2 (own_b1 x)))] [(.int ((own_b2 (own_b1 x)) + (((own_b2 (own_b1 x)).toUInt32 >>> ((4 : Int32) &&& 31).toUInt32).toInt32)))])) rfl (hb hby d_rmB_29) _ k) ?_
  refine own_st (q' := s₁.setTop (mkF m 33 #[.val (.int (own_b2 (own_b1 x)))] [(.int (((own_b2 (own_b1 x)) + (((own_b2 (own_b1 x)).toUInt32 >>> ((4 : Int32) &&& 31).toUInt32).toInt32)) &&& (252645135 : Int32)))])) (fun _ k => XS.iand X0.here hx rfl (hb hby d_rmB_32) rfl k) ?_
  refine own_st (q' := s₁.setTop (mkF m 34 #[.val (.int (((own_b2 (own_b1 x)) + (((own_b2 (own_b1 x)).toUInt32 >>> ((4 : Int32) &&& 31).toUInt32).toInt32)) &&& (252645135 : Int32)))] [])) (fun _ k => XS.istoreN X0.here hx rfl (hb hby d_rmB_33) rfl (l' := #[.val (.int (((own_b2 (own_b1 x)) + (((own_b2 (own_b1 x)).toUInt32 >>> ((4 : Int32) &&& 31).toUInt32).toInt32)) &&& (252645135 : Int32)))]) rfl k) ?_
  show own_Dn p e below s (fun v h L => v = some (.int (own_bc x)) ∧ Fr n0 L ∧ h = h0) ({ frames := 0, cells := 0, slots := 0, locals := 0 } : Room).cells ({ frames := 0, cells := 0, slots := 0, locals := 0 } : Room).slots (s₁.setTop (mkF m 34 #[.val (.int (own_b3 (own_b2 (own_b1 x))))] []))
  refine own_st (q' := s₁.setTop (mkF m 35 #[.val (.int (own_b3 (own_b2 (own_b1 x))))] [(.int (own_b3 (own_b2 (own_b1 x))))])) (fun _ k => XS.iloadN X0.here hx rfl (hb hby d_rmB_34) rfl k) ?_
  refine own_st (q' := s₁.setTop (mkF m 36 #[.val (.int (own_b3 (own_b2 (own_b1 x))))] [(.int (own_b3 (own_b2 (own_b1 x)))), (.int (own_b3 (own_b2 (own_b1 x))))])) (fun _ k => XS.iloadN X0.here hx rfl (hb hby d_rmB_35) rfl k) ?_
  refine own_st (q' := s₁.setTop (mkF m 38 #[.val (.int (own_b3 (own_b2 (own_b1 x))))] [(.int (8 : Int32)), (.int (own_b3 (own_b2 (own_b1 x)))), (.int (own_b3 (own_b2 (own_b1 x))))])) (fun _ k => XS.bipush X0.here hx rfl (hb hby d_rmB_36) k) ?_
  refine own_st (q' := s₁.setTop (mkF m 39 #[.val (.int (own_b3 (own_b2 (own_b1 x))))] [(.int (((own_b3 (own_b2 (own_b1 x))).toUInt32 >>> ((8 : Int32) &&& 31).toUInt32).toInt32)), (.int (own_b3 (own_b2 (own_b1 x))))])) (fun _ k => XS.iushr X0.here hx rfl (hb hby d_rmB_38) rfl k) ?_
  refine own_st (q' := s₁.setTop (mkF m 40 #[.val (.int (own_b3 (own_b2 (own_b1 x))))] [(.int ((own_b3 (own_b2 (own_b1 x))) + (((own_b3 (own_b2 (own_b1 x))).toUInt32 >>> ((8 : Int32) &&& 31).toUInt32).toInt32)))])) (fun _ k => XS.iadd X0.here hx rfl (hb hby d_rmB_39) rfl k) ?_
  refine own_st (q' := s₁.setTop (mkF m 41 #[.val (.int ((own_b3 (own_b2 (own_b1 x))) + (((own_b3 (own_b2 (own_b1 x))).toUInt32 >>> ((8 : Int32) &&& 31).toUInt32).toInt32)))] [])) (fun _ k => XS.istoreN X0.here hx rfl (hb hby d_rmB_40) rfl (l' := #[.val (.int ((own_b3 (own_b2 (own_b1 x))) + (((own_b3 (own_b2 (own_b1 x))).toUInt32 >>> ((8 : Int32) &&& 31).toUInt32).toInt32)))]) rfl k) ?_
  show own_Dn p e below s (fun v h L => v = some (.int (own_bc x)) ∧ Fr n0 L ∧ h = h0) ({ frames := 0, cells := 0, slots := 0, locals := 0 } : Room).cells ({ frames := 0, cells := 0, slots := 0, locals := 0 } : Room).slots (s₁.setTop (mkF m 41 #[.val (.int (own_b4 (own_b3 (own_b2 (own_b1 x)))))] []))
  refine own_st (q' := s₁.setTop (mkF m 42 #[.val (.int (own_b4 (own_b3 (own_b2 (own_b1 x)))))] [(.int (own_b4 (own_b3 (own_b2 (own_b1 x)))))])) (fun _ k => XS.iloadN X0.here hx rfl (hb hby d_rmB_41) rfl k) ?_
  refine own_st (q' := s₁.setTop (mkF m 43 #[.val (.int (own_b4 (own_b3 (own_b2 (own_b1 x)))))] [(.int (own_b4 (own_b3 (own_b2 (own_b1 x))))), (.int (own_b4 (own_b3 (own_b2 (own_b1 x)))))])) (fun _ k => XS.iloadN X0.here hx rfl (hb hby d_rmB_42) rfl k) ?_
  refine own_st (q' := s₁.setTop (mkF m 45 #[.val (.int (own_b4 (own_b3 (own_b2 (own_b1 x)))))] [(.int (16 : Int32)), (.int (own_b4 (own_b3 (own_b2 (own_b1 x))))), (.int (own_b4 (own_b3 (own_b2 (own_b1 x)))))])) (fun _ k => XS.bipush X0.here hx rfl (hb hby d_rmB_43) k) ?_
  refine own_st (q' := s₁.setTop (mkF m 46 #[.val (.int (own_b4 (own_b3 (own_b2 (own_b1 x)))))] [(.int (((own_b4 (own_b3 (own_b2 (own_b1 x)))).toUInt32 >>> ((16 : Int32) &&& 31).toUInt32).toInt32)), (.int (own_b4 (own_b3 (own_b2 (own_b1 x)))))])) (fun _ k => XS.iushr X0.here hx rfl (hb hby d_rmB_45) rfl k) ?_
  refine own_st (q' := s₁.setTop (mkF m 47 #[.val (.int (own_b4 (own_b3 (own_b2 (own_b1 x)))))] [(.int ((own_b4 (own_b3 (own_b2 (own_b1 x)))) + (((own_b4 (own_b3 (own_b2 (own_b1 x)))).toUInt32 >>> ((16 : Int32) &&& 31).toUInt32).toInt32)))])) (fun _ k => XS.iadd X0.here hx rfl (hb hby d_rmB_46) rfl k) ?_
  refine own_st (q' := s₁.setTop (mkF m 48 #[.val (.int ((own_b4 (own_b3 (own_b2 (own_b1 x)))) + (((own_b4 (own_b3 (own_b2 (own_b1 x)))).toUInt32 >>> ((16 : Int32) &&& 31).toUInt32).toInt32)))] [])) (fun _ k => XS.istoreN X0.here hx rfl (hb hby d_rmB_47) rfl (l' := #[.val (.int ((own_b4 (own_b3 (own_b2 (own_b1 x)))) + (((own_b4 (own_b3 (own_b2 (own_b1 x)))).toUInt32 >>> ((16 : Int32) &&& 31).toUInt32).toInt32)))]) rfl k) ?_
  show own_Dn p e below s (fun v h L => v = some (.int (own_bc x)) ∧ Fr n0 L ∧ h = h0) ({ frames := 0, cells := 0, slots := 0, locals := 0 } : Room).cells ({ frames := 0, cells := 0, slots := 0, locals := 0 } : Room).slots (s₁.setTop (mkF m 48 #[.val (.int (own_b5 (own_b4 (own_b3 (own_b2 (own_b1 x))))))] []))
  refine own_st (q' := s₁.setTop (mkF m 49 #[.val (.int (own_b5 (own_b4 (own_b3 (own_b2 (own_b1 x))))))] [(.int (own_b5 (own_b4 (own_b3 (own_b2 (own_b1 x))))))])) (fun _ k => XS.iloadN X0.here hx rfl (hb hby d_rmB_48) rfl k) ?_
  refine own_st (q' := s₁.setTop (mkF m 51 #[.val (.int (own_b5 (own_b4 (own_b3 (own_b2 (own_b1 x))))))] [(.int (63 : Int32)), (.int (own_b5 (own_b4 (own_b3 (own_b2 (own_b1 x))))))])) (fun _ k => XS.bipush X0.here hx rfl (hb hby d_rmB_49) k) ?_
  refine own_st (q' := s₁.setTop (mkF m 52 #[.val (.int (own_b5 (own_b4 (own_b3 (own_b2 (own_b1 x))))))] [(.int ((own_b5 (own_b4 (own_b3 (own_b2 (own_b1 x))))) &&& (63 : Int32)))])) (fun _ k => XS.iand X0.here hx rfl (hb hby d_rmB_51) rfl k) ?_
  exact own_retI X0 hx hlk hret (hb hby d_rmB_52) e0 (by exact ⟨rfl, N0, rfl⟩) (by decide) (by decide)
def own_min (x y : Int64) : Int64 := if (0 : Int32) < lcmpW x y then y else x
theorem ef_rmM (m : MethodId) (x0 : Int64) (x1 : Int64) : entryFrame m #[(.long x0), (.long x1)] 4 = mkF m 0 #[.val (.long x0), .second, .val (.long x1), .second] [] := by first | (simp [entryFrame, mkF, argsToLocals, Value.category]; done) | rfl
theorem d_rmM_0 : decode jdk_29_method_70_code 0 = .ok (.lload_n 0, 1) := by decide +kernel
theorem d_rmM_1 : decode jdk_29_method_70_code 1 = .ok (.lload_n 2, 1) := by decide +kernel
theorem d_rmM_2 : decode jdk_29_method_70_code 2 = .ok (.lcmp, 1) := by decide +kernel
theorem d_rmM_3 : decode jdk_29_method_70_code 3 = .ok (.ifCond .gt 7, 3) := by decide +kernel
theorem d_rmM_6 : decode jdk_29_method_70_code 6 = .ok (.lload_n 0, 1) := by decide +kernel
theorem d_rmM_7 : decode jdk_29_method_70_code 7 = .ok (.goto 4, 3) := by decide +kernel
theorem d_rmM_10 : decode jdk_29_method_70_code 10 = .ok (.lload_n 2, 1) := by decide +kernel
theorem d_rmM_11 : decode jdk_29_method_70_code 11 = .ok (.lreturn, 1) := by decide +kernel
set_option maxRecDepth 65536 in
set_option maxHeartbeats 40000000 in
theorem rmM (l : Launch) (Z : State) (a0 : Array Value) (hw : ∀ d ∈ tables_1, d.before a0 Z = true) (ws : List Jvm.Cond) (x y : Int64) (h0 : Heap) (n0 : Nat) (Z0 : n0 ≤ h0.size) :
    own_Met l Z (⟨"java/lang/Math", "min", "(JJ)J"⟩ : MethodName) ws jdk_29_method_70_code 4 (some .long) ({ frames := 0, cells := 0, slots := 0, locals := 0 } : Room) #[(.long x), (.long y)] h0 (fun v h L => v = some (.long (own_min x y)) ∧ Fr n0 L ∧ h = h0) := by
  refine own_body (y := (⟨"java/lang/Math", "min", "(JJ)J"⟩ : MethodName)) (Jvm.Free.JP.mathPlain rfl (by decide +kernel)) ?_
  intro p e s m below meth c s₁ hx hby hml hown hnm hret hlk hZ X0 e0
  have hml : c.maxLocals = 4 := hml
  have hown : s.vm.findClass "java/lang/Math" = some m.cls := hown
  have N0 := Fr.nil n0
  refine own_entry (ef_rmM m x y) ?_
  show own_Dn p e below s (fun v h L => v = some (.long (own_min x y)) ∧ Fr n0 L ∧ h = h0) ({ frames := 0, cells := 0, slots := 0, locals := 0 } : Room).cells ({ frames := 0, cells := 0, slots := 0, locals := 0 } : Room).slots (s₁.setTop (mkF m 0 #[.val (.long x), .second, .val (.long y), .second] []))
  refine own_st (q' := s₁.setTop (mkF m 1 #[.val (.long x), .second, .val (.long y), .second] [(.long x)])) (fun _ k => XS.lloadN X0.here hx rfl (hb hby d_rmM_0) rfl k) ?_
  refine own_st (q' := s₁.setTop (mkF m 2 #[.val (.long x), .second, .val (.long y), .second] [(.long y), (.long x)])) (fun _ k => XS.lloadN X0.here hx rfl (hb hby d_rmM_1) rfl k) ?_
  refine own_st (q' := s₁.setTop (mkF m 3 #[.val (.long x), .second, .val (.long y), .second] [(.int (lcmpW x y))])) (fun _ k => XS.lcmp X0.here hx rfl (hb hby d_rmM_2) rfl k) ?_
  by_cases hc3_101 : (0 : Int32) < (lcmpW x y)
  · skip
    have hc3_101I : (0 : Int) < ((lcmpW x y)).toInt := own_ltT hc3_101
    refine own_st (q' := s₁.setTop (mkF m 10 #[.val (.long x), .second, .val (.long y), .second] [])) (fun _ k => XS.ifYes X0.here hx rfl (pc0 := 3) (pc' := 10) rfl (hb hby d_rmM_3) rfl ((if0 _ _).trans (tlt hc3_101).2.2.1) (by decide) (by decide) k) ?_
    refine own_st (q' := s₁.setTop (mkF m 11 #[.val (.long x), .second, .val (.long y), .second] [(.long y)])) (fun _ k => XS.lloadN X0.here hx rfl (hb hby d_rmM_10) rfl k) ?_
    exact own_retO X0 hx hlk (i := .lreturn) hret rfl (Or.inr (Or.inl ⟨rfl, rfl, _, rfl⟩)) (hb hby d_rmM_11) e0 (by exact ⟨(by unfold own_min; rw [if_pos hc3_101]), N0, rfl⟩) (by decide) (by decide)
  · skip
    have hc3_101I : ((lcmpW x y)).toInt ≤ (0 : Int) := own_ltF hc3_101
    refine own_st (q' := s₁.setTop (mkF m 6 #[.val (.long x), .second, .val (.long y), .second] [])) (fun _ k => XS.ifNo X0.here hx rfl (hb hby d_rmM_3) rfl ((if0 _ _).trans (flt hc3_101).2.2.1) k) ?_
    refine own_st (q' := s₁.setTop (mkF m 7 #[.val (.long x), .second, .val (.long y), .second] [(.long x)])) (fun _ k => XS.lloadN X0.here hx rfl (hb hby d_rmM_6) rfl k) ?_
    refine own_st (q' := s₁.setTop (mkF m 11 #[.val (.long x), .second, .val (.long y), .second] [(.long x)])) (fun _ k => XS.goto X0.here hx rfl (pc0 := 7) (pc' := 11) rfl (hb hby d_rmM_7) (by decide) (by decide) k) ?_
    exact own_retO X0 hx hlk (i := .lreturn) hret rfl (Or.inr (Or.inl ⟨rfl, rfl, _, rfl⟩)) (hb hby d_rmM_11) e0 (by exact ⟨(by unfold own_min; rw [if_neg hc3_101]), N0, rfl⟩) (by decide) (by decide)
theorem ef_rmC (m : MethodId) (x0 : Addr) (x1 : Int64) : entryFrame m #[(.ref x0), (.long x1)] 3 = mkF m 0 #[.val (.ref x0), .val (.long x1), .second] [] := by first | (simp [entryFrame, mkF, argsToLocals, Value.category]; done) | rfl
theorem pd_2 : parseMethodDescriptor "(I)I" = some ⟨[.int], some .int⟩ := by decide +kernel
theorem pd_3 : parseMethodDescriptor "(JJ)J" = some ⟨[.long, .long], some .long⟩ := by decide +kernel
theorem d_rmC_0 : decode prog_12_method_6_code 0 = .ok (.lload_n 1, 1) := by decide +kernel
theorem d_rmC_1 : decode prog_12_method_6_code 1 = .ok (.aload_n 0, 1) := by decide +kernel
theorem d_rmC_2 : decode prog_12_method_6_code 2 = .ok (.getfield 9, 3) := by decide +kernel
theorem d_rmC_5 : decode prog_12_method_6_code 5 = .ok (.invokestatic 16, 3) := by decide +kernel
theorem d_rmC_8 : decode prog_12_method_6_code 8 = .ok (.i2l, 1) := by decide +kernel
theorem d_rmC_9 : decode prog_12_method_6_code 9 = .ok (.invokestatic 22, 3) := by decide +kernel
theorem d_rmC_12 : decode prog_12_method_6_code 12 = .ok (.lreturn, 1) := by decide +kernel
set_option maxRecDepth 65536 in
set_option maxHeartbeats 40000000 in
theorem rmC (l : Launch) (Z : State) (a0 : Array Value) (hw : ∀ d ∈ tables_1, d.before a0 Z = true) (ws : List Jvm.Cond) (a : Addr) (k : Int64) (x : Int32) (h0 : Heap) (n0 : Nat) (Z0 : n0 ≤ h0.size) (F1 : Fld Z h0 a "com/example/nominate/nominate/datatype/DataRange$Truths" "values" "I" (.int x)) :
    own_Met l Z (⟨"com/example/nominate/nominate/datatype/DataRange$Truths", "count", "(J)J"⟩ : MethodName) ws prog_12_method_6_code 3 (some .long) ({ frames := 1, cells := 0, slots := 0, locals := 15 } : Room) #[(.ref a), (.long k)] h0 (fun v h L => v = some (.long (own_min k (own_bc x).toInt64)) ∧ Fr n0 L ∧ h = h0) := by
  refine own_body (y := (⟨"com/example/nominate/nominate/datatype/DataRange$Truths", "count", "(J)J"⟩ : MethodName)) (plainFor_of_name pn_1) ?_
  intro p e s m below meth c s₁ hx hby hml hown hnm hret hlk hZ X0 e0
  have hml : c.maxLocals = 3 := hml
  have hown : s.vm.findClass "com/example/nominate/nominate/datatype/DataRange$Truths" = some m.cls := hown
  have N0 := Fr.nil n0
  refine own_entry (ef_rmC m a k) ?_
  show own_Dn p e below s (fun v h L => v = some (.long (own_min k (own_bc x).toInt64)) ∧ Fr n0 L ∧ h = h0) ({ frames := 1, cells := 0, slots := 0, locals := 15 } : Room).cells ({ frames := 1, cells := 0, slots := 0, locals := 15 } : Room).slots (s₁.setTop (mkF m 0 #[.val (.ref a), .val (.long k), .second] []))
  refine own_st (q' := s₁.setTop (mkF m 1 #[.val (.ref a), .val (.long k), .second] [(.long k)])) (fun _ k => XS.lloadN X0.here hx rfl (hb hby d_rmC_0) rfl k) ?_
  refine own_st (q' := s₁.setTop (mkF m 2 #[.val (.ref a), .val (.long k), .second] [(.ref a), (.long k)])) (fun _ k => XS.aloadN X0.here hx rfl (hb hby d_rmC_1) rfl rfl k) ?_
  obtain ⟨T101, X101, e101, st101⟩ := getF X0 hx hZ hown (host := "") (Or.inl (hw _ (List.mem_of_getElem? (i := 14) rfl))) Via.refl e0 F1 (g := (mkF m 2 #[.val (.ref a), .val (.long k), .second] [(.ref a), (.long k)])) rfl rfl (hb hby d_rmC_2)
  refine own_st (q' := T101.setTop (mkF m 5 #[.val (.ref a), .val (.long k), .second] [(.int x), (.long k)])) st101 ?_
  refine own_callS (y := (⟨"java/lang/Integer", "bitCount", "(I)I"⟩ : MethodName)) X101 hx hZ hown (hw _ (List.mem_of_getElem? (i := 41) rfl)) (hw _ (List.mem_of_getElem? (i := 42) rfl)) (hw _ (List.mem_of_getElem? (i := 43) rfl)) (hw _ (List.mem_of_getElem? (i := 44) rfl)) (by decide) (rmB l Z a0 hw [] x h0 n0 Z0) e101 (W := 2) (by decide) (by decide) (by decide) (by decide) (g := (mkF m 5 #[.val (.ref a), .val (.long k), .second] [(.int x), (.long k)])) rfl (by rw [hml]; rfl) (argsL := [(.int x)]) (rest := [(.long k)]) rfl (lenOf pd_2 rfl) rfl (by show 2 * 0 + _ ≤ _; exact Nat.le_of_eq rfl) (hb hby d_rmC_5) ?_
  intro v102 T102 L102 hQ102 X102
  obtain ⟨rfl, NN102, e102⟩ := hQ102
  have N102 := Fr.app N0 NN102
  show own_Dn p e below s (fun v h L => v = some (.long (own_min k (own_bc x).toInt64)) ∧ Fr n0 L ∧ h = h0) ({ frames := 1, cells := 0, slots := 0, locals := 15 } : Room).cells ({ frames := 1, cells := 0, slots := 0, locals := 15 } : Room).slots (T102.setTop (mkF m 8 #[.val (.ref a), .val (.long k), .second] [(.int (own_bc x)), (.long k)]))
  refine own_st (q' := T102.setTop (mkF m 9 #[.val (.ref a), .val (.long k), .second] [(.long ((own_bc x).toInt64)), (.long k)])) (fun _ k => XS.i2l X102.here hx rfl (hb hby d_rmC_8) rfl k) ?_
  refine own_callS (y := (⟨"java/lang/Math", "min", "(JJ)J"⟩ : MethodName)) X102 hx hZ hown (hw _ (List.mem_of_getElem? (i := 48) rfl)) (hw _ (List.mem_of_getElem? (i := 49) rfl)) (hw _ (List.mem_of_getElem? (i := 50) rfl)) (hw _ (List.mem_of_getElem? (i := 51) rfl)) (by decide) (rmM l Z a0 hw [] k ((own_bc x).toInt64) h0 n0 Z0) e102 (W := 0) (by decide) (by decide) (by decide) (by decide) (g := (mkF m 9 #[.val (.ref a), .val (.long k), .second] [(.long ((own_bc x).toInt64)), (.long k)])) rfl (by rw [hml]; rfl) (argsL := [(.long k), (.long ((own_bc x).toInt64))]) (rest := []) rfl (lenOf pd_3 rfl) rfl (by show 2 * 0 + _ ≤ _; exact Nat.le_of_eq rfl) (hb hby d_rmC_9) ?_
  intro v103 T103 L103 hQ103 X103
  obtain ⟨rfl, NN103, e103⟩ := hQ103
  have N103 := Fr.app N102 NN103
  show own_Dn p e below s (fun v h L => v = some (.long (own_min k (own_bc x).toInt64)) ∧ Fr n0 L ∧ h = h0) ({ frames := 1, cells := 0, slots := 0, locals := 15 } : Room).cells ({ frames := 1, cells := 0, slots := 0, locals := 15 } : Room).slots (T103.setTop (mkF m 12 #[.val (.ref a), .val (.long k), .second] [(.long (own_min k ((own_bc x).toInt64)))]))
  exact own_retO X103 hx hlk (i := .lreturn) hret rfl (Or.inr (Or.inl ⟨rfl, rfl, _, rfl⟩)) (hb hby d_rmC_12) e103 (by exact ⟨rfl, N103, rfl⟩) (by decide) (by decide)
theorem own_four (x : Int32) : (x &&& (3 : Int32)) = 0 ∨ (x &&& (3 : Int32)) = 1 ∨ (x &&& (3 : Int32)) = 2 ∨ (x &&& (3 : Int32)) = 3 := by
  have q := c_mask x 3 2 (by decide) (by decide)
  have : (x &&& 3).toInt = 0 ∨ (x &&& 3).toInt = 1 ∨ (x &&& 3).toInt = 2 ∨ (x &&& 3).toInt = 3 := by omega
  rcases this with q | q | q | q
  · exact Or.inl (own_eq q)
  · exact Or.inr (Or.inl (own_eq q))
  · exact Or.inr (Or.inr (Or.inl (own_eq q)))
  · exact Or.inr (Or.inr (Or.inr (own_eq q)))
theorem own_k1 {vv y1 : Int32} (hp4 : vv = 0 ∨ vv = 1 ∨ vv = 2 ∨ vv = 3) (hy1 : y1 = if lcmpW (own_min (1 : Int64) (own_bc vv).toInt64) (0 : Int64) = (0 : Int32) then (1 : Int32) else 0) : y1 = own_emp vv := by
  subst hy1
  rcases hp4 with rfl | rfl | rfl | rfl <;> decide
theorem own_k2 {vv z6 z7 z8 : Int32} (hp4 : vv = 0 ∨ vv = 1 ∨ vv = 2 ∨ vv = 3) (hz6 : z6 = if vv &&& (1 : Int32) = (0 : Int32) then (0 : Int32) else 1) (hz7 : z7 = if vv &&& (2 : Int32) = (0 : Int32) then (0 : Int32) else 1) (hz8 : z8 = if z6 = (0 : Int32) then (if z7 = (0 : Int32) then (1 : Int32) else 0) else 0) : own_emp vv = z8 := by
  subst hz6 hz7 hz8
  rcases hp4 with rfl | rfl | rfl | rfl <;> decide
theorem own_k3 {vv ww z6 z7 z10 z11 y2 : Int32} (hp4 : vv = 0 ∨ vv = 1 ∨ vv = 2 ∨ vv = 3) (hq4 : ww = 0 ∨ ww = 1 ∨ ww = 2 ∨ ww = 3) (hz6 : z6 = if vv &&& (1 : Int32) = (0 : Int32) then (0 : Int32) else 1) (hz7 : z7 = if vv &&& (2 : Int32) = (0 : Int32) then (0 : Int32) else 1) (hz10 : z10 = if z6 = (0 : Int32) then (0 : Int32) else if ww &&& (1 : Int32) = (0 : Int32) then 0 else 1) (hz11 : z11 = if z7 = (0 : Int32) then (0 : Int32) else if ww &&& (2 : Int32) = (0 : Int32) then 0 else 1) (hy2 : y2 = if z10 = (0 : Int32) then (if z11 = (0 : Int32) then (1 : Int32) else 0) else 0) : own_emp (vv &&& ww) = y2 := by
  subst hz6 hz7 hz10 hz11 hy2
  rcases hp4 with rfl | rfl | rfl | rfl <;> rcases hq4 with rfl | rfl | rfl | rfl <;> decide
theorem own_k4 {vv z6 z7 y3 : Int32} (hp4 : vv = 0 ∨ vv = 1 ∨ vv = 2 ∨ vv = 3) (hz6 : z6 = if vv &&& (1 : Int32) = (0 : Int32) then (0 : Int32) else 1) (hz7 : z7 = if vv &&& (2 : Int32) = (0 : Int32) then (0 : Int32) else 1) (hy3 : y3 = if z6 = (0 : Int32) then (0 : Int32) else if z7 = (0 : Int32) then 0 else 1) : own_emp ((3 : Int32) &&& (vv ^^^ (-1 : Int32))) = y3 := by
  subst hz6 hz7 hy3
  rcases hp4 with rfl | rfl | rfl | rfl <;> decide
theorem pn_3 : plainName "com/example/nominate/nominate/datatype/TruthsIsEmptyPinLaw" = true := by first | (simp [plainName, overriddenIn]; done) | decide +kernel
theorem ef_rm0 (m : MethodId) (x0 : Int32) (x1 : Int32) : entryFrame m #[(.int x0), (.int x1)] maxLocals = mkF m 0 #[.val (.int x0), .val (.int x1), .unset, .unset, .unset, .unset, .unset, .unset, .unset, .unset, .unset, .unset, .unset, .unset, .unset, .unset, .unset] [] := by first | (simp [entryFrame, mkF, argsToLocals, Value.category, maxLocals]; done) | rfl
theorem pd_4 : parseMethodDescriptor "()Z" = some ⟨[], some .boolean⟩ := by decide +kernel
theorem pd_5 : parseMethodDescriptor "(Lcom/example/nominate/nominate/datatype/DataRange$Part;)Lcom/example/nominate/nominate/datatype/DataRange$Part;" = some ⟨[(.object "com/example/nominate/nominate/datatype/DataRange$Part")], some (.object "com/example/nominate/nominate/datatype/DataRange$Part")⟩ := by decide +kernel
theorem pd_6 : parseMethodDescriptor "(J)J" = some ⟨[.long], some .long⟩ := by decide +kernel
theorem pd_7 : parseMethodDescriptor "()Lcom/example/nominate/nominate/datatype/DataRange$Part;" = some ⟨[], some (.object "com/example/nominate/nominate/datatype/DataRange$Part")⟩ := by decide +kernel
set_option maxRecDepth 65536 in
set_option maxHeartbeats 40000000 in
theorem rm0 (l : Launch) (Z : State) (a0 : Array Value) (hw : ∀ d ∈ tables_1, d.before a0 Z = true) (ws : List Jvm.Cond) (x0 x1 : Int32) (h0 : Heap) (n0 : Nat) (Z0 : n0 ≤ h0.size) :
    own_Met l Z x ws code maxLocals ret room_1 #[(.int x0), (.int x1)] h0 (fun v h L => v = some (.int 1) ∧ Fr n0 L) := by
  refine own_body (y := x) (plainFor_of_name pn_3) ?_
  intro p e s m below meth c s₁ hx hby hml hown hnm hret hlk hZ X0 e0
  have hml : c.maxLocals = 17 := hml
  have hown : s.vm.findClass "com/example/nominate/nominate/datatype/TruthsIsEmptyPinLaw" = some m.cls := hown
  have N0 := Fr.nil n0
  refine own_entry (ef_rm0 m x0 x1) ?_
  show own_Dn p e below s (fun v h L => v = some (.int 1) ∧ Fr n0 L) room_1.cells room_1.slots (s₁.setTop (mkF m 0 #[.val (.int x0), .val (.int x1), .unset, .unset, .unset, .unset, .unset, .unset, .unset, .unset, .unset, .unset, .unset, .unset, .unset, .unset, .unset] []))
  refine own_st (q' := s₁.setTop (mkF m 1 #[.val (.int x0), .val (.int x1), .unset, .unset, .unset, .unset, .unset, .unset, .unset, .unset, .unset, .unset, .unset, .unset, .unset, .unset, .unset] [(.int x0)])) (fun _ k => XS.iloadN X0.here hx rfl (hb hby at_0) rfl k) ?_
  refine own_st (q' := s₁.setTop (mkF m 2 #[.val (.int x0), .val (.int x1), .unset, .unset, .unset, .unset, .unset, .unset, .unset, .unset, .unset, .unset, .unset, .unset, .unset, .unset, .unset] [(.int (3 : Int32)), (.int x0)])) (fun _ k => XS.iconst X0.here hx rfl (hb hby at_1) k) ?_
  refine own_st (q' := s₁.setTop (mkF m 3 #[.val (.int x0), .val (.int x1), .unset, .unset, .unset, .unset, .unset, .unset, .unset, .unset, .unset, .unset, .unset, .unset, .unset, .unset, .unset] [(.int (x0 &&& (3 : Int32)))])) (fun _ k => XS.iand X0.here hx rfl (hb hby at_2) rfl k) ?_
  refine own_st (q' := s₁.setTop (mkF m 4 #[.val (.int x0), .val (.int x1), .val (.int (x0 &&& (3 : Int32))), .unset, .unset, .unset, .unset, .unset, .unset, .unset, .unset, .unset, .unset, .unset, .unset, .unset, .unset] [])) (fun _ k => XS.istoreN X0.here hx rfl (hb hby at_3) rfl (l' := #[.val (.int x0), .val (.int x1), .val (.int (x0 &&& (3 : Int32))), .unset, .unset, .unset, .unset, .unset, .unset, .unset, .unset, .unset, .unset, .unset, .unset, .unset, .unset]) rfl k) ?_
  refine own_st (q' := s₁.setTop (mkF m 5 #[.val (.int x0), .val (.int x1), .val (.int (x0 &&& (3 : Int32))), .unset, .unset, .unset, .unset, .unset, .unset, .unset, .unset, .unset, .unset, .unset, .unset, .unset, .unset] [(.int x1)])) (fun _ k => XS.iloadN X0.here hx rfl (hb hby at_4) rfl k) ?_
  refine own_st (q' := s₁.setTop (mkF m 6 #[.val (.int x0), .val (.int x1), .val (.int (x0 &&& (3 : Int32))), .unset, .unset, .unset, .unset, .unset, .unset, .unset, .unset, .unset, .unset, .unset, .unset, .unset, .unset] [(.int (3 : Int32)), (.int x1)])) (fun _ k => XS.iconst X0.here hx rfl (hb hby at_5) k) ?_
  refine own_st (q' := s₁.setTop (mkF m 7 #[.val (.int x0), .val (.int x1), .val (.int (x0 &&& (3 : Int32))), .unset, .unset, .unset, .unset, .unset, .unset, .unset, .unset, .unset, .unset, .unset, .unset, .unset, .unset] [(.int (x1 &&& (3 : Int32)))])) (fun _ k => XS.iand X0.here hx rfl (hb hby at_6) rfl k) ?_
  refine own_st (q' := s₁.setTop (mkF m 8 #[.val (.int x0), .val (.int x1), .val (.int (x0 &&& (3 : Int32))), .val (.int (x1 &&& (3 : Int32))), .unset, .unset, .unset, .unset, .unset, .unset, .unset, .unset, .unset, .unset, .unset, .unset, .unset] [])) (fun _ k => XS.istoreN X0.here hx rfl (hb hby at_7) rfl (l' := #[.val (.int x0), .val (.int x1), .val (.int (x0 &&& (3 : Int32))), .val (.int (x1 &&& (3 : Int32))), .unset, .unset, .unset, .unset, .unset, .unset, .unset, .unset, .unset, .unset, .unset, .unset, .unset]) rfl k) ?_
  generalize hvv : (x0 &&& (3 : Int32)) = vv
  generalize hww : (x1 &&& (3 : Int32)) = ww
  have hp4 := own_four x0
  rw [hvv] at hp4
  have hq4 := own_four x1
  rw [hww] at hq4
  show own_Dn p e below s (fun v h L => v = some (.int 1) ∧ Fr n0 L) room_1.cells room_1.slots (s₁.setTop (mkF m 8 #[.val (.int x0), .val (.int x1), .val (.int vv), .val (.int ww), .unset, .unset, .unset, .unset, .unset, .unset, .unset, .unset, .unset, .unset, .unset, .unset, .unset] []))
  obtain ⟨T101, h101, X101, e101, E101, A101, D101, -, st101⟩ := newO X0 hx hZ hown (hw _ (List.mem_of_getElem? (i := 0) rfl)) (hw _ (List.mem_of_getElem? (i := 1) rfl)) (hw _ (List.mem_of_getElem? (i := 2) rfl)) e0 (g := (mkF m 8 #[.val (.int x0), .val (.int x1), .val (.int vv), .val (.int ww), .unset, .unset, .unset, .unset, .unset, .unset, .unset, .unset, .unset, .unset, .unset, .unset, .unset] [])) rfl (hb hby at_8) (by decide) (by decide)
  obtain ⟨b101, g101⟩ : ∃ z, z = h0.size := ⟨_, rfl⟩
  rw [← g101] at A101 D101 st101
  have ge_b101 : n0 ≤ b101 := Nat.le_trans Z0 (Nat.le_of_eq g101.symm)
  have F_values_b101 : Fld Z h101 b101 "com/example/nominate/nominate/datatype/DataRange$Truths" "values" "I" (.int (0 : Int32)) := D101 (Or.inr (hw _ (List.mem_of_getElem? (i := 15) rfl))) (ty := .int) (by decide)
  refine own_st (q' := T101.setTop (mkF m 11 #[.val (.int x0), .val (.int x1), .val (.int vv), .val (.int ww), .unset, .unset, .unset, .unset, .unset, .unset, .unset, .unset, .unset, .unset, .unset, .unset, .unset] [(.ref b101)])) st101 ?_
  refine own_st (q' := T101.setTop (mkF m 12 #[.val (.int x0), .val (.int x1), .val (.int vv), .val (.int ww), .unset, .unset, .unset, .unset, .unset, .unset, .unset, .unset, .unset, .unset, .unset, .unset, .unset] [(.ref b101), (.ref b101)])) (fun _ k => XS.dup X101.here hx rfl (hb hby at_11) rfl rfl k) ?_
  refine own_st (q' := T101.setTop (mkF m 13 #[.val (.int x0), .val (.int x1), .val (.int vv), .val (.int ww), .unset, .unset, .unset, .unset, .unset, .unset, .unset, .unset, .unset, .unset, .unset, .unset, .unset] [(.int vv), (.ref b101), (.ref b101)])) (fun _ k => XS.iloadN X101.here hx rfl (hb hby at_12) rfl k) ?_
  refine own_callI (y := (⟨"com/example/nominate/nominate/datatype/DataRange$Truths", "<init>", "(I)V"⟩ : MethodName)) X101 hx hZ hown rfl (hw _ (List.mem_of_getElem? (i := 3) rfl)) (hw _ (List.mem_of_getElem? (i := 4) rfl)) (hw _ (List.mem_of_getElem? (i := 2) rfl)) (hw _ (List.mem_of_getElem? (i := 5) rfl)) (by decide) (rmI l Z a0 hw [] b101 vv h101 n0 (Nat.le_trans Z0 E101.1) A101 ge_b101 F_values_b101) e101 (W := 1) (by decide) (by decide) (by decide) (by decide) (g := (mkF m 13 #[.val (.int x0), .val (.int x1), .val (.int vv), .val (.int ww), .unset, .unset, .unset, .unset, .unset, .unset, .unset, .unset, .unset, .unset, .unset, .unset, .unset] [(.int vv), (.ref b101), (.ref b101)])) rfl (by rw [hml]; rfl) (a := b101) (argsL := [(.int vv)]) (rest := [(.ref b101)]) rfl (lenOf pd_1 rfl) rfl (by show 2 * 0 + _ ≤ _; exact Nat.le_of_eq rfl) (hb hby at_13) ?_
  intro v102 T102 L102 hQ102 X102
  obtain ⟨rfl, NN102, KK102, q102_0, q102_1⟩ := hQ102
  have N102 := Fr.app N0 NN102
  show own_Dn p e below s (fun v h L => v = some (.int 1) ∧ Fr n0 L) room_1.cells room_1.slots (T102.setTop (mkF m 16 #[.val (.int x0), .val (.int x1), .val (.int vv), .val (.int ww), .unset, .unset, .unset, .unset, .unset, .unset, .unset, .unset, .unset, .unset, .unset, .unset, .unset] [(.ref b101)]))
  refine own_st (q' := T102.setTop (mkF m 18 #[.val (.int x0), .val (.int x1), .val (.int vv), .val (.int ww), .val (.ref b101), .unset, .unset, .unset, .unset, .unset, .unset, .unset, .unset, .unset, .unset, .unset, .unset] [])) (fun _ k => XS.astore X102.here hx rfl (hb hby at_16) rfl rfl (l' := #[.val (.int x0), .val (.int x1), .val (.int vv), .val (.int ww), .val (.ref b101), .unset, .unset, .unset, .unset, .unset, .unset, .unset, .unset, .unset, .unset, .unset, .unset]) rfl k) ?_
  obtain ⟨T103, h103, X103, e103, E103, A103, D103, -, st103⟩ := newO X102 hx hZ hown (hw _ (List.mem_of_getElem? (i := 0) rfl)) (hw _ (List.mem_of_getElem? (i := 1) rfl)) (hw _ (List.mem_of_getElem? (i := 2) rfl)) (rfl : T102.heap = T102.heap) (g := (mkF m 18 #[.val (.int x0), .val (.int x1), .val (.int vv), .val (.int ww), .val (.ref b101), .unset, .unset, .unset, .unset, .unset, .unset, .unset, .unset, .unset, .unset, .unset, .unset] [])) rfl (hb hby at_18) (by decide) (by decide)
  obtain ⟨b103, g103⟩ : ∃ z, z = T102.heap.size := ⟨_, rfl⟩
  rw [← g103] at A103 D103 st103
  have ne_b101_b103 : b101 ≠ b103 := Nat.ne_of_lt (Nat.lt_of_lt_of_le q102_0.lt (Nat.le_of_eq g103.symm))
  have ge_b103 : n0 ≤ b103 := Nat.le_trans (Nat.le_trans (Nat.le_trans Z0 E101.1) KK102.1) (Nat.le_of_eq g103.symm)
  have F_values_b103 : Fld Z h103 b103 "com/example/nominate/nominate/datatype/DataRange$Truths" "values" "I" (.int (0 : Int32)) := D103 (Or.inr (hw _ (List.mem_of_getElem? (i := 15) rfl))) (ty := .int) (by decide)
  refine own_st (q' := T103.setTop (mkF m 21 #[.val (.int x0), .val (.int x1), .val (.int vv), .val (.int ww), .val (.ref b101), .unset, .unset, .unset, .unset, .unset, .unset, .unset, .unset, .unset, .unset, .unset, .unset] [(.ref b103)])) st103 ?_
  refine own_st (q' := T103.setTop (mkF m 22 #[.val (.int x0), .val (.int x1), .val (.int vv), .val (.int ww), .val (.ref b101), .unset, .unset, .unset, .unset, .unset, .unset, .unset, .unset, .unset, .unset, .unset, .unset] [(.ref b103), (.ref b103)])) (fun _ k => XS.dup X103.here hx rfl (hb hby at_21) rfl rfl k) ?_
  refine own_st (q' := T103.setTop (mkF m 23 #[.val (.int x0), .val (.int x1), .val (.int vv), .val (.int ww), .val (.ref b101), .unset, .unset, .unset, .unset, .unset, .unset, .unset, .unset, .unset, .unset, .unset, .unset] [(.int ww), (.ref b103), (.ref b103)])) (fun _ k => XS.iloadN X103.here hx rfl (hb hby at_22) rfl k) ?_
  refine own_callI (y := (⟨"com/example/nominate/nominate/datatype/DataRange$Truths", "<init>", "(I)V"⟩ : MethodName)) X103 hx hZ hown rfl (hw _ (List.mem_of_getElem? (i := 3) rfl)) (hw _ (List.mem_of_getElem? (i := 4) rfl)) (hw _ (List.mem_of_getElem? (i := 2) rfl)) (hw _ (List.mem_of_getElem? (i := 5) rfl)) (by decide) (rmI l Z a0 hw [] b103 ww h103 n0 (Nat.le_trans (Nat.le_trans (Nat.le_trans Z0 E101.1) KK102.1) E103.1) A103 ge_b103 F_values_b103) e103 (W := 1) (by decide) (by decide) (by decide) (by decide) (g := (mkF m 23 #[.val (.int x0), .val (.int x1), .val (.int vv), .val (.int ww), .val (.ref b101), .unset, .unset, .unset, .unset, .unset, .unset, .unset, .unset, .unset, .unset, .unset, .unset] [(.int ww), (.ref b103), (.ref b103)])) rfl (by rw [hml]; rfl) (a := b103) (argsL := [(.int ww)]) (rest := [(.ref b103)]) rfl (lenOf pd_1 rfl) rfl (by show 2 * 0 + _ ≤ _; exact Nat.le_of_eq rfl) (hb hby at_23) ?_
  intro v104 T104 L104 hQ104 X104
  obtain ⟨rfl, NN104, KK104, q104_0, q104_1⟩ := hQ104
  have N104 := Fr.app N102 NN104
  show own_Dn p e below s (fun v h L => v = some (.int 1) ∧ Fr n0 L) room_1.cells room_1.slots (T104.setTop (mkF m 26 #[.val (.int x0), .val (.int x1), .val (.int vv), .val (.int ww), .val (.ref b101), .unset, .unset, .unset, .unset, .unset, .unset, .unset, .unset, .unset, .unset, .unset, .unset] [(.ref b103)]))
  refine own_st (q' := T104.setTop (mkF m 28 #[.val (.int x0), .val (.int x1), .val (.int vv), .val (.int ww), .val (.ref b101), .val (.ref b103), .unset, .unset, .unset, .unset, .unset, .unset, .unset, .unset, .unset, .unset, .unset] [])) (fun _ k => XS.astore X104.here hx rfl (hb hby at_26) rfl rfl (l' := #[.val (.int x0), .val (.int x1), .val (.int vv), .val (.int ww), .val (.ref b101), .val (.ref b103), .unset, .unset, .unset, .unset, .unset, .unset, .unset, .unset, .unset, .unset, .unset]) rfl k) ?_
  refine own_st (q' := T104.setTop (mkF m 29 #[.val (.int x0), .val (.int x1), .val (.int vv), .val (.int ww), .val (.ref b101), .val (.ref b103), .unset, .unset, .unset, .unset, .unset, .unset, .unset, .unset, .unset, .unset, .unset] [(.int vv)])) (fun _ k => XS.iloadN X104.here hx rfl (hb hby at_28) rfl k) ?_
  refine own_st (q' := T104.setTop (mkF m 30 #[.val (.int x0), .val (.int x1), .val (.int vv), .val (.int ww), .val (.ref b101), .val (.ref b103), .unset, .unset, .unset, .unset, .unset, .unset, .unset, .unset, .unset, .unset, .unset] [(.int (1 : Int32)), (.int vv)])) (fun _ k => XS.iconst X104.here hx rfl (hb hby at_29) k) ?_
  refine own_st (q' := T104.setTop (mkF m 31 #[.val (.int x0), .val (.int x1), .val (.int vv), .val (.int ww), .val (.ref b101), .val (.ref b103), .unset, .unset, .unset, .unset, .unset, .unset, .unset, .unset, .unset, .unset, .unset] [(.int (vv &&& (1 : Int32)))])) (fun _ k => XS.iand X104.here hx rfl (hb hby at_30) rfl k) ?_
  have j39 : ∀ (z6 : Int32) (hz6 : z6 = if vv &&& (1 : Int32) = (0 : Int32) then (0 : Int32) else 1), own_Dn p e below s (fun v h L => v = some (.int 1) ∧ Fr n0 L) room_1.cells room_1.slots (T104.setTop (mkF m 39 #[.val (.int x0), .val (.int x1), .val (.int vv), .val (.int ww), .val (.ref b101), .val (.ref b103), .unset, .unset, .unset, .unset, .unset, .unset, .unset, .unset, .unset, .unset, .unset] [(.int z6)])) := by
    intro z6 hz6
    refine own_st (q' := T104.setTop (mkF m 41 #[.val (.int x0), .val (.int x1), .val (.int vv), .val (.int ww), .val (.ref b101), .val (.ref b103), .val (.int z6), .unset, .unset, .unset, .unset, .unset, .unset, .unset, .unset, .unset, .unset] [])) (fun _ k => XS.istore X104.here hx rfl (hb hby at_39) rfl (l' := #[.val (.int x0), .val (.int x1), .val (.int vv), .val (.int ww), .val (.ref b101), .val (.ref b103), .val (.int z6), .unset, .unset, .unset, .unset, .unset, .unset, .unset, .unset, .unset, .unset]) rfl k) ?_
    refine own_st (q' := T104.setTop (mkF m 42 #[.val (.int x0), .val (.int x1), .val (.int vv), .val (.int ww), .val (.ref b101), .val (.ref b103), .val (.int z6), .unset, .unset, .unset, .unset, .unset, .unset, .unset, .unset, .unset, .unset] [(.int vv)])) (fun _ k => XS.iloadN X104.here hx rfl (hb hby at_41) rfl k) ?_
    refine own_st (q' := T104.setTop (mkF m 43 #[.val (.int x0), .val (.int x1), .val (.int vv), .val (.int ww), .val (.ref b101), .val (.ref b103), .val (.int z6), .unset, .unset, .unset, .unset, .unset, .unset, .unset, .unset, .unset, .unset] [(.int (2 : Int32)), (.int vv)])) (fun _ k => XS.iconst X104.here hx rfl (hb hby at_42) k) ?_
    refine own_st (q' := T104.setTop (mkF m 44 #[.val (.int x0), .val (.int x1), .val (.int vv), .val (.int ww), .val (.ref b101), .val (.ref b103), .val (.int z6), .unset, .unset, .unset, .unset, .unset, .unset, .unset, .unset, .unset, .unset] [(.int (vv &&& (2 : Int32)))])) (fun _ k => XS.iand X104.here hx rfl (hb hby at_43) rfl k) ?_
    have j52 : ∀ (z7 : Int32) (hz7 : z7 = if vv &&& (2 : Int32) = (0 : Int32) then (0 : Int32) else 1), own_Dn p e below s (fun v h L => v = some (.int 1) ∧ Fr n0 L) room_1.cells room_1.slots (T104.setTop (mkF m 52 #[.val (.int x0), .val (.int x1), .val (.int vv), .val (.int ww), .val (.ref b101), .val (.ref b103), .val (.int z6), .unset, .unset, .unset, .unset, .unset, .unset, .unset, .unset, .unset, .unset] [(.int z7)])) := by
      intro z7 hz7
      refine own_st (q' := T104.setTop (mkF m 54 #[.val (.int x0), .val (.int x1), .val (.int vv), .val (.int ww), .val (.ref b101), .val (.ref b103), .val (.int z6), .val (.int z7), .unset, .unset, .unset, .unset, .unset, .unset, .unset, .unset, .unset] [])) (fun _ k => XS.istore X104.here hx rfl (hb hby at_52) rfl (l' := #[.val (.int x0), .val (.int x1), .val (.int vv), .val (.int ww), .val (.ref b101), .val (.ref b103), .val (.int z6), .val (.int z7), .unset, .unset, .unset, .unset, .unset, .unset, .unset, .unset, .unset]) rfl k) ?_
      refine own_st (q' := T104.setTop (mkF m 56 #[.val (.int x0), .val (.int x1), .val (.int vv), .val (.int ww), .val (.ref b101), .val (.ref b103), .val (.int z6), .val (.int z7), .unset, .unset, .unset, .unset, .unset, .unset, .unset, .unset, .unset] [(.int z6)])) (fun _ k => XS.iload X104.here hx rfl (hb hby at_54) rfl k) ?_
      have j69 : ∀ (z8 : Int32) (hz8 : z8 = if z6 = (0 : Int32) then (if z7 = (0 : Int32) then (1 : Int32) else 0) else 0), own_Dn p e below s (fun v h L => v = some (.int 1) ∧ Fr n0 L) room_1.cells room_1.slots (T104.setTop (mkF m 69 #[.val (.int x0), .val (.int x1), .val (.int vv), .val (.int ww), .val (.ref b101), .val (.ref b103), .val (.int z6), .val (.int z7), .unset, .unset, .unset, .unset, .unset, .unset, .unset, .unset, .unset] [(.int z8)])) := by
        intro z8 hz8
        refine own_st (q' := T104.setTop (mkF m 71 #[.val (.int x0), .val (.int x1), .val (.int vv), .val (.int ww), .val (.ref b101), .val (.ref b103), .val (.int z6), .val (.int z7), .val (.int z8), .unset, .unset, .unset, .unset, .unset, .unset, .unset, .unset] [])) (fun _ k => XS.istore X104.here hx rfl (hb hby at_69) rfl (l' := #[.val (.int x0), .val (.int x1), .val (.int vv), .val (.int ww), .val (.ref b101), .val (.ref b103), .val (.int z6), .val (.int z7), .val (.int z8), .unset, .unset, .unset, .unset, .unset, .unset, .unset, .unset]) rfl k) ?_
        refine own_st (q' := T104.setTop (mkF m 73 #[.val (.int x0), .val (.int x1), .val (.int vv), .val (.int ww), .val (.ref b101), .val (.ref b103), .val (.int z6), .val (.int z7), .val (.int z8), .unset, .unset, .unset, .unset, .unset, .unset, .unset, .unset] [(.ref b101)])) (fun _ k => XS.aload X104.here hx rfl (hb hby at_71) rfl rfl k) ?_
        have f105 := ((q102_1.ext E103).keep KK104 (ninS ne_b101_b103 nin0))
        have f107 := ((q102_0.ext E103).keep KK104)
        refine own_callV (y := (⟨"com/example/nominate/nominate/datatype/DataRange$Truths", "isEmpty", "()Z"⟩ : MethodName)) X104 hx hZ hown (hw _ (List.mem_of_getElem? (i := 16) rfl)) (hw _ (List.mem_of_getElem? (i := 17) rfl)) (hw _ (List.mem_of_getElem? (i := 19) rfl)) (hw _ (List.mem_of_getElem? (i := 18) rfl)) (hw _ (List.mem_of_getElem? (i := 2) rfl)) (hw _ (List.mem_of_getElem? (i := 20) rfl)) (by decide) (rmE l Z a0 hw [] b101 vv T104.heap n0 (Nat.le_trans (Nat.le_trans (Nat.le_trans (Nat.le_trans Z0 E101.1) KK102.1) E103.1) KK104.1) f105) (rfl : T104.heap = T104.heap) f107 (W := 0) (by decide) (by decide) (by decide) (by decide) (g := (mkF m 73 #[.val (.int x0), .val (.int x1), .val (.int vv), .val (.int ww), .val (.ref b101), .val (.ref b103), .val (.int z6), .val (.int z7), .val (.int z8), .unset, .unset, .unset, .unset, .unset, .unset, .unset, .unset] [(.ref b101)])) rfl (by rw [hml]; rfl) (argsL := []) (rest := []) rfl (lenOf pd_4 rfl) rfl (by show 2 * 0 + _ ≤ _; exact Nat.le_of_eq rfl) (hb hby at_73) ?_
        intro v106 T106 L106 hQ106 X106
        obtain ⟨rfl, NN106, e106⟩ := hQ106
        have N106 := Fr.app N104 NN106
        show own_Dn p e below s (fun v h L => v = some (.int 1) ∧ Fr n0 L) room_1.cells room_1.slots (T106.setTop (mkF m 76 #[.val (.int x0), .val (.int x1), .val (.int vv), .val (.int ww), .val (.ref b101), .val (.ref b103), .val (.int z6), .val (.int z7), .val (.int z8), .unset, .unset, .unset, .unset, .unset, .unset, .unset, .unset] [(.int (own_emp vv))]))
        refine own_st (q' := T106.setTop (mkF m 78 #[.val (.int x0), .val (.int x1), .val (.int vv), .val (.int ww), .val (.ref b101), .val (.ref b103), .val (.int z6), .val (.int z7), .val (.int z8), .val (.int (own_emp vv)), .unset, .unset, .unset, .unset, .unset, .unset, .unset] [])) (fun _ k => XS.istore X106.here hx rfl (hb hby at_76) rfl (l' := #[.val (.int x0), .val (.int x1), .val (.int vv), .val (.int ww), .val (.ref b101), .val (.ref b103), .val (.int z6), .val (.int z7), .val (.int z8), .val (.int (own_emp vv)), .unset, .unset, .unset, .unset, .unset, .unset, .unset]) rfl k) ?_
        refine own_st (q' := T106.setTop (mkF m 80 #[.val (.int x0), .val (.int x1), .val (.int vv), .val (.int ww), .val (.ref b101), .val (.ref b103), .val (.int z6), .val (.int z7), .val (.int z8), .val (.int (own_emp vv)), .unset, .unset, .unset, .unset, .unset, .unset, .unset] [(.int z6)])) (fun _ k => XS.iload X106.here hx rfl (hb hby at_78) rfl k) ?_
        have j94 : ∀ (z10 : Int32) (hz10 : z10 = if z6 = (0 : Int32) then (0 : Int32) else if ww &&& (1 : Int32) = (0 : Int32) then 0 else 1), own_Dn p e below s (fun v h L => v = some (.int 1) ∧ Fr n0 L) room_1.cells room_1.slots (T106.setTop (mkF m 94 #[.val (.int x0), .val (.int x1), .val (.int vv), .val (.int ww), .val (.ref b101), .val (.ref b103), .val (.int z6), .val (.int z7), .val (.int z8), .val (.int (own_emp vv)), .unset, .unset, .unset, .unset, .unset, .unset, .unset] [(.int z10)])) := by
          intro z10 hz10
          refine own_st (q' := T106.setTop (mkF m 96 #[.val (.int x0), .val (.int x1), .val (.int vv), .val (.int ww), .val (.ref b101), .val (.ref b103), .val (.int z6), .val (.int z7), .val (.int z8), .val (.int (own_emp vv)), .val (.int z10), .unset, .unset, .unset, .unset, .unset, .unset] [])) (fun _ k => XS.istore X106.here hx rfl (hb hby at_94) rfl (l' := #[.val (.int x0), .val (.int x1), .val (.int vv), .val (.int ww), .val (.ref b101), .val (.ref b103), .val (.int z6), .val (.int z7), .val (.int z8), .val (.int (own_emp vv)), .val (.int z10), .unset, .unset, .unset, .unset, .unset, .unset]) rfl k) ?_
          refine own_st (q' := T106.setTop (mkF m 98 #[.val (.int x0), .val (.int x1), .val (.int vv), .val (.int ww), .val (.ref b101), .val (.ref b103), .val (.int z6), .val (.int z7), .val (.int z8), .val (.int (own_emp vv)), .val (.int z10), .unset, .unset, .unset, .unset, .unset, .unset] [(.int z7)])) (fun _ k => XS.iload X106.here hx rfl (hb hby at_96) rfl k) ?_
          have j112 : ∀ (z11 : Int32) (hz11 : z11 = if z7 = (0 : Int32) then (0 : Int32) else if ww &&& (2 : Int32) = (0 : Int32) then 0 else 1), own_Dn p e below s (fun v h L => v = some (.int 1) ∧ Fr n0 L) room_1.cells room_1.slots (T106.setTop (mkF m 112 #[.val (.int x0), .val (.int x1), .val (.int vv), .val (.int ww), .val (.ref b101), .val (.ref b103), .val (.int z6), .val (.int z7), .val (.int z8), .val (.int (own_emp vv)), .val (.int z10), .unset, .unset, .unset, .unset, .unset, .unset] [(.int z11)])) := by
            intro z11 hz11
            refine own_st (q' := T106.setTop (mkF m 114 #[.val (.int x0), .val (.int x1), .val (.int vv), .val (.int ww), .val (.ref b101), .val (.ref b103), .val (.int z6), .val (.int z7), .val (.int z8), .val (.int (own_emp vv)), .val (.int z10), .val (.int z11), .unset, .unset, .unset, .unset, .unset] [])) (fun _ k => XS.istore X106.here hx rfl (hb hby at_112) rfl (l' := #[.val (.int x0), .val (.int x1), .val (.int vv), .val (.int ww), .val (.ref b101), .val (.ref b103), .val (.int z6), .val (.int z7), .val (.int z8), .val (.int (own_emp vv)), .val (.int z10), .val (.int z11), .unset, .unset, .unset, .unset, .unset]) rfl k) ?_
            refine own_st (q' := T106.setTop (mkF m 116 #[.val (.int x0), .val (.int x1), .val (.int vv), .val (.int ww), .val (.ref b101), .val (.ref b103), .val (.int z6), .val (.int z7), .val (.int z8), .val (.int (own_emp vv)), .val (.int z10), .val (.int z11), .unset, .unset, .unset, .unset, .unset] [(.ref b101)])) (fun _ k => XS.aload X106.here hx rfl (hb hby at_114) rfl rfl k) ?_
            refine own_st (q' := T106.setTop (mkF m 118 #[.val (.int x0), .val (.int x1), .val (.int vv), .val (.int ww), .val (.ref b101), .val (.ref b103), .val (.int z6), .val (.int z7), .val (.int z8), .val (.int (own_emp vv)), .val (.int z10), .val (.int z11), .unset, .unset, .unset, .unset, .unset] [(.ref b103), (.ref b101)])) (fun _ k => XS.aload X106.here hx rfl (hb hby at_116) rfl rfl k) ?_
            refine own_callV (y := (⟨"com/example/nominate/nominate/datatype/DataRange$Truths", "and", "(Lcom/example/nominate/nominate/datatype/DataRange$Part;)Lcom/example/nominate/nominate/datatype/DataRange$Part;"⟩ : MethodName)) X106 hx hZ hown (hw _ (List.mem_of_getElem? (i := 21) rfl)) (hw _ (List.mem_of_getElem? (i := 22) rfl)) (hw _ (List.mem_of_getElem? (i := 24) rfl)) (hw _ (List.mem_of_getElem? (i := 23) rfl)) (hw _ (List.mem_of_getElem? (i := 2) rfl)) (hw _ (List.mem_of_getElem? (i := 25) rfl)) (by decide) (rmA l Z a0 hw [] b101 b103 vv ww T104.heap n0 (Nat.le_trans (Nat.le_trans (Nat.le_trans (Nat.le_trans Z0 E101.1) KK102.1) E103.1) KK104.1) f105 q104_0 q104_1) e106 f107 (W := 0) (by decide) (by decide) (by decide) (by decide) (g := (mkF m 118 #[.val (.int x0), .val (.int x1), .val (.int vv), .val (.int ww), .val (.ref b101), .val (.ref b103), .val (.int z6), .val (.int z7), .val (.int z8), .val (.int (own_emp vv)), .val (.int z10), .val (.int z11), .unset, .unset, .unset, .unset, .unset] [(.ref b103), (.ref b101)])) rfl (by rw [hml]; rfl) (argsL := [(.ref b103)]) (rest := []) rfl (lenOf pd_5 rfl) rfl (by show 2 * 0 + _ ≤ _; exact Nat.le_of_eq rfl) (hb hby at_118) ?_
            intro v108 T108 L108 hQ108 X108
            obtain ⟨r108, rfl, NN108, KK108, sz108, ge108, E108, F108⟩ := hQ108
            have N108 := Fr.app N106 NN108
            show own_Dn p e below s (fun v h L => v = some (.int 1) ∧ Fr n0 L) room_1.cells room_1.slots (T108.setTop (mkF m 121 #[.val (.int x0), .val (.int x1), .val (.int vv), .val (.int ww), .val (.ref b101), .val (.ref b103), .val (.int z6), .val (.int z7), .val (.int z8), .val (.int (own_emp vv)), .val (.int z10), .val (.int z11), .unset, .unset, .unset, .unset, .unset] [(.ref r108)]))
            refine own_st (q' := T108.setTop (mkF m 123 #[.val (.int x0), .val (.int x1), .val (.int vv), .val (.int ww), .val (.ref b101), .val (.ref b103), .val (.int z6), .val (.int z7), .val (.int z8), .val (.int (own_emp vv)), .val (.int z10), .val (.int z11), .val (.ref r108), .unset, .unset, .unset, .unset] [])) (fun _ k => XS.astore X108.here hx rfl (hb hby at_121) rfl rfl (l' := #[.val (.int x0), .val (.int x1), .val (.int vv), .val (.int ww), .val (.ref b101), .val (.ref b103), .val (.int z6), .val (.int z7), .val (.int z8), .val (.int (own_emp vv)), .val (.int z10), .val (.int z11), .val (.ref r108), .unset, .unset, .unset, .unset]) rfl k) ?_
            refine own_st (q' := T108.setTop (mkF m 125 #[.val (.int x0), .val (.int x1), .val (.int vv), .val (.int ww), .val (.ref b101), .val (.ref b103), .val (.int z6), .val (.int z7), .val (.int z8), .val (.int (own_emp vv)), .val (.int z10), .val (.int z11), .val (.ref r108), .unset, .unset, .unset, .unset] [(.ref r108)])) (fun _ k => XS.aload X108.here hx rfl (hb hby at_123) rfl rfl k) ?_
            refine own_callF (xi := (⟨"com/example/nominate/nominate/datatype/DataRange$Part", "isEmpty", "()Z"⟩ : MethodName)) (y := (⟨"com/example/nominate/nominate/datatype/DataRange$Truths", "isEmpty", "()Z"⟩ : MethodName)) X108 hx hZ hown (hw _ (List.mem_of_getElem? (i := 29) rfl)) (hw _ (List.mem_of_getElem? (i := 30) rfl)) (hw _ (List.mem_of_getElem? (i := 31) rfl)) (hw _ (List.mem_of_getElem? (i := 32) rfl)) (hw _ (List.mem_of_getElem? (i := 18) rfl)) (hw _ (List.mem_of_getElem? (i := 33) rfl)) (hw _ (List.mem_of_getElem? (i := 34) rfl)) (hw _ (List.mem_of_getElem? (i := 35) rfl)) (hw _ (List.mem_of_getElem? (i := 2) rfl)) (hw _ (List.mem_of_getElem? (i := 20) rfl)) (by decide) (rmE l Z a0 hw [] r108 (vv &&& ww) T108.heap n0 (Nat.le_trans (Nat.le_trans (Nat.le_trans (Nat.le_trans (Nat.le_trans Z0 E101.1) KK102.1) E103.1) KK104.1) KK108.1) F108) (rfl : T108.heap = T108.heap) E108 (W := 0) (by decide) (by decide) (by decide) (by decide) (g := (mkF m 125 #[.val (.int x0), .val (.int x1), .val (.int vv), .val (.int ww), .val (.ref b101), .val (.ref b103), .val (.int z6), .val (.int z7), .val (.int z8), .val (.int (own_emp vv)), .val (.int z10), .val (.int z11), .val (.ref r108), .unset, .unset, .unset, .unset] [(.ref r108)])) rfl (by rw [hml]; rfl) (argsL := []) (rest := []) rfl (lenOf pd_4 rfl) rfl (by show 2 * 0 + _ ≤ _; exact Nat.le_of_eq rfl) (hb hby at_125) ?_
            intro v109 T109 L109 hQ109 X109
            obtain ⟨rfl, NN109, e109⟩ := hQ109
            have N109 := Fr.app N108 NN109
            show own_Dn p e below s (fun v h L => v = some (.int 1) ∧ Fr n0 L) room_1.cells room_1.slots (T109.setTop (mkF m 130 #[.val (.int x0), .val (.int x1), .val (.int vv), .val (.int ww), .val (.ref b101), .val (.ref b103), .val (.int z6), .val (.int z7), .val (.int z8), .val (.int (own_emp vv)), .val (.int z10), .val (.int z11), .val (.ref r108), .unset, .unset, .unset, .unset] [(.int (own_emp (vv &&& ww)))]))
            refine own_st (q' := T109.setTop (mkF m 132 #[.val (.int x0), .val (.int x1), .val (.int vv), .val (.int ww), .val (.ref b101), .val (.ref b103), .val (.int z6), .val (.int z7), .val (.int z8), .val (.int (own_emp vv)), .val (.int z10), .val (.int z11), .val (.ref r108), .val (.int (own_emp (vv &&& ww))), .unset, .unset, .unset] [])) (fun _ k => XS.istore X109.here hx rfl (hb hby at_130) rfl (l' := #[.val (.int x0), .val (.int x1), .val (.int vv), .val (.int ww), .val (.ref b101), .val (.ref b103), .val (.int z6), .val (.int z7), .val (.int z8), .val (.int (own_emp vv)), .val (.int z10), .val (.int z11), .val (.ref r108), .val (.int (own_emp (vv &&& ww))), .unset, .unset, .unset]) rfl k) ?_
            refine own_st (q' := T109.setTop (mkF m 134 #[.val (.int x0), .val (.int x1), .val (.int vv), .val (.int ww), .val (.ref b101), .val (.ref b103), .val (.int z6), .val (.int z7), .val (.int z8), .val (.int (own_emp vv)), .val (.int z10), .val (.int z11), .val (.ref r108), .val (.int (own_emp (vv &&& ww))), .unset, .unset, .unset] [(.ref b101)])) (fun _ k => XS.aload X109.here hx rfl (hb hby at_132) rfl rfl k) ?_
            refine own_st (q' := T109.setTop (mkF m 135 #[.val (.int x0), .val (.int x1), .val (.int vv), .val (.int ww), .val (.ref b101), .val (.ref b103), .val (.int z6), .val (.int z7), .val (.int z8), .val (.int (own_emp vv)), .val (.int z10), .val (.int z11), .val (.ref r108), .val (.int (own_emp (vv &&& ww))), .unset, .unset, .unset] [(.long (1 : Int64)), (.ref b101)])) (fun _ k => XS.lconst X109.here hx rfl (hb hby at_134) k) ?_
            have f110 := (f105.keep KK108 nin0)
            have f112 := (f107.keep KK108)
            refine own_callV (y := (⟨"com/example/nominate/nominate/datatype/DataRange$Truths", "count", "(J)J"⟩ : MethodName)) X109 hx hZ hown (hw _ (List.mem_of_getElem? (i := 36) rfl)) (hw _ (List.mem_of_getElem? (i := 37) rfl)) (hw _ (List.mem_of_getElem? (i := 39) rfl)) (hw _ (List.mem_of_getElem? (i := 38) rfl)) (hw _ (List.mem_of_getElem? (i := 2) rfl)) (hw _ (List.mem_of_getElem? (i := 40) rfl)) (by decide) (rmC l Z a0 hw [] b101 (1 : Int64) vv T108.heap n0 (Nat.le_trans (Nat.le_trans (Nat.le_trans (Nat.le_trans (Nat.le_trans Z0 E101.1) KK102.1) E103.1) KK104.1) KK108.1) f110) e109 f112 (W := 0) (by decide) (by decide) (by decide) (by decide) (g := (mkF m 135 #[.val (.int x0), .val (.int x1), .val (.int vv), .val (.int ww), .val (.ref b101), .val (.ref b103), .val (.int z6), .val (.int z7), .val (.int z8), .val (.int (own_emp vv)), .val (.int z10), .val (.int z11), .val (.ref r108), .val (.int (own_emp (vv &&& ww))), .unset, .unset, .unset] [(.long (1 : Int64)), (.ref b101)])) rfl (by rw [hml]; rfl) (argsL := [(.long (1 : Int64))]) (rest := []) rfl (lenOf pd_6 rfl) rfl (by show 2 * 0 + _ ≤ _; exact Nat.le_of_eq rfl) (hb hby at_135) ?_
            intro v111 T111 L111 hQ111 X111
            obtain ⟨rfl, NN111, e111⟩ := hQ111
            have N111 := Fr.app N109 NN111
            show own_Dn p e below s (fun v h L => v = some (.int 1) ∧ Fr n0 L) room_1.cells room_1.slots (T111.setTop (mkF m 138 #[.val (.int x0), .val (.int x1), .val (.int vv), .val (.int ww), .val (.ref b101), .val (.ref b103), .val (.int z6), .val (.int z7), .val (.int z8), .val (.int (own_emp vv)), .val (.int z10), .val (.int z11), .val (.ref r108), .val (.int (own_emp (vv &&& ww))), .unset, .unset, .unset] [(.long (own_min (1 : Int64) (own_bc vv).toInt64))]))
            refine own_st (q' := T111.setTop (mkF m 139 #[.val (.int x0), .val (.int x1), .val (.int vv), .val (.int ww), .val (.ref b101), .val (.ref b103), .val (.int z6), .val (.int z7), .val (.int z8), .val (.int (own_emp vv)), .val (.int z10), .val (.int z11), .val (.ref r108), .val (.int (own_emp (vv &&& ww))), .unset, .unset, .unset] [(.long (0 : Int64)), (.long (own_min (1 : Int64) (own_bc vv).toInt64))])) (fun _ k => XS.lconst X111.here hx rfl (hb hby at_138) k) ?_
            refine own_st (q' := T111.setTop (mkF m 140 #[.val (.int x0), .val (.int x1), .val (.int vv), .val (.int ww), .val (.ref b101), .val (.ref b103), .val (.int z6), .val (.int z7), .val (.int z8), .val (.int (own_emp vv)), .val (.int z10), .val (.int z11), .val (.ref r108), .val (.int (own_emp (vv &&& ww))), .unset, .unset, .unset] [(.int (lcmpW (own_min (1 : Int64) (own_bc vv).toInt64) (0 : Int64)))])) (fun _ k => XS.lcmp X111.here hx rfl (hb hby at_139) rfl k) ?_
            have j148 : ∀ (y1 : Int32) (hy1 : y1 = if lcmpW (own_min (1 : Int64) (own_bc vv).toInt64) (0 : Int64) = (0 : Int32) then (1 : Int32) else 0), own_Dn p e below s (fun v h L => v = some (.int 1) ∧ Fr n0 L) room_1.cells room_1.slots (T111.setTop (mkF m 148 #[.val (.int x0), .val (.int x1), .val (.int vv), .val (.int ww), .val (.ref b101), .val (.ref b103), .val (.int z6), .val (.int z7), .val (.int z8), .val (.int (own_emp vv)), .val (.int z10), .val (.int z11), .val (.ref r108), .val (.int (own_emp (vv &&& ww))), .unset, .unset, .unset] [(.int y1)])) := by
              intro y1 hy1
              refine own_st (q' := T111.setTop (mkF m 150 #[.val (.int x0), .val (.int x1), .val (.int vv), .val (.int ww), .val (.ref b101), .val (.ref b103), .val (.int z6), .val (.int z7), .val (.int z8), .val (.int (own_emp vv)), .val (.int z10), .val (.int z11), .val (.ref r108), .val (.int (own_emp (vv &&& ww))), .unset, .unset, .unset] [(.int (own_emp vv)), (.int y1)])) (fun _ k => XS.iload X111.here hx rfl (hb hby at_148) rfl k) ?_
              refine own_st (q' := T111.setTop (mkF m 153 #[.val (.int x0), .val (.int x1), .val (.int vv), .val (.int ww), .val (.ref b101), .val (.ref b103), .val (.int z6), .val (.int z7), .val (.int z8), .val (.int (own_emp vv)), .val (.int z10), .val (.int z11), .val (.ref r108), .val (.int (own_emp (vv &&& ww))), .unset, .unset, .unset] [])) (fun _ k => XS.icmpNo X111.here hx rfl (hb hby at_150) rfl (teq (own_k1 hp4 hy1)).2 k) ?_
              refine own_st (q' := T111.setTop (mkF m 154 #[.val (.int x0), .val (.int x1), .val (.int vv), .val (.int ww), .val (.ref b101), .val (.ref b103), .val (.int z6), .val (.int z7), .val (.int z8), .val (.int (own_emp vv)), .val (.int z10), .val (.int z11), .val (.ref r108), .val (.int (own_emp (vv &&& ww))), .unset, .unset, .unset] [(.int (1 : Int32))])) (fun _ k => XS.iconst X111.here hx rfl (hb hby at_153) k) ?_
              refine own_st (q' := T111.setTop (mkF m 158 #[.val (.int x0), .val (.int x1), .val (.int vv), .val (.int ww), .val (.ref b101), .val (.ref b103), .val (.int z6), .val (.int z7), .val (.int z8), .val (.int (own_emp vv)), .val (.int z10), .val (.int z11), .val (.ref r108), .val (.int (own_emp (vv &&& ww))), .unset, .unset, .unset] [(.int (1 : Int32))])) (fun _ k => XS.goto X111.here hx rfl (pc0 := 154) (pc' := 158) rfl (hb hby at_154) (by decide) (by decide) k) ?_
              refine own_st (q' := T111.setTop (mkF m 160 #[.val (.int x0), .val (.int x1), .val (.int vv), .val (.int ww), .val (.ref b101), .val (.ref b103), .val (.int z6), .val (.int z7), .val (.int z8), .val (.int (own_emp vv)), .val (.int z10), .val (.int z11), .val (.ref r108), .val (.int (own_emp (vv &&& ww))), .val (.int (1 : Int32)), .unset, .unset] [])) (fun _ k => XS.istore X111.here hx rfl (hb hby at_158) rfl (l' := #[.val (.int x0), .val (.int x1), .val (.int vv), .val (.int ww), .val (.ref b101), .val (.ref b103), .val (.int z6), .val (.int z7), .val (.int z8), .val (.int (own_emp vv)), .val (.int z10), .val (.int z11), .val (.ref r108), .val (.int (own_emp (vv &&& ww))), .val (.int (1 : Int32)), .unset, .unset]) rfl k) ?_
              refine own_st (q' := T111.setTop (mkF m 162 #[.val (.int x0), .val (.int x1), .val (.int vv), .val (.int ww), .val (.ref b101), .val (.ref b103), .val (.int z6), .val (.int z7), .val (.int z8), .val (.int (own_emp vv)), .val (.int z10), .val (.int z11), .val (.ref r108), .val (.int (own_emp (vv &&& ww))), .val (.int (1 : Int32)), .unset, .unset] [(.ref b101)])) (fun _ k => XS.aload X111.here hx rfl (hb hby at_160) rfl rfl k) ?_
              refine own_callV (y := (⟨"com/example/nominate/nominate/datatype/DataRange$Truths", "complement", "()Lcom/example/nominate/nominate/datatype/DataRange$Part;"⟩ : MethodName)) X111 hx hZ hown (hw _ (List.mem_of_getElem? (i := 52) rfl)) (hw _ (List.mem_of_getElem? (i := 53) rfl)) (hw _ (List.mem_of_getElem? (i := 55) rfl)) (hw _ (List.mem_of_getElem? (i := 54) rfl)) (hw _ (List.mem_of_getElem? (i := 2) rfl)) (hw _ (List.mem_of_getElem? (i := 56) rfl)) (by decide) (rmP l Z a0 hw [] b101 vv T108.heap n0 (Nat.le_trans (Nat.le_trans (Nat.le_trans (Nat.le_trans (Nat.le_trans Z0 E101.1) KK102.1) E103.1) KK104.1) KK108.1) f110) e111 f112 (W := 0) (by decide) (by decide) (by decide) (by decide) (g := (mkF m 162 #[.val (.int x0), .val (.int x1), .val (.int vv), .val (.int ww), .val (.ref b101), .val (.ref b103), .val (.int z6), .val (.int z7), .val (.int z8), .val (.int (own_emp vv)), .val (.int z10), .val (.int z11), .val (.ref r108), .val (.int (own_emp (vv &&& ww))), .val (.int (1 : Int32)), .unset, .unset] [(.ref b101)])) rfl (by rw [hml]; rfl) (argsL := []) (rest := []) rfl (lenOf pd_7 rfl) rfl (by show 2 * 0 + _ ≤ _; exact Nat.le_of_eq rfl) (hb hby at_162) ?_
              intro v113 T113 L113 hQ113 X113
              obtain ⟨r113, rfl, NN113, KK113, sz113, ge113, E113, F113⟩ := hQ113
              have N113 := Fr.app N111 NN113
              show own_Dn p e below s (fun v h L => v = some (.int 1) ∧ Fr n0 L) room_1.cells room_1.slots (T113.setTop (mkF m 165 #[.val (.int x0), .val (.int x1), .val (.int vv), .val (.int ww), .val (.ref b101), .val (.ref b103), .val (.int z6), .val (.int z7), .val (.int z8), .val (.int (own_emp vv)), .val (.int z10), .val (.int z11), .val (.ref r108), .val (.int (own_emp (vv &&& ww))), .val (.int (1 : Int32)), .unset, .unset] [(.ref r113)]))
              refine own_st (q' := T113.setTop (mkF m 167 #[.val (.int x0), .val (.int x1), .val (.int vv), .val (.int ww), .val (.ref b101), .val (.ref b103), .val (.int z6), .val (.int z7), .val (.int z8), .val (.int (own_emp vv)), .val (.int z10), .val (.int z11), .val (.ref r108), .val (.int (own_emp (vv &&& ww))), .val (.int (1 : Int32)), .val (.ref r113), .unset] [])) (fun _ k => XS.astore X113.here hx rfl (hb hby at_165) rfl rfl (l' := #[.val (.int x0), .val (.int x1), .val (.int vv), .val (.int ww), .val (.ref b101), .val (.ref b103), .val (.int z6), .val (.int z7), .val (.int z8), .val (.int (own_emp vv)), .val (.int z10), .val (.int z11), .val (.ref r108), .val (.int (own_emp (vv &&& ww))), .val (.int (1 : Int32)), .val (.ref r113), .unset]) rfl k) ?_
              refine own_st (q' := T113.setTop (mkF m 169 #[.val (.int x0), .val (.int x1), .val (.int vv), .val (.int ww), .val (.ref b101), .val (.ref b103), .val (.int z6), .val (.int z7), .val (.int z8), .val (.int (own_emp vv)), .val (.int z10), .val (.int z11), .val (.ref r108), .val (.int (own_emp (vv &&& ww))), .val (.int (1 : Int32)), .val (.ref r113), .unset] [(.ref r113)])) (fun _ k => XS.aload X113.here hx rfl (hb hby at_167) rfl rfl k) ?_
              refine own_callF (xi := (⟨"com/example/nominate/nominate/datatype/DataRange$Part", "isEmpty", "()Z"⟩ : MethodName)) (y := (⟨"com/example/nominate/nominate/datatype/DataRange$Truths", "isEmpty", "()Z"⟩ : MethodName)) X113 hx hZ hown (hw _ (List.mem_of_getElem? (i := 29) rfl)) (hw _ (List.mem_of_getElem? (i := 30) rfl)) (hw _ (List.mem_of_getElem? (i := 31) rfl)) (hw _ (List.mem_of_getElem? (i := 32) rfl)) (hw _ (List.mem_of_getElem? (i := 18) rfl)) (hw _ (List.mem_of_getElem? (i := 33) rfl)) (hw _ (List.mem_of_getElem? (i := 34) rfl)) (hw _ (List.mem_of_getElem? (i := 35) rfl)) (hw _ (List.mem_of_getElem? (i := 2) rfl)) (hw _ (List.mem_of_getElem? (i := 20) rfl)) (by decide) (rmE l Z a0 hw [] r113 ((3 : Int32) &&& (vv ^^^ (-1 : Int32))) T113.heap n0 (Nat.le_trans (Nat.le_trans (Nat.le_trans (Nat.le_trans (Nat.le_trans (Nat.le_trans Z0 E101.1) KK102.1) E103.1) KK104.1) KK108.1) KK113.1) F113) (rfl : T113.heap = T113.heap) E113 (W := 0) (by decide) (by decide) (by decide) (by decide) (g := (mkF m 169 #[.val (.int x0), .val (.int x1), .val (.int vv), .val (.int ww), .val (.ref b101), .val (.ref b103), .val (.int z6), .val (.int z7), .val (.int z8), .val (.int (own_emp vv)), .val (.int z10), .val (.int z11), .val (.ref r108), .val (.int (own_emp (vv &&& ww))), .val (.int (1 : Int32)), .val (.ref r113), .unset] [(.ref r113)])) rfl (by rw [hml]; rfl) (argsL := []) (rest := []) rfl (lenOf pd_4 rfl) rfl (by show 2 * 0 + _ ≤ _; exact Nat.le_of_eq rfl) (hb hby at_169) ?_
              intro v114 T114 L114 hQ114 X114
              obtain ⟨rfl, NN114, e114⟩ := hQ114
              have N114 := Fr.app N113 NN114
              show own_Dn p e below s (fun v h L => v = some (.int 1) ∧ Fr n0 L) room_1.cells room_1.slots (T114.setTop (mkF m 174 #[.val (.int x0), .val (.int x1), .val (.int vv), .val (.int ww), .val (.ref b101), .val (.ref b103), .val (.int z6), .val (.int z7), .val (.int z8), .val (.int (own_emp vv)), .val (.int z10), .val (.int z11), .val (.ref r108), .val (.int (own_emp (vv &&& ww))), .val (.int (1 : Int32)), .val (.ref r113), .unset] [(.int (own_emp ((3 : Int32) &&& (vv ^^^ (-1 : Int32)))))]))
              refine own_st (q' := T114.setTop (mkF m 176 #[.val (.int x0), .val (.int x1), .val (.int vv), .val (.int ww), .val (.ref b101), .val (.ref b103), .val (.int z6), .val (.int z7), .val (.int z8), .val (.int (own_emp vv)), .val (.int z10), .val (.int z11), .val (.ref r108), .val (.int (own_emp (vv &&& ww))), .val (.int (1 : Int32)), .val (.ref r113), .val (.int (own_emp ((3 : Int32) &&& (vv ^^^ (-1 : Int32)))))] [])) (fun _ k => XS.istore X114.here hx rfl (hb hby at_174) rfl (l' := #[.val (.int x0), .val (.int x1), .val (.int vv), .val (.int ww), .val (.ref b101), .val (.ref b103), .val (.int z6), .val (.int z7), .val (.int z8), .val (.int (own_emp vv)), .val (.int z10), .val (.int z11), .val (.ref r108), .val (.int (own_emp (vv &&& ww))), .val (.int (1 : Int32)), .val (.ref r113), .val (.int (own_emp ((3 : Int32) &&& (vv ^^^ (-1 : Int32)))))]) rfl k) ?_
              refine own_st (q' := T114.setTop (mkF m 178 #[.val (.int x0), .val (.int x1), .val (.int vv), .val (.int ww), .val (.ref b101), .val (.ref b103), .val (.int z6), .val (.int z7), .val (.int z8), .val (.int (own_emp vv)), .val (.int z10), .val (.int z11), .val (.ref r108), .val (.int (own_emp (vv &&& ww))), .val (.int (1 : Int32)), .val (.ref r113), .val (.int (own_emp ((3 : Int32) &&& (vv ^^^ (-1 : Int32)))))] [(.int (own_emp vv))])) (fun _ k => XS.iload X114.here hx rfl (hb hby at_176) rfl k) ?_
              refine own_st (q' := T114.setTop (mkF m 180 #[.val (.int x0), .val (.int x1), .val (.int vv), .val (.int ww), .val (.ref b101), .val (.ref b103), .val (.int z6), .val (.int z7), .val (.int z8), .val (.int (own_emp vv)), .val (.int z10), .val (.int z11), .val (.ref r108), .val (.int (own_emp (vv &&& ww))), .val (.int (1 : Int32)), .val (.ref r113), .val (.int (own_emp ((3 : Int32) &&& (vv ^^^ (-1 : Int32)))))] [(.int z8), (.int (own_emp vv))])) (fun _ k => XS.iload X114.here hx rfl (hb hby at_178) rfl k) ?_
              refine own_st (q' := T114.setTop (mkF m 183 #[.val (.int x0), .val (.int x1), .val (.int vv), .val (.int ww), .val (.ref b101), .val (.ref b103), .val (.int z6), .val (.int z7), .val (.int z8), .val (.int (own_emp vv)), .val (.int z10), .val (.int z11), .val (.ref r108), .val (.int (own_emp (vv &&& ww))), .val (.int (1 : Int32)), .val (.ref r113), .val (.int (own_emp ((3 : Int32) &&& (vv ^^^ (-1 : Int32)))))] [])) (fun _ k => XS.icmpNo X114.here hx rfl (hb hby at_180) rfl (teq (own_k2 hp4 hz6 hz7 hz8)).2 k) ?_
              refine own_st (q' := T114.setTop (mkF m 185 #[.val (.int x0), .val (.int x1), .val (.int vv), .val (.int ww), .val (.ref b101), .val (.ref b103), .val (.int z6), .val (.int z7), .val (.int z8), .val (.int (own_emp vv)), .val (.int z10), .val (.int z11), .val (.ref r108), .val (.int (own_emp (vv &&& ww))), .val (.int (1 : Int32)), .val (.ref r113), .val (.int (own_emp ((3 : Int32) &&& (vv ^^^ (-1 : Int32)))))] [(.int (own_emp (vv &&& ww)))])) (fun _ k => XS.iload X114.here hx rfl (hb hby at_183) rfl k) ?_
              refine own_st (q' := T114.setTop (mkF m 187 #[.val (.int x0), .val (.int x1), .val (.int vv), .val (.int ww), .val (.ref b101), .val (.ref b103), .val (.int z6), .val (.int z7), .val (.int z8), .val (.int (own_emp vv)), .val (.int z10), .val (.int z11), .val (.ref r108), .val (.int (own_emp (vv &&& ww))), .val (.int (1 : Int32)), .val (.ref r113), .val (.int (own_emp ((3 : Int32) &&& (vv ^^^ (-1 : Int32)))))] [(.int z10), (.int (own_emp (vv &&& ww)))])) (fun _ k => XS.iload X114.here hx rfl (hb hby at_185) rfl k) ?_
              have j200 : ∀ (y2 : Int32) (hy2 : y2 = if z10 = (0 : Int32) then (if z11 = (0 : Int32) then (1 : Int32) else 0) else 0), own_Dn p e below s (fun v h L => v = some (.int 1) ∧ Fr n0 L) room_1.cells room_1.slots (T114.setTop (mkF m 200 #[.val (.int x0), .val (.int x1), .val (.int vv), .val (.int ww), .val (.ref b101), .val (.ref b103), .val (.int z6), .val (.int z7), .val (.int z8), .val (.int (own_emp vv)), .val (.int z10), .val (.int z11), .val (.ref r108), .val (.int (own_emp (vv &&& ww))), .val (.int (1 : Int32)), .val (.ref r113), .val (.int (own_emp ((3 : Int32) &&& (vv ^^^ (-1 : Int32)))))] [(.int y2), (.int (own_emp (vv &&& ww)))])) := by
                intro y2 hy2
                refine own_st (q' := T114.setTop (mkF m 203 #[.val (.int x0), .val (.int x1), .val (.int vv), .val (.int ww), .val (.ref b101), .val (.ref b103), .val (.int z6), .val (.int z7), .val (.int z8), .val (.int (own_emp vv)), .val (.int z10), .val (.int z11), .val (.ref r108), .val (.int (own_emp (vv &&& ww))), .val (.int (1 : Int32)), .val (.ref r113), .val (.int (own_emp ((3 : Int32) &&& (vv ^^^ (-1 : Int32)))))] [])) (fun _ k => XS.icmpNo X114.here hx rfl (hb hby at_200) rfl (teq (own_k3 hp4 hq4 hz6 hz7 hz10 hz11 hy2)).2 k) ?_
                refine own_st (q' := T114.setTop (mkF m 205 #[.val (.int x0), .val (.int x1), .val (.int vv), .val (.int ww), .val (.ref b101), .val (.ref b103), .val (.int z6), .val (.int z7), .val (.int z8), .val (.int (own_emp vv)), .val (.int z10), .val (.int z11), .val (.ref r108), .val (.int (own_emp (vv &&& ww))), .val (.int (1 : Int32)), .val (.ref r113), .val (.int (own_emp ((3 : Int32) &&& (vv ^^^ (-1 : Int32)))))] [(.int (1 : Int32))])) (fun _ k => XS.iload X114.here hx rfl (hb hby at_203) rfl k) ?_
                refine own_st (q' := T114.setTop (mkF m 208 #[.val (.int x0), .val (.int x1), .val (.int vv), .val (.int ww), .val (.ref b101), .val (.ref b103), .val (.int z6), .val (.int z7), .val (.int z8), .val (.int (own_emp vv)), .val (.int z10), .val (.int z11), .val (.ref r108), .val (.int (own_emp (vv &&& ww))), .val (.int (1 : Int32)), .val (.ref r113), .val (.int (own_emp ((3 : Int32) &&& (vv ^^^ (-1 : Int32)))))] [])) (fun _ k => XS.ifNo X114.here hx rfl (hb hby at_205) rfl ((if0 _ _).trans (feq (by decide : ¬ ((1 : Int32) = (0 : Int32)))).1) k) ?_
                refine own_st (q' := T114.setTop (mkF m 210 #[.val (.int x0), .val (.int x1), .val (.int vv), .val (.int ww), .val (.ref b101), .val (.ref b103), .val (.int z6), .val (.int z7), .val (.int z8), .val (.int (own_emp vv)), .val (.int z10), .val (.int z11), .val (.ref r108), .val (.int (own_emp (vv &&& ww))), .val (.int (1 : Int32)), .val (.ref r113), .val (.int (own_emp ((3 : Int32) &&& (vv ^^^ (-1 : Int32)))))] [(.int (own_emp ((3 : Int32) &&& (vv ^^^ (-1 : Int32)))))])) (fun _ k => XS.iload X114.here hx rfl (hb hby at_208) rfl k) ?_
                refine own_st (q' := T114.setTop (mkF m 212 #[.val (.int x0), .val (.int x1), .val (.int vv), .val (.int ww), .val (.ref b101), .val (.ref b103), .val (.int z6), .val (.int z7), .val (.int z8), .val (.int (own_emp vv)), .val (.int z10), .val (.int z11), .val (.ref r108), .val (.int (own_emp (vv &&& ww))), .val (.int (1 : Int32)), .val (.ref r113), .val (.int (own_emp ((3 : Int32) &&& (vv ^^^ (-1 : Int32)))))] [(.int z6), (.int (own_emp ((3 : Int32) &&& (vv ^^^ (-1 : Int32)))))])) (fun _ k => XS.iload X114.here hx rfl (hb hby at_210) rfl k) ?_
                have j225 : ∀ (y3 : Int32) (hy3 : y3 = if z6 = (0 : Int32) then (0 : Int32) else if z7 = (0 : Int32) then 0 else 1), own_Dn p e below s (fun v h L => v = some (.int 1) ∧ Fr n0 L) room_1.cells room_1.slots (T114.setTop (mkF m 225 #[.val (.int x0), .val (.int x1), .val (.int vv), .val (.int ww), .val (.ref b101), .val (.ref b103), .val (.int z6), .val (.int z7), .val (.int z8), .val (.int (own_emp vv)), .val (.int z10), .val (.int z11), .val (.ref r108), .val (.int (own_emp (vv &&& ww))), .val (.int (1 : Int32)), .val (.ref r113), .val (.int (own_emp ((3 : Int32) &&& (vv ^^^ (-1 : Int32)))))] [(.int y3), (.int (own_emp ((3 : Int32) &&& (vv ^^^ (-1 : Int32)))))])) := by
                  intro y3 hy3
                  refine own_st (q' := T114.setTop (mkF m 228 #[.val (.int x0), .val (.int x1), .val (.int vv), .val (.int ww), .val (.ref b101), .val (.ref b103), .val (.int z6), .val (.int z7), .val (.int z8), .val (.int (own_emp vv)), .val (.int z10), .val (.int z11), .val (.ref r108), .val (.int (own_emp (vv &&& ww))), .val (.int (1 : Int32)), .val (.ref r113), .val (.int (own_emp ((3 : Int32) &&& (vv ^^^ (-1 : Int32)))))] [])) (fun _ k => XS.icmpNo X114.here hx rfl (hb hby at_225) rfl (teq (own_k4 hp4 hz6 hz7 hy3)).2 k) ?_
                  refine own_st (q' := T114.setTop (mkF m 229 #[.val (.int x0), .val (.int x1), .val (.int vv), .val (.int ww), .val (.ref b101), .val (.ref b103), .val (.int z6), .val (.int z7), .val (.int z8), .val (.int (own_emp vv)), .val (.int z10), .val (.int z11), .val (.ref r108), .val (.int (own_emp (vv &&& ww))), .val (.int (1 : Int32)), .val (.ref r113), .val (.int (own_emp ((3 : Int32) &&& (vv ^^^ (-1 : Int32)))))] [(.int (1 : Int32))])) (fun _ k => XS.iconst X114.here hx rfl (hb hby at_228) k) ?_
                  refine own_st (q' := T114.setTop (mkF m 233 #[.val (.int x0), .val (.int x1), .val (.int vv), .val (.int ww), .val (.ref b101), .val (.ref b103), .val (.int z6), .val (.int z7), .val (.int z8), .val (.int (own_emp vv)), .val (.int z10), .val (.int z11), .val (.ref r108), .val (.int (own_emp (vv &&& ww))), .val (.int (1 : Int32)), .val (.ref r113), .val (.int (own_emp ((3 : Int32) &&& (vv ^^^ (-1 : Int32)))))] [(.int (1 : Int32))])) (fun _ k => XS.goto X114.here hx rfl (pc0 := 229) (pc' := 233) rfl (hb hby at_229) (by decide) (by decide) k) ?_
                  exact own_retN X114 hx hlk (t := .boolean) hret (by simp) (hb hby at_233) e114 (by exact ⟨rfl, N114⟩) (by decide) (by decide)
                by_cases hc212_115 : z6 = (0 : Int32)
                · skip
                  have hc212_115I : (z6).toInt = (0 : Int) := own_eqT hc212_115
                  refine own_st (q' := T114.setTop (mkF m 224 #[.val (.int x0), .val (.int x1), .val (.int vv), .val (.int ww), .val (.ref b101), .val (.ref b103), .val (.int z6), .val (.int z7), .val (.int z8), .val (.int (own_emp vv)), .val (.int z10), .val (.int z11), .val (.ref r108), .val (.int (own_emp (vv &&& ww))), .val (.int (1 : Int32)), .val (.ref r113), .val (.int (own_emp ((3 : Int32) &&& (vv ^^^ (-1 : Int32)))))] [(.int (own_emp ((3 : Int32) &&& (vv ^^^ (-1 : Int32)))))])) (fun _ k => XS.ifYes X114.here hx rfl (pc0 := 212) (pc' := 224) rfl (hb hby at_212) rfl ((if0 _ _).trans (teq hc212_115).1) (by decide) (by decide) k) ?_
                  refine own_st (q' := T114.setTop (mkF m 225 #[.val (.int x0), .val (.int x1), .val (.int vv), .val (.int ww), .val (.ref b101), .val (.ref b103), .val (.int z6), .val (.int z7), .val (.int z8), .val (.int (own_emp vv)), .val (.int z10), .val (.int z11), .val (.ref r108), .val (.int (own_emp (vv &&& ww))), .val (.int (1 : Int32)), .val (.ref r113), .val (.int (own_emp ((3 : Int32) &&& (vv ^^^ (-1 : Int32)))))] [(.int (0 : Int32)), (.int (own_emp ((3 : Int32) &&& (vv ^^^ (-1 : Int32)))))])) (fun _ k => XS.iconst X114.here hx rfl (hb hby at_224) k) ?_
                  exact j225 (0 : Int32) (by rw [if_pos hc212_115])
                · skip
                  have hc212_115I : ¬ (z6).toInt = (0 : Int) := own_eqF hc212_115
                  refine own_st (q' := T114.setTop (mkF m 215 #[.val (.int x0), .val (.int x1), .val (.int vv), .val (.int ww), .val (.ref b101), .val (.ref b103), .val (.int z6), .val (.int z7), .val (.int z8), .val (.int (own_emp vv)), .val (.int z10), .val (.int z11), .val (.ref r108), .val (.int (own_emp (vv &&& ww))), .val (.int (1 : Int32)), .val (.ref r113), .val (.int (own_emp ((3 : Int32) &&& (vv ^^^ (-1 : Int32)))))] [(.int (own_emp ((3 : Int32) &&& (vv ^^^ (-1 : Int32)))))])) (fun _ k => XS.ifNo X114.here hx rfl (hb hby at_212) rfl ((if0 _ _).trans (feq hc212_115).1) k) ?_
                  refine own_st (q' := T114.setTop (mkF m 217 #[.val (.int x0), .val (.int x1), .val (.int vv), .val (.int ww), .val (.ref b101), .val (.ref b103), .val (.int z6), .val (.int z7), .val (.int z8), .val (.int (own_emp vv)), .val (.int z10), .val (.int z11), .val (.ref r108), .val (.int (own_emp (vv &&& ww))), .val (.int (1 : Int32)), .val (.ref r113), .val (.int (own_emp ((3 : Int32) &&& (vv ^^^ (-1 : Int32)))))] [(.int z7), (.int (own_emp ((3 : Int32) &&& (vv ^^^ (-1 : Int32)))))])) (fun _ k => XS.iload X114.here hx rfl (hb hby at_215) rfl k) ?_
                  by_cases hc217_116 : z7 = (0 : Int32)
                  · skip
                    have hc217_116I : (z7).toInt = (0 : Int) := own_eqT hc217_116
                    refine own_st (q' := T114.setTop (mkF m 224 #[.val (.int x0), .val (.int x1), .val (.int vv), .val (.int ww), .val (.ref b101), .val (.ref b103), .val (.int z6), .val (.int z7), .val (.int z8), .val (.int (own_emp vv)), .val (.int z10), .val (.int z11), .val (.ref r108), .val (.int (own_emp (vv &&& ww))), .val (.int (1 : Int32)), .val (.ref r113), .val (.int (own_emp ((3 : Int32) &&& (vv ^^^ (-1 : Int32)))))] [(.int (own_emp ((3 : Int32) &&& (vv ^^^ (-1 : Int32)))))])) (fun _ k => XS.ifYes X114.here hx rfl (pc0 := 217) (pc' := 224) rfl (hb hby at_217) rfl ((if0 _ _).trans (teq hc217_116).1) (by decide) (by decide) k) ?_
                    refine own_st (q' := T114.setTop (mkF m 225 #[.val (.int x0), .val (.int x1), .val (.int vv), .val (.int ww), .val (.ref b101), .val (.ref b103), .val (.int z6), .val (.int z7), .val (.int z8), .val (.int (own_emp vv)), .val (.int z10), .val (.int z11), .val (.ref r108), .val (.int (own_emp (vv &&& ww))), .val (.int (1 : Int32)), .val (.ref r113), .val (.int (own_emp ((3 : Int32) &&& (vv ^^^ (-1 : Int32)))))] [(.int (0 : Int32)), (.int (own_emp ((3 : Int32) &&& (vv ^^^ (-1 : Int32)))))])) (fun _ k => XS.iconst X114.here hx rfl (hb hby at_224) k) ?_
                    exact j225 (0 : Int32) (by rw [if_neg hc212_115, if_pos hc217_116])
                  · skip
                    have hc217_116I : ¬ (z7).toInt = (0 : Int) := own_eqF hc217_116
                    refine own_st (q' := T114.setTop (mkF m 220 #[.val (.int x0), .val (.int x1), .val (.int vv), .val (.int ww), .val (.ref b101), .val (.ref b103), .val (.int z6), .val (.int z7), .val (.int z8), .val (.int (own_emp vv)), .val (.int z10), .val (.int z11), .val (.ref r108), .val (.int (own_emp (vv &&& ww))), .val (.int (1 : Int32)), .val (.ref r113), .val (.int (own_emp ((3 : Int32) &&& (vv ^^^ (-1 : Int32)))))] [(.int (own_emp ((3 : Int32) &&& (vv ^^^ (-1 : Int32)))))])) (fun _ k => XS.ifNo X114.here hx rfl (hb hby at_217) rfl ((if0 _ _).trans (feq hc217_116).1) k) ?_
                    refine own_st (q' := T114.setTop (mkF m 221 #[.val (.int x0), .val (.int x1), .val (.int vv), .val (.int ww), .val (.ref b101), .val (.ref b103), .val (.int z6), .val (.int z7), .val (.int z8), .val (.int (own_emp vv)), .val (.int z10), .val (.int z11), .val (.ref r108), .val (.int (own_emp (vv &&& ww))), .val (.int (1 : Int32)), .val (.ref r113), .val (.int (own_emp ((3 : Int32) &&& (vv ^^^ (-1 : Int32)))))] [(.int (1 : Int32)), (.int (own_emp ((3 : Int32) &&& (vv ^^^ (-1 : Int32)))))])) (fun _ k => XS.iconst X114.here hx rfl (hb hby at_220) k) ?_
                    refine own_st (q' := T114.setTop (mkF m 225 #[.val (.int x0), .val (.int x1), .val (.int vv), .val (.int ww), .val (.ref b101), .val (.ref b103), .val (.int z6), .val (.int z7), .val (.int z8), .val (.int (own_emp vv)), .val (.int z10), .val (.int z11), .val (.ref r108), .val (.int (own_emp (vv &&& ww))), .val (.int (1 : Int32)), .val (.ref r113), .val (.int (own_emp ((3 : Int32) &&& (vv ^^^ (-1 : Int32)))))] [(.int (1 : Int32)), (.int (own_emp ((3 : Int32) &&& (vv ^^^ (-1 : Int32)))))])) (fun _ k => XS.goto X114.here hx rfl (pc0 := 221) (pc' := 225) rfl (hb hby at_221) (by decide) (by decide) k) ?_
                    exact j225 (1 : Int32) (by rw [if_neg hc212_115, if_neg hc217_116])
              by_cases hc187_117 : z10 = (0 : Int32)
              · skip
                have hc187_117I : (z10).toInt = (0 : Int) := own_eqT hc187_117
                refine own_st (q' := T114.setTop (mkF m 190 #[.val (.int x0), .val (.int x1), .val (.int vv), .val (.int ww), .val (.ref b101), .val (.ref b103), .val (.int z6), .val (.int z7), .val (.int z8), .val (.int (own_emp vv)), .val (.int z10), .val (.int z11), .val (.ref r108), .val (.int (own_emp (vv &&& ww))), .val (.int (1 : Int32)), .val (.ref r113), .val (.int (own_emp ((3 : Int32) &&& (vv ^^^ (-1 : Int32)))))] [(.int (own_emp (vv &&& ww)))])) (fun _ k => XS.ifNo X114.here hx rfl (hb hby at_187) rfl ((if0 _ _).trans (teq hc187_117).2) k) ?_
                refine own_st (q' := T114.setTop (mkF m 192 #[.val (.int x0), .val (.int x1), .val (.int vv), .val (.int ww), .val (.ref b101), .val (.ref b103), .val (.int z6), .val (.int z7), .val (.int z8), .val (.int (own_emp vv)), .val (.int z10), .val (.int z11), .val (.ref r108), .val (.int (own_emp (vv &&& ww))), .val (.int (1 : Int32)), .val (.ref r113), .val (.int (own_emp ((3 : Int32) &&& (vv ^^^ (-1 : Int32)))))] [(.int z11), (.int (own_emp (vv &&& ww)))])) (fun _ k => XS.iload X114.here hx rfl (hb hby at_190) rfl k) ?_
                by_cases hc192_118 : z11 = (0 : Int32)
                · skip
                  have hc192_118I : (z11).toInt = (0 : Int) := own_eqT hc192_118
                  refine own_st (q' := T114.setTop (mkF m 195 #[.val (.int x0), .val (.int x1), .val (.int vv), .val (.int ww), .val (.ref b101), .val (.ref b103), .val (.int z6), .val (.int z7), .val (.int z8), .val (.int (own_emp vv)), .val (.int z10), .val (.int z11), .val (.ref r108), .val (.int (own_emp (vv &&& ww))), .val (.int (1 : Int32)), .val (.ref r113), .val (.int (own_emp ((3 : Int32) &&& (vv ^^^ (-1 : Int32)))))] [(.int (own_emp (vv &&& ww)))])) (fun _ k => XS.ifNo X114.here hx rfl (hb hby at_192) rfl ((if0 _ _).trans (teq hc192_118).2) k) ?_
                  refine own_st (q' := T114.setTop (mkF m 196 #[.val (.int x0), .val (.int x1), .val (.int vv), .val (.int ww), .val (.ref b101), .val (.ref b103), .val (.int z6), .val (.int z7), .val (.int z8), .val (.int (own_emp vv)), .val (.int z10), .val (.int z11), .val (.ref r108), .val (.int (own_emp (vv &&& ww))), .val (.int (1 : Int32)), .val (.ref r113), .val (.int (own_emp ((3 : Int32) &&& (vv ^^^ (-1 : Int32)))))] [(.int (1 : Int32)), (.int (own_emp (vv &&& ww)))])) (fun _ k => XS.iconst X114.here hx rfl (hb hby at_195) k) ?_
                  refine own_st (q' := T114.setTop (mkF m 200 #[.val (.int x0), .val (.int x1), .val (.int vv), .val (.int ww), .val (.ref b101), .val (.ref b103), .val (.int z6), .val (.int z7), .val (.int z8), .val (.int (own_emp vv)), .val (.int z10), .val (.int z11), .val (.ref r108), .val (.int (own_emp (vv &&& ww))), .val (.int (1 : Int32)), .val (.ref r113), .val (.int (own_emp ((3 : Int32) &&& (vv ^^^ (-1 : Int32)))))] [(.int (1 : Int32)), (.int (own_emp (vv &&& ww)))])) (fun _ k => XS.goto X114.here hx rfl (pc0 := 196) (pc' := 200) rfl (hb hby at_196) (by decide) (by decide) k) ?_
                  exact j200 (1 : Int32) (by rw [if_pos hc187_117, if_pos hc192_118])
                · skip
                  have hc192_118I : ¬ (z11).toInt = (0 : Int) := own_eqF hc192_118
                  refine own_st (q' := T114.setTop (mkF m 199 #[.val (.int x0), .val (.int x1), .val (.int vv), .val (.int ww), .val (.ref b101), .val (.ref b103), .val (.int z6), .val (.int z7), .val (.int z8), .val (.int (own_emp vv)), .val (.int z10), .val (.int z11), .val (.ref r108), .val (.int (own_emp (vv &&& ww))), .val (.int (1 : Int32)), .val (.ref r113), .val (.int (own_emp ((3 : Int32) &&& (vv ^^^ (-1 : Int32)))))] [(.int (own_emp (vv &&& ww)))])) (fun _ k => XS.ifYes X114.here hx rfl (pc0 := 192) (pc' := 199) rfl (hb hby at_192) rfl ((if0 _ _).trans (feq hc192_118).2) (by decide) (by decide) k) ?_
                  refine own_st (q' := T114.setTop (mkF m 200 #[.val (.int x0), .val (.int x1), .val (.int vv), .val (.int ww), .val (.ref b101), .val (.ref b103), .val (.int z6), .val (.int z7), .val (.int z8), .val (.int (own_emp vv)), .val (.int z10), .val (.int z11), .val (.ref r108), .val (.int (own_emp (vv &&& ww))), .val (.int (1 : Int32)), .val (.ref r113), .val (.int (own_emp ((3 : Int32) &&& (vv ^^^ (-1 : Int32)))))] [(.int (0 : Int32)), (.int (own_emp (vv &&& ww)))])) (fun _ k => XS.iconst X114.here hx rfl (hb hby at_199) k) ?_
                  exact j200 (0 : Int32) (by rw [if_pos hc187_117, if_neg hc192_118])
              · skip
                have hc187_117I : ¬ (z10).toInt = (0 : Int) := own_eqF hc187_117
                refine own_st (q' := T114.setTop (mkF m 199 #[.val (.int x0), .val (.int x1), .val (.int vv), .val (.int ww), .val (.ref b101), .val (.ref b103), .val (.int z6), .val (.int z7), .val (.int z8), .val (.int (own_emp vv)), .val (.int z10), .val (.int z11), .val (.ref r108), .val (.int (own_emp (vv &&& ww))), .val (.int (1 : Int32)), .val (.ref r113), .val (.int (own_emp ((3 : Int32) &&& (vv ^^^ (-1 : Int32)))))] [(.int (own_emp (vv &&& ww)))])) (fun _ k => XS.ifYes X114.here hx rfl (pc0 := 187) (pc' := 199) rfl (hb hby at_187) rfl ((if0 _ _).trans (feq hc187_117).2) (by decide) (by decide) k) ?_
                refine own_st (q' := T114.setTop (mkF m 200 #[.val (.int x0), .val (.int x1), .val (.int vv), .val (.int ww), .val (.ref b101), .val (.ref b103), .val (.int z6), .val (.int z7), .val (.int z8), .val (.int (own_emp vv)), .val (.int z10), .val (.int z11), .val (.ref r108), .val (.int (own_emp (vv &&& ww))), .val (.int (1 : Int32)), .val (.ref r113), .val (.int (own_emp ((3 : Int32) &&& (vv ^^^ (-1 : Int32)))))] [(.int (0 : Int32)), (.int (own_emp (vv &&& ww)))])) (fun _ k => XS.iconst X114.here hx rfl (hb hby at_199) k) ?_
                exact j200 (0 : Int32) (by rw [if_neg hc187_117])
            by_cases hc140_119 : (lcmpW (own_min (1 : Int64) (own_bc vv).toInt64) (0 : Int64)) = (0 : Int32)
            · skip
              have hc140_119I : ((lcmpW (own_min (1 : Int64) (own_bc vv).toInt64) (0 : Int64))).toInt = (0 : Int) := own_eqT hc140_119
              refine own_st (q' := T111.setTop (mkF m 143 #[.val (.int x0), .val (.int x1), .val (.int vv), .val (.int ww), .val (.ref b101), .val (.ref b103), .val (.int z6), .val (.int z7), .val (.int z8), .val (.int (own_emp vv)), .val (.int z10), .val (.int z11), .val (.ref r108), .val (.int (own_emp (vv &&& ww))), .unset, .unset, .unset] [])) (fun _ k => XS.ifNo X111.here hx rfl (hb hby at_140) rfl ((if0 _ _).trans (teq hc140_119).2) k) ?_
              refine own_st (q' := T111.setTop (mkF m 144 #[.val (.int x0), .val (.int x1), .val (.int vv), .val (.int ww), .val (.ref b101), .val (.ref b103), .val (.int z6), .val (.int z7), .val (.int z8), .val (.int (own_emp vv)), .val (.int z10), .val (.int z11), .val (.ref r108), .val (.int (own_emp (vv &&& ww))), .unset, .unset, .unset] [(.int (1 : Int32))])) (fun _ k => XS.iconst X111.here hx rfl (hb hby at_143) k) ?_
              refine own_st (q' := T111.setTop (mkF m 148 #[.val (.int x0), .val (.int x1), .val (.int vv), .val (.int ww), .val (.ref b101), .val (.ref b103), .val (.int z6), .val (.int z7), .val (.int z8), .val (.int (own_emp vv)), .val (.int z10), .val (.int z11), .val (.ref r108), .val (.int (own_emp (vv &&& ww))), .unset, .unset, .unset] [(.int (1 : Int32))])) (fun _ k => XS.goto X111.here hx rfl (pc0 := 144) (pc' := 148) rfl (hb hby at_144) (by decide) (by decide) k) ?_
              exact j148 (1 : Int32) (by rw [if_pos hc140_119])
            · skip
              have hc140_119I : ¬ ((lcmpW (own_min (1 : Int64) (own_bc vv).toInt64) (0 : Int64))).toInt = (0 : Int) := own_eqF hc140_119
              refine own_st (q' := T111.setTop (mkF m 147 #[.val (.int x0), .val (.int x1), .val (.int vv), .val (.int ww), .val (.ref b101), .val (.ref b103), .val (.int z6), .val (.int z7), .val (.int z8), .val (.int (own_emp vv)), .val (.int z10), .val (.int z11), .val (.ref r108), .val (.int (own_emp (vv &&& ww))), .unset, .unset, .unset] [])) (fun _ k => XS.ifYes X111.here hx rfl (pc0 := 140) (pc' := 147) rfl (hb hby at_140) rfl ((if0 _ _).trans (feq hc140_119).2) (by decide) (by decide) k) ?_
              refine own_st (q' := T111.setTop (mkF m 148 #[.val (.int x0), .val (.int x1), .val (.int vv), .val (.int ww), .val (.ref b101), .val (.ref b103), .val (.int z6), .val (.int z7), .val (.int z8), .val (.int (own_emp vv)), .val (.int z10), .val (.int z11), .val (.ref r108), .val (.int (own_emp (vv &&& ww))), .unset, .unset, .unset] [(.int (0 : Int32))])) (fun _ k => XS.iconst X111.here hx rfl (hb hby at_147) k) ?_
              exact j148 (0 : Int32) (by rw [if_neg hc140_119])
          by_cases hc98_120 : z7 = (0 : Int32)
          · skip
            have hc98_120I : (z7).toInt = (0 : Int) := own_eqT hc98_120
            refine own_st (q' := T106.setTop (mkF m 111 #[.val (.int x0), .val (.int x1), .val (.int vv), .val (.int ww), .val (.ref b101), .val (.ref b103), .val (.int z6), .val (.int z7), .val (.int z8), .val (.int (own_emp vv)), .val (.int z10), .unset, .unset, .unset, .unset, .unset, .unset] [])) (fun _ k => XS.ifYes X106.here hx rfl (pc0 := 98) (pc' := 111) rfl (hb hby at_98) rfl ((if0 _ _).trans (teq hc98_120).1) (by decide) (by decide) k) ?_
            refine own_st (q' := T106.setTop (mkF m 112 #[.val (.int x0), .val (.int x1), .val (.int vv), .val (.int ww), .val (.ref b101), .val (.ref b103), .val (.int z6), .val (.int z7), .val (.int z8), .val (.int (own_emp vv)), .val (.int z10), .unset, .unset, .unset, .unset, .unset, .unset] [(.int (0 : Int32))])) (fun _ k => XS.iconst X106.here hx rfl (hb hby at_111) k) ?_
            exact j112 (0 : Int32) (by rw [if_pos hc98_120])
          · skip
            have hc98_120I : ¬ (z7).toInt = (0 : Int) := own_eqF hc98_120
            refine own_st (q' := T106.setTop (mkF m 101 #[.val (.int x0), .val (.int x1), .val (.int vv), .val (.int ww), .val (.ref b101), .val (.ref b103), .val (.int z6), .val (.int z7), .val (.int z8), .val (.int (own_emp vv)), .val (.int z10), .unset, .unset, .unset, .unset, .unset, .unset] [])) (fun _ k => XS.ifNo X106.here hx rfl (hb hby at_98) rfl ((if0 _ _).trans (feq hc98_120).1) k) ?_
            refine own_st (q' := T106.setTop (mkF m 102 #[.val (.int x0), .val (.int x1), .val (.int vv), .val (.int ww), .val (.ref b101), .val (.ref b103), .val (.int z6), .val (.int z7), .val (.int z8), .val (.int (own_emp vv)), .val (.int z10), .unset, .unset, .unset, .unset, .unset, .unset] [(.int ww)])) (fun _ k => XS.iloadN X106.here hx rfl (hb hby at_101) rfl k) ?_
            refine own_st (q' := T106.setTop (mkF m 103 #[.val (.int x0), .val (.int x1), .val (.int vv), .val (.int ww), .val (.ref b101), .val (.ref b103), .val (.int z6), .val (.int z7), .val (.int z8), .val (.int (own_emp vv)), .val (.int z10), .unset, .unset, .unset, .unset, .unset, .unset] [(.int (2 : Int32)), (.int ww)])) (fun _ k => XS.iconst X106.here hx rfl (hb hby at_102) k) ?_
            refine own_st (q' := T106.setTop (mkF m 104 #[.val (.int x0), .val (.int x1), .val (.int vv), .val (.int ww), .val (.ref b101), .val (.ref b103), .val (.int z6), .val (.int z7), .val (.int z8), .val (.int (own_emp vv)), .val (.int z10), .unset, .unset, .unset, .unset, .unset, .unset] [(.int (ww &&& (2 : Int32)))])) (fun _ k => XS.iand X106.here hx rfl (hb hby at_103) rfl k) ?_
            by_cases hc104_121 : (ww &&& (2 : Int32)) = (0 : Int32)
            · skip
              have hc104_121I : ((ww &&& (2 : Int32))).toInt = (0 : Int) := own_eqT hc104_121
              refine own_st (q' := T106.setTop (mkF m 111 #[.val (.int x0), .val (.int x1), .val (.int vv), .val (.int ww), .val (.ref b101), .val (.ref b103), .val (.int z6), .val (.int z7), .val (.int z8), .val (.int (own_emp vv)), .val (.int z10), .unset, .unset, .unset, .unset, .unset, .unset] [])) (fun _ k => XS.ifYes X106.here hx rfl (pc0 := 104) (pc' := 111) rfl (hb hby at_104) rfl ((if0 _ _).trans (teq hc104_121).1) (by decide) (by decide) k) ?_
              refine own_st (q' := T106.setTop (mkF m 112 #[.val (.int x0), .val (.int x1), .val (.int vv), .val (.int ww), .val (.ref b101), .val (.ref b103), .val (.int z6), .val (.int z7), .val (.int z8), .val (.int (own_emp vv)), .val (.int z10), .unset, .unset, .unset, .unset, .unset, .unset] [(.int (0 : Int32))])) (fun _ k => XS.iconst X106.here hx rfl (hb hby at_111) k) ?_
              exact j112 (0 : Int32) (by rw [if_neg hc98_120, if_pos hc104_121])
            · skip
              have hc104_121I : ¬ ((ww &&& (2 : Int32))).toInt = (0 : Int) := own_eqF hc104_121
              refine own_st (q' := T106.setTop (mkF m 107 #[.val (.int x0), .val (.int x1), .val (.int vv), .val (.int ww), .val (.ref b101), .val (.ref b103), .val (.int z6), .val (.int z7), .val (.int z8), .val (.int (own_emp vv)), .val (.int z10), .unset, .unset, .unset, .unset, .unset, .unset] [])) (fun _ k => XS.ifNo X106.here hx rfl (hb hby at_104) rfl ((if0 _ _).trans (feq hc104_121).1) k) ?_
              refine own_st (q' := T106.setTop (mkF m 108 #[.val (.int x0), .val (.int x1), .val (.int vv), .val (.int ww), .val (.ref b101), .val (.ref b103), .val (.int z6), .val (.int z7), .val (.int z8), .val (.int (own_emp vv)), .val (.int z10), .unset, .unset, .unset, .unset, .unset, .unset] [(.int (1 : Int32))])) (fun _ k => XS.iconst X106.here hx rfl (hb hby at_107) k) ?_
              refine own_st (q' := T106.setTop (mkF m 112 #[.val (.int x0), .val (.int x1), .val (.int vv), .val (.int ww), .val (.ref b101), .val (.ref b103), .val (.int z6), .val (.int z7), .val (.int z8), .val (.int (own_emp vv)), .val (.int z10), .unset, .unset, .unset, .unset, .unset, .unset] [(.int (1 : Int32))])) (fun _ k => XS.goto X106.here hx rfl (pc0 := 108) (pc' := 112) rfl (hb hby at_108) (by decide) (by decide) k) ?_
              exact j112 (1 : Int32) (by rw [if_neg hc98_120, if_neg hc104_121])
        by_cases hc80_122 : z6 = (0 : Int32)
        · skip
          have hc80_122I : (z6).toInt = (0 : Int) := own_eqT hc80_122
          refine own_st (q' := T106.setTop (mkF m 93 #[.val (.int x0), .val (.int x1), .val (.int vv), .val (.int ww), .val (.ref b101), .val (.ref b103), .val (.int z6), .val (.int z7), .val (.int z8), .val (.int (own_emp vv)), .unset, .unset, .unset, .unset, .unset, .unset, .unset] [])) (fun _ k => XS.ifYes X106.here hx rfl (pc0 := 80) (pc' := 93) rfl (hb hby at_80) rfl ((if0 _ _).trans (teq hc80_122).1) (by decide) (by decide) k) ?_
          refine own_st (q' := T106.setTop (mkF m 94 #[.val (.int x0), .val (.int x1), .val (.int vv), .val (.int ww), .val (.ref b101), .val (.ref b103), .val (.int z6), .val (.int z7), .val (.int z8), .val (.int (own_emp vv)), .unset, .unset, .unset, .unset, .unset, .unset, .unset] [(.int (0 : Int32))])) (fun _ k => XS.iconst X106.here hx rfl (hb hby at_93) k) ?_
          exact j94 (0 : Int32) (by rw [if_pos hc80_122])
        · skip
          have hc80_122I : ¬ (z6).toInt = (0 : Int) := own_eqF hc80_122
          refine own_st (q' := T106.setTop (mkF m 83 #[.val (.int x0), .val (.int x1), .val (.int vv), .val (.int ww), .val (.ref b101), .val (.ref b103), .val (.int z6), .val (.int z7), .val (.int z8), .val (.int (own_emp vv)), .unset, .unset, .unset, .unset, .unset, .unset, .unset] [])) (fun _ k => XS.ifNo X106.here hx rfl (hb hby at_80) rfl ((if0 _ _).trans (feq hc80_122).1) k) ?_
          refine own_st (q' := T106.setTop (mkF m 84 #[.val (.int x0), .val (.int x1), .val (.int vv), .val (.int ww), .val (.ref b101), .val (.ref b103), .val (.int z6), .val (.int z7), .val (.int z8), .val (.int (own_emp vv)), .unset, .unset, .unset, .unset, .unset, .unset, .unset] [(.int ww)])) (fun _ k => XS.iloadN X106.here hx rfl (hb hby at_83) rfl k) ?_
          refine own_st (q' := T106.setTop (mkF m 85 #[.val (.int x0), .val (.int x1), .val (.int vv), .val (.int ww), .val (.ref b101), .val (.ref b103), .val (.int z6), .val (.int z7), .val (.int z8), .val (.int (own_emp vv)), .unset, .unset, .unset, .unset, .unset, .unset, .unset] [(.int (1 : Int32)), (.int ww)])) (fun _ k => XS.iconst X106.here hx rfl (hb hby at_84) k) ?_
          refine own_st (q' := T106.setTop (mkF m 86 #[.val (.int x0), .val (.int x1), .val (.int vv), .val (.int ww), .val (.ref b101), .val (.ref b103), .val (.int z6), .val (.int z7), .val (.int z8), .val (.int (own_emp vv)), .unset, .unset, .unset, .unset, .unset, .unset, .unset] [(.int (ww &&& (1 : Int32)))])) (fun _ k => XS.iand X106.here hx rfl (hb hby at_85) rfl k) ?_
          by_cases hc86_123 : (ww &&& (1 : Int32)) = (0 : Int32)
          · skip
            have hc86_123I : ((ww &&& (1 : Int32))).toInt = (0 : Int) := own_eqT hc86_123
            refine own_st (q' := T106.setTop (mkF m 93 #[.val (.int x0), .val (.int x1), .val (.int vv), .val (.int ww), .val (.ref b101), .val (.ref b103), .val (.int z6), .val (.int z7), .val (.int z8), .val (.int (own_emp vv)), .unset, .unset, .unset, .unset, .unset, .unset, .unset] [])) (fun _ k => XS.ifYes X106.here hx rfl (pc0 := 86) (pc' := 93) rfl (hb hby at_86) rfl ((if0 _ _).trans (teq hc86_123).1) (by decide) (by decide) k) ?_
            refine own_st (q' := T106.setTop (mkF m 94 #[.val (.int x0), .val (.int x1), .val (.int vv), .val (.int ww), .val (.ref b101), .val (.ref b103), .val (.int z6), .val (.int z7), .val (.int z8), .val (.int (own_emp vv)), .unset, .unset, .unset, .unset, .unset, .unset, .unset] [(.int (0 : Int32))])) (fun _ k => XS.iconst X106.here hx rfl (hb hby at_93) k) ?_
            exact j94 (0 : Int32) (by rw [if_neg hc80_122, if_pos hc86_123])
          · skip
            have hc86_123I : ¬ ((ww &&& (1 : Int32))).toInt = (0 : Int) := own_eqF hc86_123
            refine own_st (q' := T106.setTop (mkF m 89 #[.val (.int x0), .val (.int x1), .val (.int vv), .val (.int ww), .val (.ref b101), .val (.ref b103), .val (.int z6), .val (.int z7), .val (.int z8), .val (.int (own_emp vv)), .unset, .unset, .unset, .unset, .unset, .unset, .unset] [])) (fun _ k => XS.ifNo X106.here hx rfl (hb hby at_86) rfl ((if0 _ _).trans (feq hc86_123).1) k) ?_
            refine own_st (q' := T106.setTop (mkF m 90 #[.val (.int x0), .val (.int x1), .val (.int vv), .val (.int ww), .val (.ref b101), .val (.ref b103), .val (.int z6), .val (.int z7), .val (.int z8), .val (.int (own_emp vv)), .unset, .unset, .unset, .unset, .unset, .unset, .unset] [(.int (1 : Int32))])) (fun _ k => XS.iconst X106.here hx rfl (hb hby at_89) k) ?_
            refine own_st (q' := T106.setTop (mkF m 94 #[.val (.int x0), .val (.int x1), .val (.int vv), .val (.int ww), .val (.ref b101), .val (.ref b103), .val (.int z6), .val (.int z7), .val (.int z8), .val (.int (own_emp vv)), .unset, .unset, .unset, .unset, .unset, .unset, .unset] [(.int (1 : Int32))])) (fun _ k => XS.goto X106.here hx rfl (pc0 := 90) (pc' := 94) rfl (hb hby at_90) (by decide) (by decide) k) ?_
            exact j94 (1 : Int32) (by rw [if_neg hc80_122, if_neg hc86_123])
      by_cases hc56_124 : z6 = (0 : Int32)
      · skip
        have hc56_124I : (z6).toInt = (0 : Int) := own_eqT hc56_124
        refine own_st (q' := T104.setTop (mkF m 59 #[.val (.int x0), .val (.int x1), .val (.int vv), .val (.int ww), .val (.ref b101), .val (.ref b103), .val (.int z6), .val (.int z7), .unset, .unset, .unset, .unset, .unset, .unset, .unset, .unset, .unset] [])) (fun _ k => XS.ifNo X104.here hx rfl (hb hby at_56) rfl ((if0 _ _).trans (teq hc56_124).2) k) ?_
        refine own_st (q' := T104.setTop (mkF m 61 #[.val (.int x0), .val (.int x1), .val (.int vv), .val (.int ww), .val (.ref b101), .val (.ref b103), .val (.int z6), .val (.int z7), .unset, .unset, .unset, .unset, .unset, .unset, .unset, .unset, .unset] [(.int z7)])) (fun _ k => XS.iload X104.here hx rfl (hb hby at_59) rfl k) ?_
        by_cases hc61_125 : z7 = (0 : Int32)
        · skip
          have hc61_125I : (z7).toInt = (0 : Int) := own_eqT hc61_125
          refine own_st (q' := T104.setTop (mkF m 64 #[.val (.int x0), .val (.int x1), .val (.int vv), .val (.int ww), .val (.ref b101), .val (.ref b103), .val (.int z6), .val (.int z7), .unset, .unset, .unset, .unset, .unset, .unset, .unset, .unset, .unset] [])) (fun _ k => XS.ifNo X104.here hx rfl (hb hby at_61) rfl ((if0 _ _).trans (teq hc61_125).2) k) ?_
          refine own_st (q' := T104.setTop (mkF m 65 #[.val (.int x0), .val (.int x1), .val (.int vv), .val (.int ww), .val (.ref b101), .val (.ref b103), .val (.int z6), .val (.int z7), .unset, .unset, .unset, .unset, .unset, .unset, .unset, .unset, .unset] [(.int (1 : Int32))])) (fun _ k => XS.iconst X104.here hx rfl (hb hby at_64) k) ?_
          refine own_st (q' := T104.setTop (mkF m 69 #[.val (.int x0), .val (.int x1), .val (.int vv), .val (.int ww), .val (.ref b101), .val (.ref b103), .val (.int z6), .val (.int z7), .unset, .unset, .unset, .unset, .unset, .unset, .unset, .unset, .unset] [(.int (1 : Int32))])) (fun _ k => XS.goto X104.here hx rfl (pc0 := 65) (pc' := 69) rfl (hb hby at_65) (by decide) (by decide) k) ?_
          exact j69 (1 : Int32) (by rw [if_pos hc56_124, if_pos hc61_125])
        · skip
          have hc61_125I : ¬ (z7).toInt = (0 : Int) := own_eqF hc61_125
          refine own_st (q' := T104.setTop (mkF m 68 #[.val (.int x0), .val (.int x1), .val (.int vv), .val (.int ww), .val (.ref b101), .val (.ref b103), .val (.int z6), .val (.int z7), .unset, .unset, .unset, .unset, .unset, .unset, .unset, .unset, .unset] [])) (fun _ k => XS.ifYes X104.here hx rfl (pc0 := 61) (pc' := 68) rfl (hb hby at_61) rfl ((if0 _ _).trans (feq hc61_125).2) (by decide) (by decide) k) ?_
          refine own_st (q' := T104.setTop (mkF m 69 #[.val (.int x0), .val (.int x1), .val (.int vv), .val (.int ww), .val (.ref b101), .val (.ref b103), .val (.int z6), .val (.int z7), .unset, .unset, .unset, .unset, .unset, .unset, .unset, .unset, .unset] [(.int (0 : Int32))])) (fun _ k => XS.iconst X104.here hx rfl (hb hby at_68) k) ?_
          exact j69 (0 : Int32) (by rw [if_pos hc56_124, if_neg hc61_125])
      · skip
        have hc56_124I : ¬ (z6).toInt = (0 : Int) := own_eqF hc56_124
        refine own_st (q' := T104.setTop (mkF m 68 #[.val (.int x0), .val (.int x1), .val (.int vv), .val (.int ww), .val (.ref b101), .val (.ref b103), .val (.int z6), .val (.int z7), .unset, .unset, .unset, .unset, .unset, .unset, .unset, .unset, .unset] [])) (fun _ k => XS.ifYes X104.here hx rfl (pc0 := 56) (pc' := 68) rfl (hb hby at_56) rfl ((if0 _ _).trans (feq hc56_124).2) (by decide) (by decide) k) ?_
        refine own_st (q' := T104.setTop (mkF m 69 #[.val (.int x0), .val (.int x1), .val (.int vv), .val (.int ww), .val (.ref b101), .val (.ref b103), .val (.int z6), .val (.int z7), .unset, .unset, .unset, .unset, .unset, .unset, .unset, .unset, .unset] [(.int (0 : Int32))])) (fun _ k => XS.iconst X104.here hx rfl (hb hby at_68) k) ?_
        exact j69 (0 : Int32) (by rw [if_neg hc56_124])
    by_cases hc44_126 : (vv &&& (2 : Int32)) = (0 : Int32)
    · skip
      have hc44_126I : ((vv &&& (2 : Int32))).toInt = (0 : Int) := own_eqT hc44_126
      refine own_st (q' := T104.setTop (mkF m 51 #[.val (.int x0), .val (.int x1), .val (.int vv), .val (.int ww), .val (.ref b101), .val (.ref b103), .val (.int z6), .unset, .unset, .unset, .unset, .unset, .unset, .unset, .unset, .unset, .unset] [])) (fun _ k => XS.ifYes X104.here hx rfl (pc0 := 44) (pc' := 51) rfl (hb hby at_44) rfl ((if0 _ _).trans (teq hc44_126).1) (by decide) (by decide) k) ?_
      refine own_st (q' := T104.setTop (mkF m 52 #[.val (.int x0), .val (.int x1), .val (.int vv), .val (.int ww), .val (.ref b101), .val (.ref b103), .val (.int z6), .unset, .unset, .unset, .unset, .unset, .unset, .unset, .unset, .unset, .unset] [(.int (0 : Int32))])) (fun _ k => XS.iconst X104.here hx rfl (hb hby at_51) k) ?_
      exact j52 (0 : Int32) (by rw [if_pos hc44_126])
    · skip
      have hc44_126I : ¬ ((vv &&& (2 : Int32))).toInt = (0 : Int) := own_eqF hc44_126
      refine own_st (q' := T104.setTop (mkF m 47 #[.val (.int x0), .val (.int x1), .val (.int vv), .val (.int ww), .val (.ref b101), .val (.ref b103), .val (.int z6), .unset, .unset, .unset, .unset, .unset, .unset, .unset, .unset, .unset, .unset] [])) (fun _ k => XS.ifNo X104.here hx rfl (hb hby at_44) rfl ((if0 _ _).trans (feq hc44_126).1) k) ?_
      refine own_st (q' := T104.setTop (mkF m 48 #[.val (.int x0), .val (.int x1), .val (.int vv), .val (.int ww), .val (.ref b101), .val (.ref b103), .val (.int z6), .unset, .unset, .unset, .unset, .unset, .unset, .unset, .unset, .unset, .unset] [(.int (1 : Int32))])) (fun _ k => XS.iconst X104.here hx rfl (hb hby at_47) k) ?_
      refine own_st (q' := T104.setTop (mkF m 52 #[.val (.int x0), .val (.int x1), .val (.int vv), .val (.int ww), .val (.ref b101), .val (.ref b103), .val (.int z6), .unset, .unset, .unset, .unset, .unset, .unset, .unset, .unset, .unset, .unset] [(.int (1 : Int32))])) (fun _ k => XS.goto X104.here hx rfl (pc0 := 48) (pc' := 52) rfl (hb hby at_48) (by decide) (by decide) k) ?_
      exact j52 (1 : Int32) (by rw [if_neg hc44_126])
  by_cases hc31_127 : (vv &&& (1 : Int32)) = (0 : Int32)
  · skip
    have hc31_127I : ((vv &&& (1 : Int32))).toInt = (0 : Int) := own_eqT hc31_127
    refine own_st (q' := T104.setTop (mkF m 38 #[.val (.int x0), .val (.int x1), .val (.int vv), .val (.int ww), .val (.ref b101), .val (.ref b103), .unset, .unset, .unset, .unset, .unset, .unset, .unset, .unset, .unset, .unset, .unset] [])) (fun _ k => XS.ifYes X104.here hx rfl (pc0 := 31) (pc' := 38) rfl (hb hby at_31) rfl ((if0 _ _).trans (teq hc31_127).1) (by decide) (by decide) k) ?_
    refine own_st (q' := T104.setTop (mkF m 39 #[.val (.int x0), .val (.int x1), .val (.int vv), .val (.int ww), .val (.ref b101), .val (.ref b103), .unset, .unset, .unset, .unset, .unset, .unset, .unset, .unset, .unset, .unset, .unset] [(.int (0 : Int32))])) (fun _ k => XS.iconst X104.here hx rfl (hb hby at_38) k) ?_
    exact j39 (0 : Int32) (by rw [if_pos hc31_127])
  · skip
    have hc31_127I : ¬ ((vv &&& (1 : Int32))).toInt = (0 : Int) := own_eqF hc31_127
    refine own_st (q' := T104.setTop (mkF m 34 #[.val (.int x0), .val (.int x1), .val (.int vv), .val (.int ww), .val (.ref b101), .val (.ref b103), .unset, .unset, .unset, .unset, .unset, .unset, .unset, .unset, .unset, .unset, .unset] [])) (fun _ k => XS.ifNo X104.here hx rfl (hb hby at_31) rfl ((if0 _ _).trans (feq hc31_127).1) k) ?_
    refine own_st (q' := T104.setTop (mkF m 35 #[.val (.int x0), .val (.int x1), .val (.int vv), .val (.int ww), .val (.ref b101), .val (.ref b103), .unset, .unset, .unset, .unset, .unset, .unset, .unset, .unset, .unset, .unset, .unset] [(.int (1 : Int32))])) (fun _ k => XS.iconst X104.here hx rfl (hb hby at_34) k) ?_
    refine own_st (q' := T104.setTop (mkF m 39 #[.val (.int x0), .val (.int x1), .val (.int vv), .val (.int ww), .val (.ref b101), .val (.ref b103), .unset, .unset, .unset, .unset, .unset, .unset, .unset, .unset, .unset, .unset, .unset] [(.int (1 : Int32))])) (fun _ k => XS.goto X104.here hx rfl (pc0 := 35) (pc' := 39) rfl (hb hby at_35) (by decide) (by decide) k) ?_
    exact j39 (1 : Int32) (by rw [if_neg hc31_127])
set_option maxRecDepth 65536 in
set_option maxHeartbeats 40000000 in
theorem comes_1 {Post : Tables → Env → Array Value → State → Outcome → State → Prop} (hpost : ∀ tb e args s v u, (limb_1_1.after args s (.returned v) u = true ∧ limb_1_2.after args s (.returned v) u = true ∧ True) → FrameEnd s (.returned v) u (Jvm.fieldLocs frame_1_writes args s ++ Jvm.arrayLocs frame_1_arrays args s ++ Jvm.staticLocs frame_1_statics s) 16 128 → Post tb e args s (.returned v) u) :
    ArmFor flags0 classFile x code maxLocals ret World_1 tables_1 room_1 Calls_1 rest_1 Pre_1 Post := by
  intro l hfl _ _ p e ha hc hk s m args below hf hA hF happ hP
  obtain ⟨hcalls, hrest, hpre⟩ := hP
  obtain ⟨-, -, -, hnamed, -, -, -, hat⟩ := (Spec.applies_iff hf).mp happ
  obtain ⟨hg, hn⟩ := and_e (Cond.before_iff.mp (show (Jvm.Cond.and given_1 narrow_1).before args s = true from hpre))
  obtain ⟨hcount, g0⟩ := and_e hg
  obtain ⟨hi0, g1⟩ := and_e g0
  have hi1 := g1
  obtain ⟨w0, w1, rfl⟩ : ∃ w0 w1 : Value, args = #[w0, w1] := by
    have hs : args.size = 2 := by simpa [Cond.value, given_1] using hcount
    obtain ⟨L⟩ := args
    match L, hs with
    | [w0, w1], _ => exact ⟨w0, w1, rfl⟩
  have hw := fun d (hd : d ∈ tables_1) => atoms_spec (ws := Jvm.Cond.code x code maxLocals ret :: tables_1) hat d (List.mem_cons_of_mem _ hd)
  have hfit : Fit s := fun {y c} hc i hi => by
    obtain ⟨ha, rfl⟩ := Array.getElem?_eq_some_iff.mp hc
    have q := List.all_eq_true.mp ((Array.all_eq_true_iff_forall_mem.mp hF) _ (Array.getElem_mem ha)) i (List.mem_range.mpr hi)
    simpa [Array.getElem?_eq_getElem hi] using q
  obtain ⟨i0, ei0⟩ := is_v hi0
  obtain rfl : w0 = (.int i0) := Option.some.inj ei0
  obtain ⟨i1, ei1⟩ := is_v hi1
  obtain rfl : w1 = (.int i1) := Option.some.inj ei1
  obtain ⟨n, o, h1, h2, h3, _, L, rfl, ⟨rfl, N⟩, hq⟩ := rm0 l s _ hw tables_1 i0 i1 s.heap s.heap.size (Nat.le_refl _) p e ha hc hk s m _ below hf ((Spec.applies_iff_loose hf).mp happ).1 ⟨rfl, State.Warmed39.refl s, rfl⟩ trivial
  refine ⟨n, _, h1, h2, h3, hpost _ _ _ _ _ _ ⟨Cond.after_iff.mpr rfl, Cond.after_iff.mpr (eq_i res_at (Term.int_eval (1)) rfl), trivial⟩ ⟨hq.1, hq.2.1, (hq.2.2.sift fun y hy => Or.inr (N y hy)).mono (by decide) (by decide)⟩⟩
theorem main_1_1 : Claimed_1_1 := comes_1 fun _ _ _ _ _ _ h hF => ⟨h.1, hF⟩
theorem main_1_2 : Claimed_1_2 := comes_1 fun _ _ _ _ _ _ h hF => ⟨h.2.1, hF⟩
end Jvm.Pilot.@@N@@
namespace Jvm.Pilot.@@N@@
open Jvm Jvm.ClassFile Sem Op Lib Jvm.Free Jvm.Stand Jvm.Pilot.@@N@@.Jvm.D
/-! MADE BY PROGRAM (witnessworld.py) out of the Statement's table words and the real class files: 17 classes; the members and pool entries that the words name. The judged class is class 1, her method 1. -/
namespace start1
open Jvm.ClassFile
def u (s : String) : CpInfo := .utf8 (stringToUtf16 s)
/-- a pool by its gaps: so many unusable entries, then the entry; so many at the end -/
def gap : Nat → List CpInfo → List CpInfo
  | 0, r => r
  | n + 1, r => .unusable :: gap n r
def poolList (es : List (Nat × CpInfo)) (last : Nat) : List CpInfo := es.foldr (fun e r => gap e.1 (e.2 :: r)) (gap last [])
def pool (es : List (Nat × CpInfo)) (last : Nat) : Array CpInfo := ⟨poolList es last⟩
def fileOf (pool : Array CpInfo) (this : Nat) (attrs : Array Attribute := #[]) (ms : Array MethodInfo := #[]) (fl : Nat := 33) (sup : Nat := 0) (ifs : Array Nat := #[]) (fds : Array FieldInfo := #[]) : ClassFile where
  minorVersion := 0
  majorVersion := 65
  constantPool := pool
  accessFlags := fl
  thisClass := this
  superClass := sup
  interfaces := ifs
  fields := fds
  methods := ms
  attributes := attrs
def plain (name : String) (sup : Option ClassId) : Class where
  name := name
  kind := .ordinary
  loader := none
  accessFlags := 33
  super := sup
  interfaces := #[]
  cf := none
  fields := #[]
  methods := #[]
  instanceTypes := #[]
  staticTypes := #[]
  resolved := #[]
  callSites := []
  init := .initialized
  statics := none
  mirror := none

def pool0 : Array CpInfo := pool [(5, u "<init>"), (0, u "()V"), (1, .class_ 10), (1, u "java/lang/Object")] 113

def k0c0 : Code := { maxStack := 0, maxLocals := 1, code := object_method_1_code, exceptionTable := #[], attributes := #[] }
def k0m0 : Method := { name := "<init>", desc := "()V", sig := { parameters := [], returnType := none }, accessFlags := 1, code := some k0c0 }
/-- java/lang/Object -/
def k0 : Class := { plain "java/lang/Object" none with
  accessFlags := 33
  interfaces := #[]
  cf := some (fileOf pool0 8 #[] #[{ accessFlags := 1, nameIndex := 5, descriptorIndex := 6, attributes := #[] }] 33 0 #[] #[])
  fields := #[]
  methods := #[k0m0]
  instanceTypes := #[]
  staticTypes := #[]
  resolved := Array.replicate 124 none
  statics := none }

def pool1 : Array CpInfo := pool [(2, .class_ 4), (1, u "java/lang/Object"), (0, u "<init>"), (0, u "()V"), (0, .class_ 8), (0, u "com/example/nominate/nominate/datatype/DataRange$Truths"), (0, .methodref 7 10), (0, .nameAndType 5 11), (0, u "(I)V"), (0, .methodref 7 13), (0, .nameAndType 14 15), (0, u "isEmpty"), (0, u "()Z"), (0, .methodref 7 17), (0, .nameAndType 18 19), (0, u "and"), (0, u "(Lcom/example/nominate/nominate/datatype/DataRange$Part;)Lcom/example/nominate/nominate/datatype/DataRange$Part;"), (0, .interfaceMethodref 21 13), (0, .class_ 22), (0, u "com/example/nominate/nominate/datatype/DataRange$Part"), (0, .methodref 7 24), (0, .nameAndType 25 26), (0, u "count"), (0, u "(J)J"), (0, .methodref 7 28), (0, .nameAndType 29 30), (0, u "complement"), (0, u "()Lcom/example/nominate/nominate/datatype/DataRange$Part;"), (0, .class_ 32), (0, u "com/example/nominate/nominate/datatype/TruthsIsEmptyPinLaw"), (2, u "law"), (0, u "(II)Z")] 8

def k1m0 : Method := { name := "<init>", desc := "()V", sig := { parameters := [], returnType := none }, accessFlags := 2, code := none }
def k1c1 : Code := { maxStack := 4, maxLocals := 17, code := code, exceptionTable := #[], attributes := #[] }
def k1m1 : Method := { name := "law", desc := "(II)Z", sig := { parameters := [.int, .int], returnType := some .boolean }, accessFlags := 9, code := some k1c1 }
/-- com/example/nominate/nominate/datatype/TruthsIsEmptyPinLaw -/
def k1 : Class := { plain "com/example/nominate/nominate/datatype/TruthsIsEmptyPinLaw" (some 0) with
  accessFlags := 49
  interfaces := #[]
  cf := some (fileOf pool1 31 #[] #[{ accessFlags := 2, nameIndex := 5, descriptorIndex := 6, attributes := #[] }, { accessFlags := 9, nameIndex := 35, descriptorIndex := 36, attributes := #[] }] 49 2 #[] #[])
  fields := #[]
  methods := #[k1m0, k1m1]
  instanceTypes := #[]
  staticTypes := #[]
  resolved := Array.replicate 45 none
  statics := none }

def pool2 : Array CpInfo := pool [(1, .methodref 2 3), (0, .class_ 4), (0, .nameAndType 5 6), (0, u "java/lang/Object"), (0, u "<init>"), (0, u "()V"), (0, .class_ 8), (0, u "java/lang/Record")] 13

def k2c0 : Code := { maxStack := 1, maxLocals := 1, code := jdk_30_method_1_code, exceptionTable := #[], attributes := #[] }
def k2m0 : Method := { name := "<init>", desc := "()V", sig := { parameters := [], returnType := none }, accessFlags := 4, code := some k2c0 }
/-- java/lang/Record -/
def k2 : Class := { plain "java/lang/Record" (some 0) with
  accessFlags := 1057
  interfaces := #[]
  cf := some (fileOf pool2 7 #[] #[{ accessFlags := 4, nameIndex := 5, descriptorIndex := 6, attributes := #[] }] 1057 2 #[] #[])
  fields := #[]
  methods := #[k2m0]
  instanceTypes := #[]
  staticTypes := #[]
  resolved := Array.replicate 22 none
  statics := none }

def pool3 : Array CpInfo := pool [(1, .class_ 2), (0, u "com/example/nominate/nominate/datatype/DataRange$Part"), (0, .class_ 4), (0, u "java/lang/Object"), (5, u "isEmpty"), (0, u "()Z"), (9, .class_ 22), (0, u "com/example/nominate/nominate/datatype/DataRange")] 18

def k3m0 : Method := { name := "isEmpty", desc := "()Z", sig := { parameters := [], returnType := some .boolean }, accessFlags := 1025, code := none }
/-- com/example/nominate/nominate/datatype/DataRange$Part -/
def k3 : Class := { plain "com/example/nominate/nominate/datatype/DataRange$Part" (some 0) with
  accessFlags := 1536
  interfaces := #[]
  cf := some (fileOf pool3 1 #[.nestHost 21] #[{ accessFlags := 1025, nameIndex := 10, descriptorIndex := 11, attributes := #[] }] 1536 3 #[] #[])
  fields := #[]
  methods := #[k3m0]
  instanceTypes := #[]
  staticTypes := #[]
  resolved := Array.replicate 41 none
  statics := none }

def pool4 : Array CpInfo := pool [(1, .class_ 2), (0, u "com/example/nominate/nominate/datatype/DataRange$Truths"), (0, .methodref 4 5), (0, .class_ 6), (0, .nameAndType 7 8), (0, u "java/lang/Record"), (0, u "<init>"), (0, u "()V"), (0, .fieldref 1 10), (0, .nameAndType 11 12), (0, u "values"), (0, u "I"), (0, .methodref 1 14), (0, .nameAndType 7 15), (0, u "(I)V"), (0, .methodref 17 18), (0, .class_ 19), (0, .nameAndType 20 21), (0, u "java/lang/Integer"), (0, u "bitCount"), (0, u "(I)I"), (0, .methodref 23 24), (0, .class_ 25), (0, .nameAndType 26 27), (0, u "java/lang/Math"), (0, u "min"), (0, u "(JJ)J"), (58, .class_ 87), (0, u "com/example/nominate/nominate/datatype/DataRange$Part"), (0, u "FALSE"), (2, u "TRUE"), (1, u "BOTH"), (4, u "and"), (0, u "(Lcom/example/nominate/nominate/datatype/DataRange$Part;)Lcom/example/nominate/nominate/datatype/DataRange$Part;"), (1, u "complement"), (0, u "()Lcom/example/nominate/nominate/datatype/DataRange$Part;"), (0, u "isEmpty"), (0, u "()Z"), (1, u "count"), (0, u "(J)J"), (14, .class_ 123), (0, u "com/example/nominate/nominate/datatype/DataRange")] 36

def k4c0 : Code := { maxStack := 2, maxLocals := 2, code := prog_12_method_1_code, exceptionTable := #[], attributes := #[] }
def k4m0 : Method := { name := "<init>", desc := "(I)V", sig := { parameters := [.int], returnType := none }, accessFlags := 0, code := some k4c0 }
def k4c1 : Code := { maxStack := 4, maxLocals := 2, code := prog_12_method_2_code, exceptionTable := #[], attributes := #[] }
def k4m1 : Method := { name := "and", desc := "(Lcom/example/nominate/nominate/datatype/DataRange$Part;)Lcom/example/nominate/nominate/datatype/DataRange$Part;", sig := { parameters := [(.object "com/example/nominate/nominate/datatype/DataRange$Part")], returnType := some (.object "com/example/nominate/nominate/datatype/DataRange$Part") }, accessFlags := 1, code := some k4c1 }
def k4c2 : Code := { maxStack := 5, maxLocals := 1, code := prog_12_method_4_code, exceptionTable := #[], attributes := #[] }
def k4m2 : Method := { name := "complement", desc := "()Lcom/example/nominate/nominate/datatype/DataRange$Part;", sig := { parameters := [], returnType := some (.object "com/example/nominate/nominate/datatype/DataRange$Part") }, accessFlags := 1, code := some k4c2 }
def k4c3 : Code := { maxStack := 1, maxLocals := 1, code := prog_12_method_5_code, exceptionTable := #[], attributes := #[] }
def k4m3 : Method := { name := "isEmpty", desc := "()Z", sig := { parameters := [], returnType := some .boolean }, accessFlags := 1, code := some k4c3 }
def k4c4 : Code := { maxStack := 4, maxLocals := 3, code := prog_12_method_6_code, exceptionTable := #[], attributes := #[] }
def k4m4 : Method := { name := "count", desc := "(J)J", sig := { parameters := [.long], returnType := some .long }, accessFlags := 1, code := some k4c4 }
/-- com/example/nominate/nominate/datatype/DataRange$Truths -/
def k4 : Class := { plain "com/example/nominate/nominate/datatype/DataRange$Truths" (some 2) with
  accessFlags := 48
  interfaces := #[3]
  cf := some (fileOf pool4 1 #[.nestHost 122] #[{ accessFlags := 0, nameIndex := 7, descriptorIndex := 15, attributes := #[] }, { accessFlags := 1, nameIndex := 98, descriptorIndex := 99, attributes := #[] }, { accessFlags := 1, nameIndex := 101, descriptorIndex := 102, attributes := #[] }, { accessFlags := 1, nameIndex := 103, descriptorIndex := 104, attributes := #[] }, { accessFlags := 1, nameIndex := 106, descriptorIndex := 107, attributes := #[] }] 48 4 #[86] #[{ accessFlags := 18, nameIndex := 11, descriptorIndex := 12, attributes := #[] }, { accessFlags := 24, nameIndex := 88, descriptorIndex := 12, attributes := #[] }, { accessFlags := 24, nameIndex := 91, descriptorIndex := 12, attributes := #[] }, { accessFlags := 24, nameIndex := 93, descriptorIndex := 12, attributes := #[] }])
  fields := #[{ name := "values", type := .int, accessFlags := 18, slot := 0, constantValue := 0 }, { name := "FALSE", type := .int, accessFlags := 24, slot := 0, constantValue := 0 }, { name := "TRUE", type := .int, accessFlags := 24, slot := 1, constantValue := 0 }, { name := "BOTH", type := .int, accessFlags := 24, slot := 2, constantValue := 0 }]
  methods := #[k4m0, k4m1, k4m2, k4m3, k4m4]
  instanceTypes := #[.int]
  staticTypes := #[.int, .int, .int]
  resolved := Array.replicate 160 none
  statics := none }

def pool5 : Array CpInfo := pool [(1, .class_ 2), (0, u "java/io/Serializable"), (0, .class_ 4), (0, u "java/lang/Object")] 2

/-- java/io/Serializable -/
def k5 : Class := { plain "java/io/Serializable" (some 0) with
  accessFlags := 1537
  interfaces := #[]
  cf := some (fileOf pool5 1 #[] #[] 1537 3 #[] #[])
  fields := #[]
  methods := #[]
  instanceTypes := #[]
  staticTypes := #[]
  resolved := Array.replicate 7 none
  statics := none }

def pool6 : Array CpInfo := pool [(2, .class_ 4), (1, u "java/lang/Object"), (0, u "<init>"), (0, u "()V"), (1, .class_ 10), (1, u "java/lang/Number"), (2, .class_ 14), (0, u "java/io/Serializable"), (0, u "serialVersionUID"), (0, u "J")] 20

def k6m0 : Method := { name := "<init>", desc := "()V", sig := { parameters := [], returnType := none }, accessFlags := 1, code := none }
/-- java/lang/Number -/
def k6 : Class := { plain "java/lang/Number" (some 0) with
  accessFlags := 1057
  interfaces := #[5]
  cf := some (fileOf pool6 8 #[] #[{ accessFlags := 1, nameIndex := 5, descriptorIndex := 6, attributes := #[] }] 1057 2 #[13] #[{ accessFlags := 26, nameIndex := 15, descriptorIndex := 16, attributes := #[] }])
  fields := #[{ name := "serialVersionUID", type := .long, accessFlags := 26, slot := 0, constantValue := 0 }]
  methods := #[k6m0]
  instanceTypes := #[]
  staticTypes := #[.long]
  resolved := Array.replicate 37 none
  statics := none }

def pool7 : Array CpInfo := pool [(1, .class_ 2), (0, u "java/lang/Comparable"), (0, .class_ 4), (0, u "java/lang/Object")] 7

/-- java/lang/Comparable -/
def k7 : Class := { plain "java/lang/Comparable" (some 0) with
  accessFlags := 1537
  interfaces := #[]
  cf := some (fileOf pool7 1 #[] #[] 1537 3 #[] #[])
  fields := #[]
  methods := #[]
  instanceTypes := #[]
  staticTypes := #[]
  resolved := Array.replicate 12 none
  statics := none }

def pool8 : Array CpInfo := pool [(1, .class_ 2), (0, u "java/lang/constant/Constable"), (0, .class_ 4), (0, u "java/lang/Object")] 6

/-- java/lang/constant/Constable -/
def k8 : Class := { plain "java/lang/constant/Constable" (some 0) with
  accessFlags := 1537
  interfaces := #[]
  cf := some (fileOf pool8 1 #[] #[] 1537 3 #[] #[])
  fields := #[]
  methods := #[]
  instanceTypes := #[]
  staticTypes := #[]
  resolved := Array.replicate 11 none
  statics := none }

def pool9 : Array CpInfo := pool [(1, .class_ 2), (0, u "java/lang/constant/ConstantDesc"), (0, .class_ 4), (0, u "java/lang/Object")] 32

/-- java/lang/constant/ConstantDesc -/
def k9 : Class := { plain "java/lang/constant/ConstantDesc" (some 0) with
  accessFlags := 1537
  interfaces := #[]
  cf := some (fileOf pool9 1 #[] #[] 1537 3 #[] #[])
  fields := #[]
  methods := #[]
  instanceTypes := #[]
  staticTypes := #[]
  resolved := Array.replicate 37 none
  statics := none }

def pool10 : Array CpInfo := pool [(1, .class_ 2), (0, u "java/lang/Integer"), (16, u "digits"), (0, u "[C"), (33, u "(I)I"), (30, u "DigitOnes"), (0, u "[B"), (2, u "DigitTens"), (99, .class_ 190), (0, u "java/lang/Integer$IntegerCache"), (3, u "I"), (8, .class_ 204), (0, u "java/lang/Number"), (2, u "value"), (57, .integer 1431655765), (0, .integer 858993459), (0, .integer 252645135), (34, u "TYPE"), (0, u "Ljava/lang/Class;"), (0, .class_ 305), (0, u "java/lang/Comparable"), (0, .class_ 307), (0, u "java/lang/constant/Constable"), (0, .class_ 309), (0, u "java/lang/constant/ConstantDesc"), (0, u "MIN_VALUE"), (1, u "MAX_VALUE"), (3, u "SIZE"), (1, u "BYTES"), (1, u "serialVersionUID"), (0, u "J"), (85, u "bitCount")] 45

def k10c0 : Code := { maxStack := 3, maxLocals := 1, code := jdk_33_method_49_code, exceptionTable := #[], attributes := #[] }
def k10m0 : Method := { name := "bitCount", desc := "(I)I", sig := { parameters := [.int], returnType := some .int }, accessFlags := 9, code := some k10c0 }
/-- java/lang/Integer -/
def k10 : Class := { plain "java/lang/Integer" (some 6) with
  accessFlags := 49
  interfaces := #[7, 8, 9]
  cf := some (fileOf pool10 1 #[.nestMembers #[189]] #[{ accessFlags := 9, nameIndex := 407, descriptorIndex := 54, attributes := #[] }] 49 203 #[304, 306, 308] #[{ accessFlags := 25, nameIndex := 310, descriptorIndex := 194, attributes := #[] }, { accessFlags := 25, nameIndex := 312, descriptorIndex := 194, attributes := #[] }, { accessFlags := 25, nameIndex := 302, descriptorIndex := 303, attributes := #[] }, { accessFlags := 24, nameIndex := 19, descriptorIndex := 20, attributes := #[] }, { accessFlags := 24, nameIndex := 89, descriptorIndex := 86, attributes := #[] }, { accessFlags := 24, nameIndex := 85, descriptorIndex := 86, attributes := #[] }, { accessFlags := 18, nameIndex := 207, descriptorIndex := 194, attributes := #[] }, { accessFlags := 25, nameIndex := 316, descriptorIndex := 194, attributes := #[] }, { accessFlags := 25, nameIndex := 318, descriptorIndex := 194, attributes := #[] }, { accessFlags := 26, nameIndex := 320, descriptorIndex := 321, attributes := #[] }])
  fields := #[{ name := "MIN_VALUE", type := .int, accessFlags := 25, slot := 0, constantValue := 0 }, { name := "MAX_VALUE", type := .int, accessFlags := 25, slot := 1, constantValue := 0 }, { name := "TYPE", type := (.object "java/lang/Class"), accessFlags := 25, slot := 2, constantValue := 0 }, { name := "digits", type := (.array .char), accessFlags := 24, slot := 3, constantValue := 0 }, { name := "DigitTens", type := (.array .byte), accessFlags := 24, slot := 4, constantValue := 0 }, { name := "DigitOnes", type := (.array .byte), accessFlags := 24, slot := 5, constantValue := 0 }, { name := "value", type := .int, accessFlags := 18, slot := 0, constantValue := 0 }, { name := "SIZE", type := .int, accessFlags := 25, slot := 6, constantValue := 0 }, { name := "BYTES", type := .int, accessFlags := 25, slot := 7, constantValue := 0 }, { name := "serialVersionUID", type := .long, accessFlags := 26, slot := 8, constantValue := 0 }]
  methods := #[k10m0]
  instanceTypes := #[.int]
  staticTypes := #[.int, .int, (.object "java/lang/Class"), (.array .char), (.array .byte), (.array .byte), .int, .int, .long]
  resolved := Array.replicate 453 none
  statics := none }

def pool11 : Array CpInfo := pool [(1, .class_ 2), (0, u "java/lang/Math"), (1, .class_ 6), (1, u "java/lang/Object"), (0, u "<init>"), (0, u "()V"), (89, .class_ 100), (1, u "java/lang/Math$RandomNumberGeneratorHolder"), (20, u "(JJ)J"), (50, u "negativeZeroFloatBits"), (0, u "J"), (2, u "negativeZeroDoubleBits"), (24, u "min"), (43, u "$assertionsDisabled"), (0, u "Z"), (91, u "twoToTheDoubleScaleDown"), (0, u "D"), (4, u "twoToTheDoubleScaleUp"), (9, u "E"), (3, u "PI"), (2, u "TAU"), (2, u "DEGREES_TO_RADIANS"), (0, u "RADIANS_TO_DEGREES")] 94

def k11m0 : Method := { name := "<init>", desc := "()V", sig := { parameters := [], returnType := none }, accessFlags := 2, code := none }
def k11c1 : Code := { maxStack := 4, maxLocals := 4, code := jdk_29_method_70_code, exceptionTable := #[], attributes := #[] }
def k11m1 : Method := { name := "min", desc := "(JJ)J", sig := { parameters := [.long, .long], returnType := some .long }, accessFlags := 9, code := some k11c1 }
/-- java/lang/Math -/
def k11 : Class := { plain "java/lang/Math" (some 0) with
  accessFlags := 49
  interfaces := #[]
  cf := some (fileOf pool11 1 #[.nestMembers #[98]] #[{ accessFlags := 2, nameIndex := 7, descriptorIndex := 8, attributes := #[] }, { accessFlags := 9, nameIndex := 201, descriptorIndex := 121, attributes := #[] }] 49 4 #[] #[{ accessFlags := 25, nameIndex := 354, descriptorIndex := 339, attributes := #[] }, { accessFlags := 25, nameIndex := 358, descriptorIndex := 339, attributes := #[] }, { accessFlags := 25, nameIndex := 361, descriptorIndex := 339, attributes := #[] }, { accessFlags := 26, nameIndex := 364, descriptorIndex := 339, attributes := #[] }, { accessFlags := 26, nameIndex := 365, descriptorIndex := 339, attributes := #[] }, { accessFlags := 26, nameIndex := 172, descriptorIndex := 173, attributes := #[] }, { accessFlags := 26, nameIndex := 176, descriptorIndex := 173, attributes := #[] }, { accessFlags := 8, nameIndex := 344, descriptorIndex := 339, attributes := #[] }, { accessFlags := 8, nameIndex := 338, descriptorIndex := 339, attributes := #[] }, { accessFlags := 4120, nameIndex := 245, descriptorIndex := 246, attributes := #[] }])
  fields := #[{ name := "E", type := .double, accessFlags := 25, slot := 0, constantValue := 0 }, { name := "PI", type := .double, accessFlags := 25, slot := 1, constantValue := 0 }, { name := "TAU", type := .double, accessFlags := 25, slot := 2, constantValue := 0 }, { name := "DEGREES_TO_RADIANS", type := .double, accessFlags := 26, slot := 3, constantValue := 0 }, { name := "RADIANS_TO_DEGREES", type := .double, accessFlags := 26, slot := 4, constantValue := 0 }, { name := "negativeZeroFloatBits", type := .long, accessFlags := 26, slot := 5, constantValue := 0 }, { name := "negativeZeroDoubleBits", type := .long, accessFlags := 26, slot := 6, constantValue := 0 }, { name := "twoToTheDoubleScaleUp", type := .double, accessFlags := 8, slot := 7, constantValue := 0 }, { name := "twoToTheDoubleScaleDown", type := .double, accessFlags := 8, slot := 8, constantValue := 0 }, { name := "$assertionsDisabled", type := .boolean, accessFlags := 4120, slot := 9, constantValue := 0 }]
  methods := #[k11m0, k11m1]
  instanceTypes := #[]
  staticTypes := #[.double, .double, .double, .double, .double, .long, .long, .double, .double, .boolean]
  resolved := Array.replicate 460 none
  statics := none }

def pool12 : Array CpInfo := pool [(1, u "java/lang/Cloneable"), (0, .class_ 1), (0, u "java/lang/Object"), (0, .class_ 3)] 3

/-- java/lang/Cloneable -/
def k12 : Class := { plain "java/lang/Cloneable" (some 0) with
  accessFlags := 1537
  interfaces := #[]
  cf := some (fileOf pool12 2 #[] #[] 1537 4 #[] #[])
  fields := #[]
  methods := #[]
  instanceTypes := #[]
  staticTypes := #[]
  resolved := Array.replicate 8 none
  statics := none }

/-- the primitive byte -/
def k13 : Class := { plain "byte" none with kind := .primitive 'B', accessFlags := 0x411 }
/-- [B -/
def k14 : Class := { plain "[B" (some 0) with kind := .array 13 .byte, interfaces := #[12, 5], accessFlags := 1041 }

/-- the primitive int -/
def k15 : Class := { plain "int" none with kind := .primitive 'I', accessFlags := 0x411 }
/-- [I -/
def k16 : Class := { plain "[I" (some 0) with kind := .array 15 .int, interfaces := #[12, 5], accessFlags := 1041 }

def heap : Heap := #[]
def classes : Array Class := #[k0, k1, k2, k3, k4, k5, k6, k7, k8, k9, k10, k11, k12, k13, k14, k15, k16]
def interned : List (Array UInt16 × Addr) := []
def slotsUsed : Nat := 0
def theMethod : MethodId := ⟨1, 1⟩
def args0 : Array Value := #[.int 5, .int 7]
def aboutOver (below : List Frame) : State where
  vm := { classes := classes, interned := interned.toArray }
  heap := heap
  slotsUsed := slotsUsed
  threads := #[{ frames := .invoking theMethod args0 :: below }]
def below0 : List Frame := [.native { method := ⟨0, 0⟩, args := #[] }]
def about1 : State := aboutOver below0
def p0 : Program := .bare "" "" ""
def e0 : Env := launch0.env 0 0 0
theorem w_frames : about1.frames = Frame.invoking theMethod args0 :: below0 := rfl
set_option maxRecDepth 65536 in
theorem w_args : argsFit about1.vm theMethod args0 = true := by decide +kernel
set_option maxRecDepth 65536 in
theorem w_heap : heapFits about1 = true := by decide +kernel
set_option maxRecDepth 65536 in
theorem w_runnable : about1.curStatus? = some .runnable := by decide +kernel
set_option maxRecDepth 65536 in
theorem w_alone : about1.alone = true := by decide +kernel
set_option maxRecDepth 65536 in
theorem w_named : about1.methodNamed? x = some theMethod := by decide +kernel
set_option maxRecDepth 65536 in
theorem w_hears : about1.hears theMethod below0 = true := by decide +kernel
set_option maxRecDepth 65536 in
theorem w_ripe : about1.ripe theMethod args0 below0 = true := by decide +kernel
theorem w_running : about1.status = .running := rfl
set_option maxRecDepth 65536 in
theorem w_room : about1.hasRoom e0.platform room_1 = true :=
  launch0.hasRoom_least _ room_1 (by decide +kernel) (by decide +kernel) (by decide +kernel) (by decide +kernel) (by decide +kernel) (by decide +kernel)
theorem allAtoms_all (ts : List Jvm.Cond) (a : Array Jvm.Value) (st : Jvm.State) : (allAtoms ts).before a st = ts.all (fun c => c.before a st) := by
  induction ts with
  | nil => rfl
  | cons c t ih =>
    show (Jvm.Cond.and c (allAtoms t)).before a st = _
    rw [Jvm.Cond.before_and, ih, List.all_cons]
def words1 : List Jvm.Cond := Jvm.Cond.code x code maxLocals ret :: tables_1
/-- a 'code' word, met by the world's own term for the bytes: nothing is compared byte by byte -/
theorem code_word {y : MethodName} {bytes : ByteArray} {mx : Nat} {rt : Option FieldType} {a : Array Value} {s : State} {m : MethodId} {meth : Method} {c : Code} (h1 : s.methodNamed? y = some m) (h2 : s.vm.method? m = some meth) (h3 : meth.code = some c) (h4 : c.code = bytes)
    (h5 : (c.maxLocals == mx && c.exceptionTable.isEmpty && decide (c.maxStack ≤ mostOperands) && decide (meth.sig.returnType = rt) && !meth.locks && decide (parseMethodDescriptor y.desc = some meth.sig)) = true) : (Jvm.Cond.code y bytes mx rt).before a s = true := by
  simp only [Bool.and_eq_true, beq_iff_eq, Bool.not_eq_true', decide_eq_true_eq] at h5
  obtain ⟨⟨⟨⟨⟨g1, g2⟩, g3⟩, g4⟩, g5⟩, g6⟩ := h5
  simp [Cond.before, Cond.holds, Cond.value, h1, h2, h3, h4, g1, g2, g3, g4, g5, g6]
def isCode : Jvm.Cond → Bool
  | .code _ _ _ _ => true
  | _ => false
theorem all_split {L : List Jvm.Cond} {P : Jvm.Cond → Bool} (h1 : L.all (fun c => isCode c || P c) = true) (h2 : ∀ c ∈ L.filter isCode, P c = true) : L.all P = true := by
  refine List.all_eq_true.mpr fun c hc => ?_
  have h := List.all_eq_true.mp h1 c hc
  rcases Bool.eq_false_or_eq_true (isCode c) with hi | hi
  · exact h2 c (List.mem_filter.mpr ⟨hc, hi⟩)
  · simpa [hi] using h
set_option maxRecDepth 65536 in
theorem w_c0 : (Jvm.Cond.code x code maxLocals ret).before args0 about1 = true := code_word (m := ⟨1, 1⟩) (meth := k1m1) (c := k1c1) (by decide +kernel) rfl rfl rfl (by decide +kernel)
set_option maxRecDepth 65536 in
theorem w_c1 : (Jvm.Cond.code ({ cls := "com/example/nominate/nominate/datatype/DataRange$Truths", name := "<init>", desc := "(I)V" } : Jvm.MethodName) prog_12_method_1_code (2 : Nat) (Option.none : Option Jvm.ClassFile.FieldType)).before args0 about1 = true := code_word (m := ⟨4, 0⟩) (meth := k4m0) (c := k4c0) (by decide +kernel) rfl rfl rfl (by decide +kernel)
set_option maxRecDepth 65536 in
theorem w_c2 : (Jvm.Cond.code ({ cls := "java/lang/Record", name := "<init>", desc := "()V" } : Jvm.MethodName) jdk_30_method_1_code (1 : Nat) (Option.none : Option Jvm.ClassFile.FieldType)).before args0 about1 = true := code_word (m := ⟨2, 0⟩) (meth := k2m0) (c := k2c0) (by decide +kernel) rfl rfl rfl (by decide +kernel)
set_option maxRecDepth 65536 in
theorem w_c3 : (Jvm.Cond.code ({ cls := "java/lang/Object", name := "<init>", desc := "()V" } : Jvm.MethodName) object_method_1_code (1 : Nat) (Option.none : Option Jvm.ClassFile.FieldType)).before args0 about1 = true := code_word (m := ⟨0, 0⟩) (meth := k0m0) (c := k0c0) (by decide +kernel) rfl rfl rfl (by decide +kernel)
set_option maxRecDepth 65536 in
theorem w_c4 : (Jvm.Cond.code ({ cls := "com/example/nominate/nominate/datatype/DataRange$Truths", name := "isEmpty", desc := "()Z" } : Jvm.MethodName) prog_12_method_5_code (1 : Nat) (Option.some Jvm.ClassFile.FieldType.boolean)).before args0 about1 = true := code_word (m := ⟨4, 3⟩) (meth := k4m3) (c := k4c3) (by decide +kernel) rfl rfl rfl (by decide +kernel)
set_option maxRecDepth 65536 in
theorem w_c5 : (Jvm.Cond.code ({ cls := "com/example/nominate/nominate/datatype/DataRange$Truths", name := "and", desc := "(Lcom/example/nominate/nominate/datatype/DataRange$Part;)Lcom/example/nominate/nominate/datatype/DataRange$Part;" } : Jvm.MethodName) prog_12_method_2_code (2 : Nat) (Option.some (Jvm.ClassFile.FieldType.object "com/example/nominate/nominate/datatype/DataRange$Part"))).before args0 about1 = true := code_word (m := ⟨4, 1⟩) (meth := k4m1) (c := k4c1) (by decide +kernel) rfl rfl rfl (by decide +kernel)
set_option maxRecDepth 65536 in
theorem w_c6 : (Jvm.Cond.code ({ cls := "com/example/nominate/nominate/datatype/DataRange$Truths", name := "count", desc := "(J)J" } : Jvm.MethodName) prog_12_method_6_code (3 : Nat) (Option.some Jvm.ClassFile.FieldType.long)).before args0 about1 = true := code_word (m := ⟨4, 4⟩) (meth := k4m4) (c := k4c4) (by decide +kernel) rfl rfl rfl (by decide +kernel)
set_option maxRecDepth 65536 in
theorem w_c7 : (Jvm.Cond.code ({ cls := "java/lang/Integer", name := "bitCount", desc := "(I)I" } : Jvm.MethodName) jdk_33_method_49_code (1 : Nat) (Option.some Jvm.ClassFile.FieldType.int)).before args0 about1 = true := code_word (m := ⟨10, 0⟩) (meth := k10m0) (c := k10c0) (by decide +kernel) rfl rfl rfl (by decide +kernel)
set_option maxRecDepth 65536 in
theorem w_c8 : (Jvm.Cond.code ({ cls := "java/lang/Math", name := "min", desc := "(JJ)J" } : Jvm.MethodName) jdk_29_method_70_code (4 : Nat) (Option.some Jvm.ClassFile.FieldType.long)).before args0 about1 = true := code_word (m := ⟨11, 1⟩) (meth := k11m1) (c := k11c1) (by decide +kernel) rfl rfl rfl (by decide +kernel)
set_option maxRecDepth 65536 in
theorem w_c9 : (Jvm.Cond.code ({ cls := "com/example/nominate/nominate/datatype/DataRange$Truths", name := "complement", desc := "()Lcom/example/nominate/nominate/datatype/DataRange$Part;" } : Jvm.MethodName) prog_12_method_4_code (1 : Nat) (Option.some (Jvm.ClassFile.FieldType.object "com/example/nominate/nominate/datatype/DataRange$Part"))).before args0 about1 = true := code_word (m := ⟨4, 2⟩) (meth := k4m2) (c := k4c2) (by decide +kernel) rfl rfl rfl (by decide +kernel)
def codes1 : List Jvm.Cond := [Jvm.Cond.code x code maxLocals ret, Jvm.Cond.code ({ cls := "com/example/nominate/nominate/datatype/DataRange$Truths", name := "<init>", desc := "(I)V" } : Jvm.MethodName) prog_12_method_1_code (2 : Nat) (Option.none : Option Jvm.ClassFile.FieldType), Jvm.Cond.code ({ cls := "java/lang/Record", name := "<init>", desc := "()V" } : Jvm.MethodName) jdk_30_method_1_code (1 : Nat) (Option.none : Option Jvm.ClassFile.FieldType), Jvm.Cond.code ({ cls := "java/lang/Object", name := "<init>", desc := "()V" } : Jvm.MethodName) object_method_1_code (1 : Nat) (Option.none : Option Jvm.ClassFile.FieldType), Jvm.Cond.code ({ cls := "com/example/nominate/nominate/datatype/DataRange$Truths", name := "isEmpty", desc := "()Z" } : Jvm.MethodName) prog_12_method_5_code (1 : Nat) (Option.some Jvm.ClassFile.FieldType.boolean), Jvm.Cond.code ({ cls := "com/example/nominate/nominate/datatype/DataRange$Truths", name := "and", desc := "(Lcom/example/nominate/nominate/datatype/DataRange$Part;)Lcom/example/nominate/nominate/datatype/DataRange$Part;" } : Jvm.MethodName) prog_12_method_2_code (2 : Nat) (Option.some (Jvm.ClassFile.FieldType.object "com/example/nominate/nominate/datatype/DataRange$Part")), Jvm.Cond.code ({ cls := "com/example/nominate/nominate/datatype/DataRange$Truths", name := "count", desc := "(J)J" } : Jvm.MethodName) prog_12_method_6_code (3 : Nat) (Option.some Jvm.ClassFile.FieldType.long), Jvm.Cond.code ({ cls := "java/lang/Integer", name := "bitCount", desc := "(I)I" } : Jvm.MethodName) jdk_33_method_49_code (1 : Nat) (Option.some Jvm.ClassFile.FieldType.int), Jvm.Cond.code ({ cls := "java/lang/Math", name := "min", desc := "(JJ)J" } : Jvm.MethodName) jdk_29_method_70_code (4 : Nat) (Option.some Jvm.ClassFile.FieldType.long), Jvm.Cond.code ({ cls := "com/example/nominate/nominate/datatype/DataRange$Truths", name := "complement", desc := "()Lcom/example/nominate/nominate/datatype/DataRange$Part;" } : Jvm.MethodName) prog_12_method_4_code (1 : Nat) (Option.some (Jvm.ClassFile.FieldType.object "com/example/nominate/nominate/datatype/DataRange$Part"))]
set_option maxRecDepth 65536 in
theorem codes_eq : words1.filter isCode = codes1 := rfl
theorem w_codes : ∀ c ∈ words1.filter isCode, c.before args0 about1 = true := by
  rw [codes_eq]
  intro c hc
  simp only [codes1, List.mem_cons, List.not_mem_nil, or_false] at hc
  rcases hc with rfl | rfl | rfl | rfl | rfl | rfl | rfl | rfl | rfl | rfl
  · exact w_c0
  · exact w_c1
  · exact w_c2
  · exact w_c3
  · exact w_c4
  · exact w_c5
  · exact w_c6
  · exact w_c7
  · exact w_c8
  · exact w_c9
set_option maxRecDepth 65536 in
theorem w_t1 : (words1.take 24).all (fun c => isCode c || c.before args0 about1) = true := by decide +kernel
set_option maxRecDepth 65536 in
theorem w_t2 : ((words1.drop 24).take 24).all (fun c => isCode c || c.before args0 about1) = true := by decide +kernel
set_option maxRecDepth 65536 in
theorem w_t3 : ((words1.drop 24).drop 24).all (fun c => isCode c || c.before args0 about1) = true := by decide +kernel
theorem w_tables : (allAtoms (Jvm.Cond.code x code maxLocals ret :: tables_1)).before args0 about1 = true := by
  rw [allAtoms_all]
  show words1.all (fun c => c.before args0 about1) = true
  refine all_split ?_ w_codes
  rw [← List.take_append_drop 24 words1, List.all_append, w_t1, ← List.take_append_drop 24 (words1.drop 24), List.all_append, w_t2, w_t3]
  rfl
set_option maxRecDepth 65536 in
theorem w_case : (Jvm.Cond.and given_1 narrow_1).before args0 about1 = true := by decide +kernel
theorem w_applies : (headSpec (Jvm.Cond.code x code maxLocals ret :: tables_1) room_1).applies x e0.platform about1 = true :=
  (Spec.applies_iff w_frames).mpr ⟨w_running, w_runnable, w_alone, w_named, w_hears, w_ripe, w_room, w_tables⟩
theorem atStart : AtStart classFile x code maxLocals ret World_1 tables_1 room_1 Calls_1 rest_1 Pre_1 launch0 p0 e0 about1 theMethod args0 below0 :=
  ⟨lists_1, trivial, launch0.admits_env _ _ _, launch0.least_env, fairChoices_fair.cas, fairChoices_fair.clock, w_frames, w_args, w_heap, w_applies, trivial, trivial, w_case⟩
end start1
theorem witness_1 : WitnessClaimed_1 := ⟨start1.p0, start1.e0, start1.about1, start1.theMethod, start1.args0, start1.below0, start1.atStart⟩
end Jvm.Pilot.@@N@@
