import JvmDerived
import JvmDerived.Pilot.@@N@@Statement
import JvmDerived.Pilot.@@N@@Code
set_option linter.unusedVariables false
set_option linter.unusedSimpArgs false
namespace Jvm.RoadKit
open Sem ClassFile Op Lib Jvm.Stand Jvm.Free Jvm.LawKit
section New
variable {p : Program} {l : Launch} {e : Env} {R : Room} {s : State} {m : MethodId} {args : Array Value} {below : List Frame} {meth : Method} {c : Code} {T : State} {locs : List Loc} {cells slots : Nat}
theorem retI (X : Stand p l e R s m args below meth c T locs cells slots) (hx : p.tables.exec = Jvm.exec) {pc : Nat} {Ls : Array Slot} {z : Int32} {rest : List Value} (hret : meth.sig.returnType = some .int) (hd : decode c.code pc = .ok (.ireturn, 1)) {fs : List Frame}
    (hl : ∀ (f : JFrame) (acts : List Action), f.method = m → f.locked = none → f.entered = [] → (doReturn e (T.setTop f) acts (some (.int z))).1 = T.setFrames fs) : Steps p.tables e below (T.setTop (mkF m pc Ls (.int z :: rest))) (T.setFrames fs) := by
  have hm' : T.vm.method? m = some meth := X.method'
  have hn : narrow .int (.int z) = .int z := rfl
  show Steps p.tables e below (T.setTop { method := m, pc := pc, locals := Ls, stack := _ :: rest, locked := none }) _
  jvm_step X.here [X.here.top, hx, hd, hm', hret, hn]
  first | (intro acts; rw [hl _ acts rfl rfl rfl]) | rw [hl _ _ rfl rfl rfl]
  exact Steps.refl _
end New
end Jvm.RoadKit
namespace Jvm.Pilot.@@N@@
open Jvm Jvm.ClassFile Sem Op Lib Jvm.Free Jvm.Stand Jvm.LawKit Jvm.RoadKit Bundle Jvm.Pilot.@@N@@.Jvm.D
section Own
variable {p : Program} {l : Launch} {e : Env} {R : Room} {s : State} {m : MethodId} {args : Array Value} {below : List Frame} {meth : Method} {c : Code} {T : State} {locs : List Loc} {cells slots : Nat} {Q : Option Value → Heap → List Loc → Prop} {nc ns : Nat}
/-- from here the run comes to an end of which Q speaks -/
def own_Dn (p : Program) (e : Env) (below : List Frame) (s : State) (Q : Option Value → Heap → List Loc → Prop) (nc ns : Nat) (q : State) : Prop :=
  ∃ t o, Steps p.tables e below q t ∧ t.status = .running ∧ Ended t below o ∧ ∃ v L, o = .returned v ∧ Q v t.heap L ∧ FrameEnd s o t L nc ns
theorem own_st {q q' : State} (h : ∀ t, Steps p.tables e below q' t → Steps p.tables e below q t) (d : own_Dn p e below s Q nc ns q') : own_Dn p e below s Q nc ns q := by
  obtain ⟨t, o, h1, r⟩ := d
  exact ⟨t, o, h _ h1, r⟩
/-- a body's contract -/
def own_Met (l : Launch) (Z : State) (y : MethodName) (ws : List Jvm.Cond) (bytes : ByteArray) (maxL : Nat) (ret : Option FieldType) (rm : Room) (as : Array Value) (h0 : Heap) (Q : Option Value → Heap → List Loc → Prop) : Prop :=
  MetFree l y (head1 (Jvm.Cond.code y bytes maxL ret :: ws) rm) (fun a U => a = as ∧ Z.Warmed39 U.vm ∧ U.heap = h0) (fun _ _ _ _ _ => True) (fun _ U o U' => ∃ v L, o = .returned v ∧ Q v U'.heap L ∧ FrameEnd U o U' L rm.cells rm.slots)
theorem own_body {Z : State} {y : MethodName} {ws : List Jvm.Cond} {bytes : ByteArray} {maxL : Nat} {ret : Option FieldType} {rm : Room} {as : Array Value} {h0 : Heap} (hp : plainFor y = true)
    (body : ∀ p e s m below meth c s₁, p.tables.exec = Jvm.exec → c.code = bytes → c.maxLocals = maxL → s.vm.findClass y.cls = some m.cls → meth.name = y.name → meth.sig.returnType = ret → meth.locks = false → Z.Warmed39 s.vm → Stand p l e rm s m as below meth c s₁ [] 0 0 → s₁.heap = h0 → own_Dn p e below s Q rm.cells rm.slots (s₁.setTop (entryFrame m as maxL))) :
    own_Met l Z y ws bytes maxL ret rm as h0 Q := by
  refine MetFree.of_bodySF hp hisR ?_
  intro p e s m args below meth c s₁ Bd hml0 hP hK
  obtain ⟨rfl, hZ, hh⟩ := hP
  exact body p e s m below meth c s₁ Bd.exec Bd.bytes hml0 (findClass_of_methodNamed Bd.named) (name_of_methodNamed Bd.named Bd.method).1 Bd.returns Bd.notSynchronized hZ (Stand.of_body Bd) (by rw [← hh, Bd.state]; rfl)
theorem own_entry {m : MethodId} {as : Array Value} {maxL : Nat} {g : JFrame} (q : entryFrame m as maxL = g) (d : own_Dn p e below s Q nc ns (T.setTop g)) : own_Dn p e below s Q nc ns (T.setTop (entryFrame m as maxL)) := q ▸ d
theorem own_retI (X : Stand p l e R s m args below meth c T locs cells slots) (hx : p.tables.exec = Jvm.exec) (hlk : meth.locks = false) {pc : Nat} {Ls : Array Slot} {z : Int32} {rest : List Value} (hret : meth.sig.returnType = some .int) (hd : decode c.code pc = .ok (.ireturn, 1)) {h : Heap} (eT : T.heap = h) (hQ : Q (some (.int z)) h locs) (hc : cells ≤ nc) (hs : slots ≤ ns) :
    own_Dn p e below s Q nc ns (T.setTop (mkF m pc Ls (.int z :: rest))) := by
  obtain ⟨fs, hr, hrun, hended, hW, hsame⟩ := X.leave (v := some (.int z)) (fun h => by rw [hret] at h; cases h) hlk
  subst eT
  exact ⟨_, _, retI X hx hret hd hr, hrun, hended, _, _, rfl, hQ, ⟨_, rfl⟩, hW, hsame.mono hc hs⟩
theorem own_retN (X : Stand p l e R s m args below meth c T locs cells slots) (hx : p.tables.exec = Jvm.exec) (hlk : meth.locks = false) {t : FieldType} {pc : Nat} {Ls : Array Slot} {z : Int32} {rest : List Value} (hret : meth.sig.returnType = some t) (ht : t = .boolean ∨ t = .byte ∨ t = .char ∨ t = .short) (hd : decode c.code pc = .ok (.ireturn, 1)) {h : Heap} (eT : T.heap = h) (hQ : Q (some (.int (nar t z))) h locs) (hc : cells ≤ nc) (hs : slots ≤ ns) :
    own_Dn p e below s Q nc ns (T.setTop (mkF m pc Ls (.int z :: rest))) := by
  obtain ⟨fs, hr, hrun, hended, hW, hsame⟩ := X.leave (v := some (.int (nar t z))) (fun h => by rw [hret] at h; cases h) hlk
  subst eT
  exact ⟨_, _, retN X hx hret ht hd hr, hrun, hended, _, _, rfl, hQ, ⟨_, rfl⟩, hW, hsame.mono hc hs⟩
theorem own_retV (X : Stand p l e R s m args below meth c T locs cells slots) (hx : p.tables.exec = Jvm.exec) (hlk : meth.locks = false) {pc : Nat} {Ls : Array Slot} (hret : meth.sig.returnType = none) (hd : decode c.code pc = .ok (.return_, 1)) {h : Heap} (eT : T.heap = h) (hQ : Q none h locs) (hc : cells ≤ nc) (hs : slots ≤ ns) :
    own_Dn p e below s Q nc ns (T.setTop (mkF m pc Ls [])) := by
  obtain ⟨fs, hr, hrun, hended, hW, hsame⟩ := X.leave (v := none) (fun _ => rfl) hlk
  subst eT
  exact ⟨_, _, X.returnOut hx hret hd hr, hrun, hended, _, _, rfl, hQ, ⟨_, rfl⟩, hW, hsame.mono hc hs⟩
theorem own_retO (X : Stand p l e R s m args below meth c T locs cells slots) (hx : p.tables.exec = Jvm.exec) (hlk : meth.locks = false) {t : FieldType} {w : Value} {i : Instr} {pc : Nat} {Ls : Array Slot} {rest : List Value} (hret : meth.sig.returnType = some t) (hn : narrow t w = w)
    (hi : (i = .ireturn ∧ (t = .int ∨ t = .boolean ∨ t = .byte ∨ t = .char ∨ t = .short) ∧ ∃ z, w = .int z) ∨ (i = .lreturn ∧ t = .long ∧ ∃ z, w = .long z) ∨ (i = .dreturn ∧ t = .double ∧ ∃ z, w = .double z) ∨ (i = .freturn ∧ t = .float ∧ ∃ z, w = .float z) ∨ (i = .areturn ∧ t.isReference = true ∧ w.isRef = true))
    (hd : decode c.code pc = .ok (i, 1)) {h : Heap} (eT : T.heap = h) (hQ : Q (some w) h locs) (hc : cells ≤ nc) (hs : slots ≤ ns) : own_Dn p e below s Q nc ns (T.setTop (mkF m pc Ls (w :: rest))) := by
  obtain ⟨fs, hr, hrun, hended, hW, hsame⟩ := X.leave (v := some w) (fun h => by rw [hret] at h; cases h) hlk
  subst eT
  exact ⟨_, _, retOut X hx hret hn hi hd hr, hrun, hended, _, _, rfl, hQ, ⟨_, rfl⟩, hW, hsame.mono hc hs⟩
theorem own_mono {cells' slots' : Nat} (X : Stand p l e R s m args below meth c T locs cells slots) (h1 : cells ≤ cells') (h2 : slots ≤ slots') : Stand p l e R s m args below meth c T locs cells' slots' :=
  ⟨X.admits, X.cas, X.clock, X.frames, X.room, X.hears, X.method, X.code, X.here, X.tail, X.warmed, X.limits, X.bytes, X.same.mono h1 h2⟩
theorem own_callS {Z : State} {a0 : Array Value} {h : Heap} {own : String} {index : Nat} {y : MethodName} {bytes : ByteArray} {maxL : Nat} {ret : Option FieldType} {rm : Room} {as : Array Value} {Q' : Option Value → Heap → List Loc → Prop}
    (X : Stand p l e R s m args below meth c T locs cells slots) (hx : p.tables.exec = Jvm.exec) (hZ : Z.Warmed39 s.vm) (hown : s.vm.findClass own = some m.cls)
    (w1 : (Cond.methodLink own index y).before a0 Z = true) (w2 : (Cond.static y).before a0 Z = true) (w3 : (Cond.initialized y.cls).before a0 Z = true) (w4 : (Cond.code y bytes maxL ret).before a0 Z = true) (hy : y.cls ≠ "java/lang/invoke/MethodHandle" ∧ y.cls ≠ "java/lang/invoke/VarHandle")
    (M : own_Met l Z y [] bytes maxL ret rm as h Q') (eT : T.heap = h) {W : Nat} (hf : rm.frames + 1 ≤ R.frames) (hl : W + (maxL + 11) + rm.locals ≤ R.locals) (hc : cells + rm.cells ≤ R.cells) (hs : slots + rm.slots ≤ R.slots)
    {g : JFrame} (hg : g.method = m) (hsize : g.locals.size = c.maxLocals) {argsL rest : List Value} (has : argsL.toArray = as) (hlen : ∀ sig, parseMethodDescriptor y.desc = some sig → argsL.length = sig.parameters.length)
    (hstack : g.stack = argsL.reverse ++ rest) (hW : 2 * g.monitorRoom + (rest.map fun v => v.category).sum ≤ W) (hd : decode c.code g.pc = .ok (.invokestatic index, 3))
    (k : ∀ v T' L, Q' v T'.heap L → Stand p l e R s m args below meth c T' (locs ++ L) (cells + rm.cells) (slots + rm.slots) → own_Dn p e below s Q nc ns (T'.setTop { g with pc := g.pc + 3, stack := v.toList ++ rest })) :
    own_Dn p e below s Q nc ns (T.setTop g) := by
  obtain ⟨v, _, ⟨T', L', k', n'⟩, -, X', ⟨Lc, hQ, l1, y1, z1⟩, st⟩ := Jvm.LawKit.callS X hx hown (mvT hZ w1) (mvT hZ w2) (mvT hZ w3) (mvT hZ w4) hy (backOf (W := W) M hZ w4 w3 hf hl) hg hsize (argsL := argsL) (rest := rest) hlen hstack hW hd (fun _ _ => ⟨has, eT, hc, hs⟩)
  dsimp only [Pt.U, Pt.locs, Pt.cells, Pt.slots] at X' l1 y1 z1 st hQ
  subst l1 y1 z1
  exact own_st (fun t q => st t q) (k v T' Lc hQ X')
theorem own_callI {Z : State} {a0 : Array Value} {h : Heap} {own : String} {index : Nat} {y : MethodName} {bytes : ByteArray} {maxL : Nat} {rm : Room} {as : Array Value} {Q' : Option Value → Heap → List Loc → Prop}
    (X : Stand p l e R s m args below meth c T locs cells slots) (hx : p.tables.exec = Jvm.exec) (hZ : Z.Warmed39 s.vm) (hown : s.vm.findClass own = some m.cls) (hy1 : y.name = "<init>")
    (w1 : (Cond.methodLink own index y).before a0 Z = true) (w2 : (Cond.instanceMethod y).before a0 Z = true) (w3 : (Cond.initialized y.cls).before a0 Z = true) (w4 : (Cond.code y bytes maxL none).before a0 Z = true) (hy : y.cls ≠ "java/lang/invoke/MethodHandle" ∧ y.cls ≠ "java/lang/invoke/VarHandle")
    (M : own_Met l Z y [] bytes maxL none rm as h Q') (eT : T.heap = h) {W : Nat} (hf : rm.frames + 1 ≤ R.frames) (hl : W + (maxL + 11) + rm.locals ≤ R.locals) (hc : cells + rm.cells ≤ R.cells) (hs : slots + rm.slots ≤ R.slots)
    {g : JFrame} (hg : g.method = m) (hsize : g.locals.size = c.maxLocals) {a : Addr} {argsL rest : List Value} (has : (.ref a :: argsL).toArray = as) (hlen : ∀ sig, parseMethodDescriptor y.desc = some sig → argsL.length = sig.parameters.length)
    (hstack : g.stack = argsL.reverse ++ .ref a :: rest) (hW : 2 * g.monitorRoom + (rest.map fun v => v.category).sum ≤ W) (hd : decode c.code g.pc = .ok (.invokespecial index, 3))
    (k : ∀ v T' L, Q' v T'.heap L → Stand p l e R s m args below meth c T' (locs ++ L) (cells + rm.cells) (slots + rm.slots) → own_Dn p e below s Q nc ns (T'.setTop { g with pc := g.pc + 3, stack := v.toList ++ rest })) :
    own_Dn p e below s Q nc ns (T.setTop g) := by
  obtain ⟨v, _, ⟨T', L', k', n'⟩, -, X', ⟨Lc, hQ, l1, y1, z1⟩, st⟩ := X.specialBack hx hy1 hown (mvT hZ w1) (mvT hZ w2) (mvT hZ w4) hy (backOf (W := W) M hZ w4 w3 hf hl) hg hsize (Steps.refl _) (a := a) (argsL := argsL) (rest := rest) hlen hstack hW hd (fun _ _ => ⟨has, eT, hc, hs⟩)
  dsimp only [Pt.U, Pt.locs, Pt.cells, Pt.slots] at X' l1 y1 z1 st hQ
  subst l1 y1 z1
  exact own_st (fun t q => st.trans q) (k v T' Lc hQ X')
theorem own_callV {Z : State} {a0 : Array Value} {h : Heap} {own C : String} {index : Nat} {y : MethodName} {bytes : ByteArray} {maxL : Nat} {ret : Option FieldType} {rm : Room} {as : Array Value} {Q' : Option Value → Heap → List Loc → Prop}
    (X : Stand p l e R s m args below meth c T locs cells slots) (hx : p.tables.exec = Jvm.exec) (hZ : Z.Warmed39 s.vm) (hown : s.vm.findClass own = some m.cls)
    (w1 : (Cond.methodLink own index y).before a0 Z = true) (w2 : (Cond.declares y).before a0 Z = true) (w5 : (Cond.selects C y y).before a0 Z = true) (w6 : (Cond.instanceMethod y).before a0 Z = true) (w3 : (Cond.initialized y.cls).before a0 Z = true) (w4 : (Cond.code y bytes maxL ret).before a0 Z = true) (hy : y.cls ≠ "java/lang/invoke/MethodHandle" ∧ y.cls ≠ "java/lang/invoke/VarHandle")
    (M : own_Met l Z y [] bytes maxL ret rm as h Q') (eT : T.heap = h) {b : Addr} (E : Exa Z h b C) {W : Nat} (hf : rm.frames + 1 ≤ R.frames) (hl : W + (maxL + 11) + rm.locals ≤ R.locals) (hc : cells + rm.cells ≤ R.cells) (hs : slots + rm.slots ≤ R.slots)
    {g : JFrame} (hg : g.method = m) (hsize : g.locals.size = c.maxLocals) {argsL rest : List Value} (has : (.ref b :: argsL).toArray = as) (hlen : ∀ sig, parseMethodDescriptor y.desc = some sig → argsL.length = sig.parameters.length)
    (hstack : g.stack = argsL.reverse ++ .ref b :: rest) (hW : 2 * g.monitorRoom + (rest.map fun v => v.category).sum ≤ W) (hd : decode c.code g.pc = .ok (.invokevirtual index, 3))
    (k : ∀ v T' L, Q' v T'.heap L → Stand p l e R s m args below meth c T' (locs ++ L) (cells + rm.cells) (slots + rm.slots) → own_Dn p e below s Q nc ns (T'.setTop { g with pc := g.pc + 3, stack := v.toList ++ rest })) :
    own_Dn p e below s Q nc ns (T.setTop g) := by
  obtain ⟨cq, kq, qa, qb, qc⟩ := isOf hZ eT E
  obtain ⟨v, _, ⟨T', L', k', n'⟩, -, X', ⟨Lc, hQ, l1, y1, z1⟩, st⟩ := X.virtualBack hx hown (mvT hZ w1) (mvT hZ w2) (notFace_of_selects (args := #[]) (mvT hZ w5)) (mvT hZ w5) (mvT hZ w6) hy (backOf (W := W) M hZ w4 w3 hf hl) qa qc hg hsize (Steps.refl _) (argsL := argsL) (rest := rest) hlen hstack hW hd (fun _ _ => ⟨has, eT, hc, hs⟩)
  dsimp only [Pt.U, Pt.locs, Pt.cells, Pt.slots] at X' l1 y1 z1 st hQ
  subst l1 y1 z1
  exact own_st (fun t q => st.trans q) (k v T' Lc hQ X')
theorem own_callF {Z : State} {a0 : Array Value} {h : Heap} {own C : String} {index count : Nat} {xi y : MethodName} {bytes : ByteArray} {maxL : Nat} {ret : Option FieldType} {rm : Room} {as : Array Value} {Q' : Option Value → Heap → List Loc → Prop}
    (X : Stand p l e R s m args below meth c T locs cells slots) (hx : p.tables.exec = Jvm.exec) (hZ : Z.Warmed39 s.vm) (hown : s.vm.findClass own = some m.cls)
    (w1 : (Cond.methodLink own index xi).before a0 Z = true) (w2 : (Cond.declares xi).before a0 Z = true) (wf : (Cond.interfaceMethod xi.cls xi.cls xi.name xi.desc).before a0 Z = true) (w5 : (Cond.selects C xi y).before a0 Z = true) (w6 : (Cond.instanceMethod y).before a0 Z = true)
    (wp : (Cond.publicMethod y).before a0 Z = true) (wu : (Cond.unhidden C xi.name xi.desc).before a0 Z = true) (wk : (Cond.castable C xi.cls).before a0 Z = true) (w3 : (Cond.initialized y.cls).before a0 Z = true) (w4 : (Cond.code y bytes maxL ret).before a0 Z = true) (hy : xi.cls ≠ "java/lang/invoke/MethodHandle" ∧ xi.cls ≠ "java/lang/invoke/VarHandle")
    (M : own_Met l Z y [] bytes maxL ret rm as h Q') (eT : T.heap = h) {b : Addr} (E : Exa Z h b C) {W : Nat} (hf : rm.frames + 1 ≤ R.frames) (hl : W + (maxL + 11) + rm.locals ≤ R.locals) (hc : cells + rm.cells ≤ R.cells) (hs : slots + rm.slots ≤ R.slots)
    {g : JFrame} (hg : g.method = m) (hsize : g.locals.size = c.maxLocals) {argsL rest : List Value} (has : (.ref b :: argsL).toArray = as) (hlen : ∀ sig, parseMethodDescriptor xi.desc = some sig → argsL.length = sig.parameters.length)
    (hstack : g.stack = argsL.reverse ++ .ref b :: rest) (hW : 2 * g.monitorRoom + (rest.map fun v => v.category).sum ≤ W) (hd : decode c.code g.pc = .ok (.invokeinterface index count, 5))
    (k : ∀ v T' L, Q' v T'.heap L → Stand p l e R s m args below meth c T' (locs ++ L) (cells + rm.cells) (slots + rm.slots) → own_Dn p e below s Q nc ns (T'.setTop { g with pc := g.pc + 5, stack := v.toList ++ rest })) :
    own_Dn p e below s Q nc ns (T.setTop g) := by
  obtain ⟨cq, kq, qa, qb, qc⟩ := isOf hZ eT E
  have hfc : ((Cond.interfaceMethod xi.cls xi.cls xi.name xi.desc).onTables && (Cond.interfaceMethod xi.cls xi.cls xi.name xi.desc).keepsFace) = true := by simp [Cond.onTables, Cond.keepsFace, Cond.keeps, Cond.steady, Cond.faceAtom, hy.1, hy.2]
  obtain ⟨v, _, ⟨T', L', k', n'⟩, -, X', ⟨Lc, hQ, l1, y1, z1⟩, st⟩ := X.interfaceBack hx hown (mvT hZ w1) (mvT hZ w2) (mvT hZ wf hfc) (mvT hZ w5) (mvT hZ w6) (mvT hZ wp) (mvT hZ wu) (mvT hZ wk) hy (backOf (W := W) M hZ w4 w3 hf hl) qa qb qc hg hsize (Steps.refl _) (argsL := argsL) (rest := rest) hlen hstack hW hd (fun _ _ => ⟨has, eT, hc, hs⟩)
  dsimp only [Pt.U, Pt.locs, Pt.cells, Pt.slots] at X' l1 y1 z1 st hQ
  subst l1 y1 z1
  exact own_st (fun t q => st.trans q) (k v T' Lc hQ X')
theorem own_lrem {tb : Tables} [Ours tb] {e : Env} {below : List Frame} {T target : State} {m : MethodId} {c : Code} {g : JFrame} (h : At T m c below) (hx : tb.exec = Jvm.exec) (hg : g.method = m) {x y : Int64} {rest : List Value} (hd : decode c.code g.pc = .ok (.lrem, 1)) (hs : g.stack = .long y :: .long x :: rest) (hy : y ≠ 0)
    (hr : Steps tb e below (T.setTop { g with pc := g.pc + 1, stack := .long (x % y) :: rest }) target) : Steps tb e below (T.setTop g) target :=
  Jvm.Free.XT.lrem h hx hg hd hs hy (by rw [lrem_mod]; exact hr)
theorem own_ltT {x y : Int32} (h : x < y) : x.toInt < y.toInt := Int32.lt_iff_toInt_lt.mp h
theorem own_ltF {x y : Int32} (h : ¬ x < y) : y.toInt ≤ x.toInt := by rw [Int32.lt_iff_toInt_lt] at h; omega
theorem own_eqT {x y : Int32} (h : x = y) : x.toInt = y.toInt := congrArg _ h
theorem own_eqF {x y : Int32} (h : ¬ x = y) : ¬ x.toInt = y.toInt := fun q => h (Int32.toInt_inj.mp q)
theorem own_lt {x y : Int32} (h : x.toInt < y.toInt) : x < y := Int32.lt_iff_toInt_lt.mpr h
theorem own_nlt {x y : Int32} (h : y.toInt ≤ x.toInt) : ¬ x < y := by rw [Int32.lt_iff_toInt_lt]; omega
theorem own_eq {x y : Int32} (h : x.toInt = y.toInt) : x = y := Int32.toInt_inj.mp h
theorem own_ne {x y : Int32} (h : ¬ x.toInt = y.toInt) : ¬ x = y := fun q => h (congrArg _ q)
theorem own_cat1 {v : Value} (h : v.isRef = true) : v.category = 1 := by cases v <;> simp_all [Value.isRef, Value.category]
theorem own_dupX2 {tb : Tables} [Ours tb] {e : Env} {below : List Frame} {T target : State} {m : MethodId} {c : Code} {g : JFrame} (h : At T m c below) (hx : tb.exec = Jvm.exec) (hg : g.method = m) {x y z : Value} {rest : List Value} (hd : decode c.code g.pc = .ok (.dup_x2, 1)) (hs : g.stack = x :: y :: z :: rest) (hc : x.category = 1) (hc' : y.category = 1) (hc'' : z.category = 1)
    (hr : Steps tb e below (T.setTop { g with pc := g.pc + 1, stack := x :: y :: z :: x :: rest }) target) : Steps tb e below (T.setTop g) target := by
  subst hg
  jvm_step h [h.top, hx, hd, hs, hc, hc', hc'']
  exact hr
end Own
section OwnArr
variable {p : Program} {l : Launch} {e : Env} {R : Room} {s : State} {m : MethodId} {args : Array Value} {below : List Frame} {meth : Method} {c : Code} {T : State} {locs : List Loc} {cells slots : Nat} {Q : Option Value → Heap → List Loc → Prop} {nc ns : Nat} {Z : State} {h h' : Heap} {a b : Addr} {xs : List Int32} {sl : Nat} {v : Value} {ws : List Addr} {ty : FieldType}
/-- in heap h an array of ints (or booleans) stands at a and holds xs -/
def own_IA (Z : State) (h : Heap) (a : Addr) (ty : FieldType) (xs : List Int32) : Prop := ∃ cl : Cell, Arr Z h a cl ty ∧ cl.slots.size = xs.length ∧ ∀ i, i < xs.length → cl.slots[i]? = some (.int (xs.getD i 0))
theorem own_IA.lt (F : own_IA Z h a ty xs) : a < h.size := by obtain ⟨_, A, -⟩ := F; exact A.lt
theorem own_IA.ext (F : own_IA Z h a ty xs) (E : Ext h h') : own_IA Z h' a ty xs := by obtain ⟨cl, A, r⟩ := F; exact ⟨cl, A.ext E, r⟩
theorem own_IA.other (F : own_IA Z h a ty xs) (W : Wr h h' b sl v) (q : a ≠ b) : own_IA Z h' a ty xs := by obtain ⟨cl, A, r⟩ := F; exact ⟨cl, A.other W q, r⟩
theorem own_IA.keep (F : own_IA Z h a ty xs) (K : Keep h h' ws) (q : a ∉ ws) : own_IA Z h' a ty xs := by obtain ⟨cl, A, r⟩ := F; exact ⟨cl, ⟨K.2.1 a cl A.1 q, A.2⟩, r⟩
theorem own_IA.set {j : Nat} {x : Int32} (F : own_IA Z h a ty xs) (W : Wr h h' a j (.int x)) : own_IA Z h' a ty (xs.set j x) := by
  obtain ⟨cl, A, S, H⟩ := F
  obtain ⟨cl', h1, h2, h3, h4, -, h6, h7⟩ := wr_at W A.1
  obtain ⟨e1, e2, -⟩ := h7 rfl
  refine ⟨cl.setSlot j (.int x), A.same W, by rw [sz_set, S, List.length_set], fun i hi => ?_⟩
  rw [List.length_set] at hi
  rw [← e1]
  by_cases q : i = j
  · subst q
    rw [e2, List.getD_eq_getElem?_getD, List.getElem?_set_self hi]; rfl
  · rw [h6 i q, H i hi, List.getD_eq_getElem?_getD, List.getD_eq_getElem?_getD, List.getElem?_set_ne (Ne.symm q)]
theorem own_IA.newI {k : ClassId} {n : Int32} (A : Arr Z h a (newA k .int n) .int) : own_IA Z h a .int (List.replicate n.toNatClampNeg 0) :=
  ⟨_, A, by rw [sz_new, List.length_replicate], fun i hi => by rw [List.length_replicate] at hi; simp [newA, hi, defaultValue]⟩
theorem own_IA.newZ {k : ClassId} {n : Int32} (A : Arr Z h a (newA k .boolean n) .boolean) : own_IA Z h a .boolean (List.replicate n.toNatClampNeg 0) :=
  ⟨_, A, by rw [sz_new, List.length_replicate], fun i hi => by rw [List.length_replicate] at hi; simp [newA, hi, defaultValue]⟩
theorem own_cl {j : Int32} (h0 : 0 ≤ j.toInt) : (j.toNatClampNeg : Int) = j.toInt := by rw [Int32.toNatClampNeg]; exact Int.toNat_of_nonneg h0
theorem own_inb {j : Int32} {cl : Cell} (S : cl.slots.size = xs.length) (h0 : 0 ≤ j.toInt) (h1 : j.toInt < xs.length) : ¬ (j < 0 ∨ cl.slots.size ≤ j.toNatClampNeg) := by
  have e1 := own_cl h0
  rintro (q | q)
  · have := own_ltT q
    have e0 : (0 : Int32).toInt = 0 := rfl
    omega
  · omega
theorem own_iaload (X : Stand p l e R s m args below meth c T locs cells slots) (hx : p.tables.exec = Jvm.exec) (hZ : Z.Warmed39 s.vm) (eT : T.heap = h) (F : own_IA Z h a .int xs) {j w : Int32} (h0 : 0 ≤ j.toInt) (h1 : j.toInt < xs.length) (hw : xs.getD j.toNatClampNeg 0 = w)
    {g : JFrame} (hg : g.method = m) {rest : List Value} (hs : g.stack = .int j :: .ref a :: rest) (hd : decode c.code g.pc = .ok (.iaload, 1)) (k : own_Dn p e below s Q nc ns (T.setTop { g with pc := g.pc + 1, stack := .int w :: rest })) : own_Dn p e below s Q nc ns (T.setTop g) := by
  obtain ⟨cl, A, S, H⟩ := F
  have e1 := own_cl h0
  subst hw
  exact own_st (fun t q => X.iaload hx (by rw [eT]; exact A.1) (State.isArrayOf_alike hZ.alike A.2.1) A.2.2 (own_inb S h0 h1) (H _ (by omega)) hg hs hd t q) k
theorem own_baloadZ (X : Stand p l e R s m args below meth c T locs cells slots) (hx : p.tables.exec = Jvm.exec) (hZ : Z.Warmed39 s.vm) (eT : T.heap = h) (F : own_IA Z h a .boolean xs) {j w : Int32} (h0 : 0 ≤ j.toInt) (h1 : j.toInt < xs.length) (hw : xs.getD j.toNatClampNeg 0 = w)
    {g : JFrame} (hg : g.method = m) {rest : List Value} (hs : g.stack = .int j :: .ref a :: rest) (hd : decode c.code g.pc = .ok (.baload, 1)) (k : own_Dn p e below s Q nc ns (T.setTop { g with pc := g.pc + 1, stack := .int w :: rest })) : own_Dn p e below s Q nc ns (T.setTop g) := by
  obtain ⟨cl, A, S, H⟩ := F
  have e1 := own_cl h0
  subst hw
  exact own_st (fun t q => X.baloadBooleans hx (by rw [eT]; exact A.1) (State.isArrayOf_alike hZ.alike A.2.1) A.2.2 (own_inb S h0 h1) (H _ (by omega)) hg hs hd t q) k
theorem own_len (X : Stand p l e R s m args below meth c T locs cells slots) (hx : p.tables.exec = Jvm.exec) (hZ : Z.Warmed39 s.vm) (eT : T.heap = h) (F : own_IA Z h a ty xs) {w : Int32} (hw : xs.length.toInt32 = w)
    {g : JFrame} (hg : g.method = m) {rest : List Value} (hs : g.stack = .ref a :: rest) (hd : decode c.code g.pc = .ok (.arraylength, 1)) (k : own_Dn p e below s Q nc ns (T.setTop { g with pc := g.pc + 1, stack := .int w :: rest })) : own_Dn p e below s Q nc ns (T.setTop g) := by
  obtain ⟨cl, A, S, H⟩ := F
  subst hw
  exact own_st (fun t q => X.arraylength hx (by rw [eT]; exact A.1) (State.isArrayOf_alike hZ.alike A.2.1) hg hs hd t (by rw [S]; exact q)) k
theorem own_iastore (X : Stand p l e R s m args below meth c T locs cells slots) (hx : p.tables.exec = Jvm.exec) (hZ : Z.Warmed39 s.vm) (eT : T.heap = h) (F : own_IA Z h a .int xs) {j x : Int32} (h0 : 0 ≤ j.toInt) (h1 : j.toInt < xs.length)
    {g : JFrame} (hg : g.method = m) {rest : List Value} (hs : g.stack = .int x :: .int j :: .ref a :: rest) (hd : decode c.code g.pc = .ok (.iastore, 1)) :
    ∃ T' h', Stand p l e R s m args below meth c T' (locs ++ [⟨a, j.toNatClampNeg⟩]) cells slots ∧ T'.heap = h' ∧ Wr h h' a j.toNatClampNeg (.int x) ∧ own_IA Z h' a .int (xs.set j.toNatClampNeg x) ∧ ∀ target, Steps p.tables e below (T'.setTop { g with pc := g.pc + 1, stack := rest }) target → Steps p.tables e below (T.setTop g) target := by
  obtain ⟨cl, A, S, H⟩ := F
  obtain ⟨T', h', X', e', W', st'⟩ := stI X hx hZ eT A (own_inb S h0 h1) hg hs hd
  exact ⟨T', h', X', e', W', own_IA.set ⟨cl, A, S, H⟩ W', st'⟩
theorem own_bastoreZ (X : Stand p l e R s m args below meth c T locs cells slots) (hx : p.tables.exec = Jvm.exec) (hZ : Z.Warmed39 s.vm) (eT : T.heap = h) (F : own_IA Z h a .boolean xs) {j x : Int32} (h0 : 0 ≤ j.toInt) (h1 : j.toInt < xs.length)
    {g : JFrame} (hg : g.method = m) {rest : List Value} (hs : g.stack = .int x :: .int j :: .ref a :: rest) (hd : decode c.code g.pc = .ok (.bastore, 1)) :
    ∃ T' h', Stand p l e R s m args below meth c T' (locs ++ [⟨a, j.toNatClampNeg⟩]) cells slots ∧ T'.heap = h' ∧ Wr h h' a j.toNatClampNeg (.int (nar .boolean x)) ∧ own_IA Z h' a .boolean (xs.set j.toNatClampNeg (nar .boolean x)) ∧ ∀ target, Steps p.tables e below (T'.setTop { g with pc := g.pc + 1, stack := rest }) target → Steps p.tables e below (T.setTop g) target := by
  obtain ⟨cl, A, S, H⟩ := F
  obtain ⟨T', h', X', e', W', st'⟩ := stZ X hx hZ eT A (own_inb S h0 h1) hg hs hd
  exact ⟨T', h', X', e', W', own_IA.set ⟨cl, A, S, H⟩ W', st'⟩
end OwnArr
def own_B (Z : State) (h : Heap) (n0 : Nat) (a r : Addr) (sz ct : Int32) : Prop := Exa Z h a "com/example/rehearsal/rehearsal/http/CodePointClass$Builder" ∧ Fld Z h a "com/example/rehearsal/rehearsal/http/CodePointClass$Builder" "ranges" "[I" (.ref r) ∧ Fld Z h a "com/example/rehearsal/rehearsal/http/CodePointClass$Builder" "size" "I" (.int sz) ∧ Fld Z h a "com/example/rehearsal/rehearsal/http/CodePointClass$Builder" "categories" "I" (.int ct) ∧ (∃ xs : List Int32, xs.length = 8 ∧ own_IA Z h r .int xs) ∧ n0 ≤ a ∧ n0 ≤ r ∧ a ≠ r
def own_em (sz ct : Int32) : Int32 := if sz = (0 : Int32) then (if ct = (0 : Int32) then 1 else 0) else 0
theorem pn_0 : plainName "com/example/rehearsal/rehearsal/http/CodePointClass$Builder" = true := by first | (simp [plainName, overriddenIn]; done) | decide +kernel
theorem ef_rmI (m : MethodId) (x0 : Addr) : entryFrame m #[(.ref x0)] 1 = mkF m 0 #[.val (.ref x0)] [] := by first | (simp [entryFrame, mkF, argsToLocals, Value.category]; done) | rfl
theorem d_rmI_0 : decode prog_14_method_1_code 0 = .ok (.aload_n 0, 1) := by decide +kernel
theorem d_rmI_1 : decode prog_14_method_1_code 1 = .ok (.invokespecial 1, 3) := by decide +kernel
theorem d_rmI_4 : decode prog_14_method_1_code 4 = .ok (.aload_n 0, 1) := by decide +kernel
theorem d_rmI_5 : decode prog_14_method_1_code 5 = .ok (.bipush 8, 2) := by decide +kernel
theorem d_rmI_7 : decode prog_14_method_1_code 7 = .ok (.newarray .int, 2) := by decide +kernel
theorem d_rmI_9 : decode prog_14_method_1_code 9 = .ok (.putfield 7, 3) := by decide +kernel
theorem d_rmI_12 : decode prog_14_method_1_code 12 = .ok (.return_, 1) := by decide +kernel
set_option maxRecDepth 65536 in
set_option maxHeartbeats 40000000 in
theorem rmI (l : Launch) (Z : State) (a0 : Array Value) (hw : ∀ d ∈ tables_1, d.before a0 Z = true) (ws : List Jvm.Cond) (a : Addr) (h0 : Heap) (n0 : Nat) (Z0 : n0 ≤ h0.size) (E1 : Exa Z h0 a "com/example/rehearsal/rehearsal/http/CodePointClass$Builder") (g1 : n0 ≤ a) (F1 : Fld Z h0 a "com/example/rehearsal/rehearsal/http/CodePointClass$Builder" "ranges" "[I" .null) (F2 : Fld Z h0 a "com/example/rehearsal/rehearsal/http/CodePointClass$Builder" "size" "I" (.int (0 : Int32))) (F3 : Fld Z h0 a "com/example/rehearsal/rehearsal/http/CodePointClass$Builder" "categories" "I" (.int (0 : Int32))) :
    own_Met l Z (⟨"com/example/rehearsal/rehearsal/http/CodePointClass$Builder", "<init>", "()V"⟩ : MethodName) ws prog_14_method_1_code 1 none ({ frames := 1, cells := 1, slots := 8, locals := 12 } : Room) #[(.ref a)] h0 (fun v h L => v = none ∧ Fr n0 L ∧ Keep h0 h [a] ∧ ∃ r, own_B Z h n0 a r 0 0) := by
  refine own_body (y := (⟨"com/example/rehearsal/rehearsal/http/CodePointClass$Builder", "<init>", "()V"⟩ : MethodName)) (plainFor_of_name pn_0) ?_
  intro p e s m below meth c s₁ hx hby hml hown hnm hret hlk hZ X0 e0
  have hml : c.maxLocals = 1 := hml
  have hown : s.vm.findClass "com/example/rehearsal/rehearsal/http/CodePointClass$Builder" = some m.cls := hown
  have N0 := Fr.nil n0
  refine own_entry (ef_rmI m a) ?_
  show own_Dn p e below s (fun v h L => v = none ∧ Fr n0 L ∧ Keep h0 h [a] ∧ ∃ r, own_B Z h n0 a r 0 0) ({ frames := 1, cells := 1, slots := 8, locals := 12 } : Room).cells ({ frames := 1, cells := 1, slots := 8, locals := 12 } : Room).slots (s₁.setTop (mkF m 0 #[.val (.ref a)] []))
  refine own_st (q' := s₁.setTop (mkF m 1 #[.val (.ref a)] [(.ref a)])) (fun _ k => XS.aloadN X0.here hx rfl (hb hby d_rmI_0) rfl rfl k) ?_
  obtain ⟨T101, X101, e101, st101⟩ := initO X0 hx hZ hown (hw _ (List.mem_of_getElem? (i := 6) rfl)) (hw _ (List.mem_of_getElem? (i := 7) rfl)) (hw _ (List.mem_of_getElem? (i := 8) rfl)) e0 (g := (mkF m 1 #[.val (.ref a)] [(.ref a)])) rfl (by rw [hml]; rfl) rfl (hb hby d_rmI_1) (by decide) (W := 0) (by show 2 * 0 + _ ≤ _; exact Nat.le_of_eq rfl) (by decide)
  refine own_st (q' := T101.setTop (mkF m 4 #[.val (.ref a)] [])) st101 ?_
  refine own_st (q' := T101.setTop (mkF m 5 #[.val (.ref a)] [(.ref a)])) (fun _ k => XS.aloadN X101.here hx rfl (hb hby d_rmI_4) rfl rfl k) ?_
  refine own_st (q' := T101.setTop (mkF m 7 #[.val (.ref a)] [(.int (8 : Int32)), (.ref a)])) (fun _ k => XS.bipush X101.here hx rfl (hb hby d_rmI_5) k) ?_
  obtain ⟨T102, h102, k102, X102, e102, E102, A102, st102⟩ := newP X101 hx hZ (hw _ (List.mem_of_getElem? (i := 9) rfl)) e101 (g := (mkF m 7 #[.val (.ref a)] [(.int (8 : Int32)), (.ref a)])) rfl (hb hby d_rmI_7) rfl (by decide) (cap := 8) (by decide) (by decide) (by decide) (by decide)
  obtain ⟨b102, g102⟩ : ∃ z, z = h0.size := ⟨_, rfl⟩
  rw [← g102] at A102 st102
  have ne_a_b102 : a ≠ b102 := Nat.ne_of_lt (Nat.lt_of_lt_of_le E1.lt (Nat.le_of_eq g102.symm))
  have ge_b102 : n0 ≤ b102 := Nat.le_trans Z0 (Nat.le_of_eq g102.symm)
  have sz_b102 : h0.size ≤ b102 := Nat.le_trans (Keep.refl h0 [a]).1 (Nat.le_of_eq g102.symm)
  have K103 : Keep h0 h102 [a] := ((Keep.refl h0 [a]).ext E102)
  have V102 : own_IA Z h102 b102 .int ([0, 0, 0, 0, 0, 0, 0, 0] : List Int32) := own_IA.newI A102
  refine own_st (q' := T102.setTop (mkF m 9 #[.val (.ref a)] [(.ref b102), (.ref a)])) st102 ?_
  have f104 := (F1.ext E102)
  have f105 := (E1.ext E102)
  obtain ⟨T106, h106, X106, e106, W106, st106⟩ := putF X102 hx hZ hown (host := "") (Or.inl (hw _ (List.mem_of_getElem? (i := 10) rfl))) Via.refl e102 f104 f105 (Or.inl (hw _ (List.mem_of_getElem? (i := 11) rfl))) (hw _ (List.mem_of_getElem? (i := 1) rfl)) (ty := (.array .int)) (by decide) rfl rfl (g := (mkF m 9 #[.val (.ref a)] [(.ref b102), (.ref a)])) rfl rfl (hb hby d_rmI_9)
  have N106 := Fr.snoc X106 N0 g1
  have K107 : Keep h0 h106 [a] := (K103.wr W106 (Or.inl (List.mem_of_getElem? (i := 0) rfl)))
  have F106 := f104.same W106
  refine own_st (q' := T106.setTop (mkF m 12 #[.val (.ref a)] [])) st106 ?_
  have f108 := (f105.wr W106)
  have f109 := ((F2.ext E102).other W106 (Or.inr (slot_ne (Or.inl (hw _ (List.mem_of_getElem? (i := 18) rfl))) (Or.inl (hw _ (List.mem_of_getElem? (i := 11) rfl))) (by decide) (t := .int) (t' := (.array .int)) (by decide) (by decide))))
  have f110 := ((F3.ext E102).other W106 (Or.inr (slot_ne (Or.inl (hw _ (List.mem_of_getElem? (i := 20) rfl))) (Or.inl (hw _ (List.mem_of_getElem? (i := 11) rfl))) (by decide) (t := .int) (t' := (.array .int)) (by decide) (by decide))))
  have f111 := (V102.other W106 (Ne.symm ne_a_b102))
  exact own_retV X106 hx hlk hret (hb hby d_rmI_12) e106 (by exact ⟨rfl, N106, K107, b102, ⟨f108, F106, f109, f110, ⟨_, rfl, f111⟩, g1, ge_b102, ne_a_b102⟩⟩) (by decide) (by decide)
theorem ef_rmE (m : MethodId) (x0 : Addr) : entryFrame m #[(.ref x0)] 1 = mkF m 0 #[.val (.ref x0)] [] := by first | (simp [entryFrame, mkF, argsToLocals, Value.category]; done) | rfl
theorem d_rmE_0 : decode prog_14_method_4_code 0 = .ok (.aload_n 0, 1) := by decide +kernel
theorem d_rmE_1 : decode prog_14_method_4_code 1 = .ok (.getfield 13, 3) := by decide +kernel
theorem d_rmE_4 : decode prog_14_method_4_code 4 = .ok (.ifCond .ne 14, 3) := by decide +kernel
theorem d_rmE_7 : decode prog_14_method_4_code 7 = .ok (.aload_n 0, 1) := by decide +kernel
theorem d_rmE_8 : decode prog_14_method_4_code 8 = .ok (.getfield 23, 3) := by decide +kernel
theorem d_rmE_11 : decode prog_14_method_4_code 11 = .ok (.ifCond .ne 7, 3) := by decide +kernel
theorem d_rmE_14 : decode prog_14_method_4_code 14 = .ok (.iconst 1, 1) := by decide +kernel
theorem d_rmE_15 : decode prog_14_method_4_code 15 = .ok (.goto 4, 3) := by decide +kernel
theorem d_rmE_18 : decode prog_14_method_4_code 18 = .ok (.iconst 0, 1) := by decide +kernel
theorem d_rmE_19 : decode prog_14_method_4_code 19 = .ok (.ireturn, 1) := by decide +kernel
set_option maxRecDepth 65536 in
set_option maxHeartbeats 40000000 in
theorem rmE (l : Launch) (Z : State) (a0 : Array Value) (hw : ∀ d ∈ tables_1, d.before a0 Z = true) (ws : List Jvm.Cond) (a r : Addr) (sz ct : Int32) (h0 : Heap) (n0 : Nat) (Z0 : n0 ≤ h0.size) (hB : own_B Z h0 n0 a r sz ct) :
    own_Met l Z (⟨"com/example/rehearsal/rehearsal/http/CodePointClass$Builder", "isEmpty", "()Z"⟩ : MethodName) ws prog_14_method_4_code 1 (some .boolean) ({ frames := 0, cells := 0, slots := 0, locals := 0 } : Room) #[(.ref a)] h0 (fun v h L => v = some (.int (own_em sz ct)) ∧ Fr n0 L ∧ h = h0) := by
  refine own_body (y := (⟨"com/example/rehearsal/rehearsal/http/CodePointClass$Builder", "isEmpty", "()Z"⟩ : MethodName)) (plainFor_of_name pn_0) ?_
  intro p e s m below meth c s₁ hx hby hml hown hnm hret hlk hZ X0 e0
  have hml : c.maxLocals = 1 := hml
  have hown : s.vm.findClass "com/example/rehearsal/rehearsal/http/CodePointClass$Builder" = some m.cls := hown
  have N0 := Fr.nil n0
  refine own_entry (ef_rmE m a) ?_
  show own_Dn p e below s (fun v h L => v = some (.int (own_em sz ct)) ∧ Fr n0 L ∧ h = h0) ({ frames := 0, cells := 0, slots := 0, locals := 0 } : Room).cells ({ frames := 0, cells := 0, slots := 0, locals := 0 } : Room).slots (s₁.setTop (mkF m 0 #[.val (.ref a)] []))
  obtain ⟨o101E, o101R, o101S, o101C, ⟨o101x, o101l, o101V⟩, o101ga, o101gr, o101ne⟩ := hB
  show own_Dn p e below s (fun v h L => v = some (.int (own_em sz ct)) ∧ Fr n0 L ∧ h = h0) ({ frames := 0, cells := 0, slots := 0, locals := 0 } : Room).cells ({ frames := 0, cells := 0, slots := 0, locals := 0 } : Room).slots (s₁.setTop (mkF m 0 #[.val (.ref a)] []))
  refine own_st (q' := s₁.setTop (mkF m 1 #[.val (.ref a)] [(.ref a)])) (fun _ k => XS.aloadN X0.here hx rfl (hb hby d_rmE_0) rfl rfl k) ?_
  obtain ⟨T102, X102, e102, st102⟩ := getF X0 hx hZ hown (host := "") (Or.inl (hw _ (List.mem_of_getElem? (i := 17) rfl))) Via.refl e0 o101S (g := (mkF m 1 #[.val (.ref a)] [(.ref a)])) rfl rfl (hb hby d_rmE_1)
  refine own_st (q' := T102.setTop (mkF m 4 #[.val (.ref a)] [(.int sz)])) st102 ?_
  by_cases hc4_103 : sz = (0 : Int32)
  · skip
    have hc4_103I : (sz).toInt = (0 : Int) := own_eqT hc4_103
    refine own_st (q' := T102.setTop (mkF m 7 #[.val (.ref a)] [])) (fun _ k => XS.ifNo X102.here hx rfl (hb hby d_rmE_4) rfl ((if0 _ _).trans (teq hc4_103).2) k) ?_
    refine own_st (q' := T102.setTop (mkF m 8 #[.val (.ref a)] [(.ref a)])) (fun _ k => XS.aloadN X102.here hx rfl (hb hby d_rmE_7) rfl rfl k) ?_
    obtain ⟨T104, X104, e104, st104⟩ := getF X102 hx hZ hown (host := "") (Or.inl (hw _ (List.mem_of_getElem? (i := 19) rfl))) Via.refl e102 o101C (g := (mkF m 8 #[.val (.ref a)] [(.ref a)])) rfl rfl (hb hby d_rmE_8)
    refine own_st (q' := T104.setTop (mkF m 11 #[.val (.ref a)] [(.int ct)])) st104 ?_
    by_cases hc11_105 : ct = (0 : Int32)
    · skip
      have hc11_105I : (ct).toInt = (0 : Int) := own_eqT hc11_105
      refine own_st (q' := T104.setTop (mkF m 14 #[.val (.ref a)] [])) (fun _ k => XS.ifNo X104.here hx rfl (hb hby d_rmE_11) rfl ((if0 _ _).trans (teq hc11_105).2) k) ?_
      refine own_st (q' := T104.setTop (mkF m 15 #[.val (.ref a)] [(.int (1 : Int32))])) (fun _ k => XS.iconst X104.here hx rfl (hb hby d_rmE_14) k) ?_
      refine own_st (q' := T104.setTop (mkF m 19 #[.val (.ref a)] [(.int (1 : Int32))])) (fun _ k => XS.goto X104.here hx rfl (pc0 := 15) (pc' := 19) rfl (hb hby d_rmE_15) (by decide) (by decide) k) ?_
      exact own_retN X104 hx hlk (t := .boolean) hret (by simp) (hb hby d_rmE_19) e104 (by exact ⟨(by unfold own_em; rw [if_pos hc4_103, if_pos hc11_105]; rfl), N0, rfl⟩) (by decide) (by decide)
    · skip
      have hc11_105I : ¬ (ct).toInt = (0 : Int) := own_eqF hc11_105
      refine own_st (q' := T104.setTop (mkF m 18 #[.val (.ref a)] [])) (fun _ k => XS.ifYes X104.here hx rfl (pc0 := 11) (pc' := 18) rfl (hb hby d_rmE_11) rfl ((if0 _ _).trans (feq hc11_105).2) (by decide) (by decide) k) ?_
      refine own_st (q' := T104.setTop (mkF m 19 #[.val (.ref a)] [(.int (0 : Int32))])) (fun _ k => XS.iconst X104.here hx rfl (hb hby d_rmE_18) k) ?_
      exact own_retN X104 hx hlk (t := .boolean) hret (by simp) (hb hby d_rmE_19) e104 (by exact ⟨(by unfold own_em; rw [if_pos hc4_103, if_neg hc11_105]; rfl), N0, rfl⟩) (by decide) (by decide)
  · skip
    have hc4_103I : ¬ (sz).toInt = (0 : Int) := own_eqF hc4_103
    refine own_st (q' := T102.setTop (mkF m 18 #[.val (.ref a)] [])) (fun _ k => XS.ifYes X102.here hx rfl (pc0 := 4) (pc' := 18) rfl (hb hby d_rmE_4) rfl ((if0 _ _).trans (feq hc4_103).2) (by decide) (by decide) k) ?_
    refine own_st (q' := T102.setTop (mkF m 19 #[.val (.ref a)] [(.int (0 : Int32))])) (fun _ k => XS.iconst X102.here hx rfl (hb hby d_rmE_18) k) ?_
    exact own_retN X102 hx hlk (t := .boolean) hret (by simp) (hb hby d_rmE_19) e102 (by exact ⟨(by unfold own_em; rw [if_neg hc4_103]; rfl), N0, rfl⟩) (by decide) (by decide)
theorem ef_rmC (m : MethodId) (x0 : Addr) (x1 : Int32) : entryFrame m #[(.ref x0), (.int x1)] 2 = mkF m 0 #[.val (.ref x0), .val (.int x1)] [] := by first | (simp [entryFrame, mkF, argsToLocals, Value.category]; done) | rfl
theorem d_rmC_0 : decode prog_14_method_3_code 0 = .ok (.aload_n 0, 1) := by decide +kernel
theorem d_rmC_1 : decode prog_14_method_3_code 1 = .ok (.dup, 1) := by decide +kernel
theorem d_rmC_2 : decode prog_14_method_3_code 2 = .ok (.getfield 23, 3) := by decide +kernel
theorem d_rmC_5 : decode prog_14_method_3_code 5 = .ok (.iload_n 1, 1) := by decide +kernel
theorem d_rmC_6 : decode prog_14_method_3_code 6 = .ok (.ior, 1) := by decide +kernel
theorem d_rmC_7 : decode prog_14_method_3_code 7 = .ok (.putfield 23, 3) := by decide +kernel
theorem d_rmC_10 : decode prog_14_method_3_code 10 = .ok (.return_, 1) := by decide +kernel
set_option maxRecDepth 65536 in
set_option maxHeartbeats 40000000 in
theorem rmC (l : Launch) (Z : State) (a0 : Array Value) (hw : ∀ d ∈ tables_1, d.before a0 Z = true) (ws : List Jvm.Cond) (a r : Addr) (sz ct p1 : Int32) (h0 : Heap) (n0 : Nat) (Z0 : n0 ≤ h0.size) (hB : own_B Z h0 n0 a r sz ct) :
    own_Met l Z (⟨"com/example/rehearsal/rehearsal/http/CodePointClass$Builder", "addCategories", "(I)V"⟩ : MethodName) ws prog_14_method_3_code 2 none ({ frames := 0, cells := 0, slots := 0, locals := 0 } : Room) #[(.ref a), (.int p1)] h0 (fun v h L => v = none ∧ Fr n0 L ∧ Keep h0 h [a, r] ∧ own_B Z h n0 a r sz (ct ||| p1)) := by
  refine own_body (y := (⟨"com/example/rehearsal/rehearsal/http/CodePointClass$Builder", "addCategories", "(I)V"⟩ : MethodName)) (plainFor_of_name pn_0) ?_
  intro p e s m below meth c s₁ hx hby hml hown hnm hret hlk hZ X0 e0
  have hml : c.maxLocals = 2 := hml
  have hown : s.vm.findClass "com/example/rehearsal/rehearsal/http/CodePointClass$Builder" = some m.cls := hown
  have N0 := Fr.nil n0
  refine own_entry (ef_rmC m a p1) ?_
  show own_Dn p e below s (fun v h L => v = none ∧ Fr n0 L ∧ Keep h0 h [a, r] ∧ own_B Z h n0 a r sz (ct ||| p1)) ({ frames := 0, cells := 0, slots := 0, locals := 0 } : Room).cells ({ frames := 0, cells := 0, slots := 0, locals := 0 } : Room).slots (s₁.setTop (mkF m 0 #[.val (.ref a), .val (.int p1)] []))
  obtain ⟨o101E, o101R, o101S, o101C, ⟨o101x, o101l, o101V⟩, o101ga, o101gr, o101ne⟩ := hB
  show own_Dn p e below s (fun v h L => v = none ∧ Fr n0 L ∧ Keep h0 h [a, r] ∧ own_B Z h n0 a r sz (ct ||| p1)) ({ frames := 0, cells := 0, slots := 0, locals := 0 } : Room).cells ({ frames := 0, cells := 0, slots := 0, locals := 0 } : Room).slots (s₁.setTop (mkF m 0 #[.val (.ref a), .val (.int p1)] []))
  refine own_st (q' := s₁.setTop (mkF m 1 #[.val (.ref a), .val (.int p1)] [(.ref a)])) (fun _ k => XS.aloadN X0.here hx rfl (hb hby d_rmC_0) rfl rfl k) ?_
  refine own_st (q' := s₁.setTop (mkF m 2 #[.val (.ref a), .val (.int p1)] [(.ref a), (.ref a)])) (fun _ k => XS.dup X0.here hx rfl (hb hby d_rmC_1) rfl rfl k) ?_
  obtain ⟨T102, X102, e102, st102⟩ := getF X0 hx hZ hown (host := "") (Or.inl (hw _ (List.mem_of_getElem? (i := 19) rfl))) Via.refl e0 o101C (g := (mkF m 2 #[.val (.ref a), .val (.int p1)] [(.ref a), (.ref a)])) rfl rfl (hb hby d_rmC_2)
  refine own_st (q' := T102.setTop (mkF m 5 #[.val (.ref a), .val (.int p1)] [(.int ct), (.ref a)])) st102 ?_
  refine own_st (q' := T102.setTop (mkF m 6 #[.val (.ref a), .val (.int p1)] [(.int p1), (.int ct), (.ref a)])) (fun _ k => XS.iloadN X102.here hx rfl (hb hby d_rmC_5) rfl k) ?_
  refine own_st (q' := T102.setTop (mkF m 7 #[.val (.ref a), .val (.int p1)] [(.int (ct ||| p1)), (.ref a)])) (fun _ k => XS.ior X102.here hx rfl (hb hby d_rmC_6) rfl k) ?_
  obtain ⟨T103, h103, X103, e103, W103, st103⟩ := putF X102 hx hZ hown (host := "") (Or.inl (hw _ (List.mem_of_getElem? (i := 19) rfl))) Via.refl e102 o101C o101E (Or.inl (hw _ (List.mem_of_getElem? (i := 20) rfl))) (hw _ (List.mem_of_getElem? (i := 1) rfl)) (ty := .int) (by decide) rfl rfl (g := (mkF m 7 #[.val (.ref a), .val (.int p1)] [(.int (ct ||| p1)), (.ref a)])) rfl rfl (hb hby d_rmC_7)
  have N103 := Fr.snoc X103 N0 o101ga
  have K104 : Keep h0 h103 [a, r] := ((Keep.refl h0 [a, r]).wr W103 (Or.inl (List.mem_of_getElem? (i := 0) rfl)))
  have F103 := o101C.same W103
  refine own_st (q' := T103.setTop (mkF m 10 #[.val (.ref a), .val (.int p1)] [])) st103 ?_
  have f105 := (o101E.wr W103)
  have f106 := (o101R.other W103 (Or.inr (slot_ne (Or.inl (hw _ (List.mem_of_getElem? (i := 11) rfl))) (Or.inl (hw _ (List.mem_of_getElem? (i := 20) rfl))) (by decide) (t := (.array .int)) (t' := .int) (by decide) (by decide))))
  have f107 := (o101S.other W103 (Or.inr (slot_ne (Or.inl (hw _ (List.mem_of_getElem? (i := 18) rfl))) (Or.inl (hw _ (List.mem_of_getElem? (i := 20) rfl))) (by decide) (t := .int) (t' := .int) (by decide) (by decide))))
  have f108 := (o101V.other W103 (Ne.symm o101ne))
  exact own_retV X103 hx hlk hret (hb hby d_rmC_10) e103 (by exact ⟨rfl, N103, K104, ⟨f105, f106, f107, F103, ⟨_, o101l, f108⟩, o101ga, o101gr, o101ne⟩⟩) (by decide) (by decide)
theorem ef_rmR (m : MethodId) (x0 : Addr) (x1 : Int32) (x2 : Int32) : entryFrame m #[(.ref x0), (.int x1), (.int x2)] 3 = mkF m 0 #[.val (.ref x0), .val (.int x1), .val (.int x2)] [] := by first | (simp [entryFrame, mkF, argsToLocals, Value.category]; done) | rfl
theorem d_rmR_0 : decode prog_14_method_2_code 0 = .ok (.aload_n 0, 1) := by decide +kernel
theorem d_rmR_1 : decode prog_14_method_2_code 1 = .ok (.getfield 13, 3) := by decide +kernel
theorem d_rmR_4 : decode prog_14_method_2_code 4 = .ok (.aload_n 0, 1) := by decide +kernel
theorem d_rmR_5 : decode prog_14_method_2_code 5 = .ok (.getfield 7, 3) := by decide +kernel
theorem d_rmR_8 : decode prog_14_method_2_code 8 = .ok (.arraylength, 1) := by decide +kernel
theorem d_rmR_9 : decode prog_14_method_2_code 9 = .ok (.if_icmp .ne 20, 3) := by decide +kernel
theorem d_rmR_29 : decode prog_14_method_2_code 29 = .ok (.aload_n 0, 1) := by decide +kernel
theorem d_rmR_30 : decode prog_14_method_2_code 30 = .ok (.getfield 7, 3) := by decide +kernel
theorem d_rmR_33 : decode prog_14_method_2_code 33 = .ok (.aload_n 0, 1) := by decide +kernel
theorem d_rmR_34 : decode prog_14_method_2_code 34 = .ok (.dup, 1) := by decide +kernel
theorem d_rmR_35 : decode prog_14_method_2_code 35 = .ok (.getfield 13, 3) := by decide +kernel
theorem d_rmR_38 : decode prog_14_method_2_code 38 = .ok (.dup_x1, 1) := by decide +kernel
theorem d_rmR_39 : decode prog_14_method_2_code 39 = .ok (.iconst 1, 1) := by decide +kernel
theorem d_rmR_40 : decode prog_14_method_2_code 40 = .ok (.iadd, 1) := by decide +kernel
theorem d_rmR_41 : decode prog_14_method_2_code 41 = .ok (.putfield 13, 3) := by decide +kernel
theorem d_rmR_44 : decode prog_14_method_2_code 44 = .ok (.iload_n 1, 1) := by decide +kernel
theorem d_rmR_45 : decode prog_14_method_2_code 45 = .ok (.iastore, 1) := by decide +kernel
theorem d_rmR_46 : decode prog_14_method_2_code 46 = .ok (.aload_n 0, 1) := by decide +kernel
theorem d_rmR_47 : decode prog_14_method_2_code 47 = .ok (.getfield 7, 3) := by decide +kernel
theorem d_rmR_50 : decode prog_14_method_2_code 50 = .ok (.aload_n 0, 1) := by decide +kernel
theorem d_rmR_51 : decode prog_14_method_2_code 51 = .ok (.dup, 1) := by decide +kernel
theorem d_rmR_52 : decode prog_14_method_2_code 52 = .ok (.getfield 13, 3) := by decide +kernel
theorem d_rmR_55 : decode prog_14_method_2_code 55 = .ok (.dup_x1, 1) := by decide +kernel
theorem d_rmR_56 : decode prog_14_method_2_code 56 = .ok (.iconst 1, 1) := by decide +kernel
theorem d_rmR_57 : decode prog_14_method_2_code 57 = .ok (.iadd, 1) := by decide +kernel
theorem d_rmR_58 : decode prog_14_method_2_code 58 = .ok (.putfield 13, 3) := by decide +kernel
theorem d_rmR_61 : decode prog_14_method_2_code 61 = .ok (.iload_n 2, 1) := by decide +kernel
theorem d_rmR_62 : decode prog_14_method_2_code 62 = .ok (.iastore, 1) := by decide +kernel
theorem d_rmR_63 : decode prog_14_method_2_code 63 = .ok (.return_, 1) := by decide +kernel
set_option maxRecDepth 65536 in
set_option maxHeartbeats 40000000 in
theorem rmR (l : Launch) (Z : State) (a0 : Array Value) (hw : ∀ d ∈ tables_1, d.before a0 Z = true) (ws : List Jvm.Cond) (a r : Addr) (sz ct p1 p2 : Int32) (h0 : Heap) (n0 : Nat) (Z0 : n0 ≤ h0.size) (hB : own_B Z h0 n0 a r sz ct) (hs0 : 0 ≤ sz.toInt) (hs6 : sz.toInt ≤ 6) :
    own_Met l Z (⟨"com/example/rehearsal/rehearsal/http/CodePointClass$Builder", "addRange", "(II)V"⟩ : MethodName) ws prog_14_method_2_code 3 none ({ frames := 0, cells := 0, slots := 0, locals := 0 } : Room) #[(.ref a), (.int p1), (.int p2)] h0 (fun v h L => v = none ∧ Fr n0 L ∧ Keep h0 h [a, r] ∧ own_B Z h n0 a r (sz + (1 : Int32) + (1 : Int32)) ct) := by
  refine own_body (y := (⟨"com/example/rehearsal/rehearsal/http/CodePointClass$Builder", "addRange", "(II)V"⟩ : MethodName)) (plainFor_of_name pn_0) ?_
  intro p e s m below meth c s₁ hx hby hml hown hnm hret hlk hZ X0 e0
  have hml : c.maxLocals = 3 := hml
  have hown : s.vm.findClass "com/example/rehearsal/rehearsal/http/CodePointClass$Builder" = some m.cls := hown
  have N0 := Fr.nil n0
  refine own_entry (ef_rmR m a p1 p2) ?_
  show own_Dn p e below s (fun v h L => v = none ∧ Fr n0 L ∧ Keep h0 h [a, r] ∧ own_B Z h n0 a r (sz + (1 : Int32) + (1 : Int32)) ct) ({ frames := 0, cells := 0, slots := 0, locals := 0 } : Room).cells ({ frames := 0, cells := 0, slots := 0, locals := 0 } : Room).slots (s₁.setTop (mkF m 0 #[.val (.ref a), .val (.int p1), .val (.int p2)] []))
  obtain ⟨o101E, o101R, o101S, o101C, ⟨o101x, o101l, o101V⟩, o101ga, o101gr, o101ne⟩ := hB
  have l1 : (1 : Int32).toInt = 1 := rfl
  have l8 : (8 : Int32).toInt = 8 := rfl
  have hs1 : (sz + (1 : Int32)).toInt = sz.toInt + 1 := by have := c_iadd sz 1; have := rng32 (sz + 1); rw [l1] at *; omega
  show own_Dn p e below s (fun v h L => v = none ∧ Fr n0 L ∧ Keep h0 h [a, r] ∧ own_B Z h n0 a r (sz + (1 : Int32) + (1 : Int32)) ct) ({ frames := 0, cells := 0, slots := 0, locals := 0 } : Room).cells ({ frames := 0, cells := 0, slots := 0, locals := 0 } : Room).slots (s₁.setTop (mkF m 0 #[.val (.ref a), .val (.int p1), .val (.int p2)] []))
  refine own_st (q' := s₁.setTop (mkF m 1 #[.val (.ref a), .val (.int p1), .val (.int p2)] [(.ref a)])) (fun _ k => XS.aloadN X0.here hx rfl (hb hby d_rmR_0) rfl rfl k) ?_
  obtain ⟨T102, X102, e102, st102⟩ := getF X0 hx hZ hown (host := "") (Or.inl (hw _ (List.mem_of_getElem? (i := 17) rfl))) Via.refl e0 o101S (g := (mkF m 1 #[.val (.ref a), .val (.int p1), .val (.int p2)] [(.ref a)])) rfl rfl (hb hby d_rmR_1)
  refine own_st (q' := T102.setTop (mkF m 4 #[.val (.ref a), .val (.int p1), .val (.int p2)] [(.int sz)])) st102 ?_
  refine own_st (q' := T102.setTop (mkF m 5 #[.val (.ref a), .val (.int p1), .val (.int p2)] [(.ref a), (.int sz)])) (fun _ k => XS.aloadN X102.here hx rfl (hb hby d_rmR_4) rfl rfl k) ?_
  obtain ⟨T103, X103, e103, st103⟩ := getF X102 hx hZ hown (host := "") (Or.inl (hw _ (List.mem_of_getElem? (i := 10) rfl))) Via.refl e102 o101R (g := (mkF m 5 #[.val (.ref a), .val (.int p1), .val (.int p2)] [(.ref a), (.int sz)])) rfl rfl (hb hby d_rmR_5)
  refine own_st (q' := T103.setTop (mkF m 8 #[.val (.ref a), .val (.int p1), .val (.int p2)] [(.ref r), (.int sz)])) st103 ?_
  refine own_len X103 hx hZ e103 o101V (w := (8 : Int32)) (by rw [o101l]; rfl) (g := (mkF m 8 #[.val (.ref a), .val (.int p1), .val (.int p2)] [(.ref r), (.int sz)])) rfl rfl (hb hby d_rmR_8) ?_
  show own_Dn p e below s (fun v h L => v = none ∧ Fr n0 L ∧ Keep h0 h [a, r] ∧ own_B Z h n0 a r (sz + (1 : Int32) + (1 : Int32)) ct) ({ frames := 0, cells := 0, slots := 0, locals := 0 } : Room).cells ({ frames := 0, cells := 0, slots := 0, locals := 0 } : Room).slots (T103.setTop (mkF m 9 #[.val (.ref a), .val (.int p1), .val (.int p2)] [(.int (8 : Int32)), (.int sz)]))
  refine own_st (q' := T103.setTop (mkF m 29 #[.val (.ref a), .val (.int p1), .val (.int p2)] [])) (fun _ k => XS.icmpYes X103.here hx rfl (pc0 := 9) (pc' := 29) rfl (hb hby d_rmR_9) rfl (feq (own_ne (by rw [l8]; omega))).2 (by decide) (by decide) k) ?_
  refine own_st (q' := T103.setTop (mkF m 30 #[.val (.ref a), .val (.int p1), .val (.int p2)] [(.ref a)])) (fun _ k => XS.aloadN X103.here hx rfl (hb hby d_rmR_29) rfl rfl k) ?_
  obtain ⟨T104, X104, e104, st104⟩ := getF X103 hx hZ hown (host := "") (Or.inl (hw _ (List.mem_of_getElem? (i := 10) rfl))) Via.refl e103 o101R (g := (mkF m 30 #[.val (.ref a), .val (.int p1), .val (.int p2)] [(.ref a)])) rfl rfl (hb hby d_rmR_30)
  refine own_st (q' := T104.setTop (mkF m 33 #[.val (.ref a), .val (.int p1), .val (.int p2)] [(.ref r)])) st104 ?_
  refine own_st (q' := T104.setTop (mkF m 34 #[.val (.ref a), .val (.int p1), .val (.int p2)] [(.ref a), (.ref r)])) (fun _ k => XS.aloadN X104.here hx rfl (hb hby d_rmR_33) rfl rfl k) ?_
  refine own_st (q' := T104.setTop (mkF m 35 #[.val (.ref a), .val (.int p1), .val (.int p2)] [(.ref a), (.ref a), (.ref r)])) (fun _ k => XS.dup X104.here hx rfl (hb hby d_rmR_34) rfl rfl k) ?_
  obtain ⟨T105, X105, e105, st105⟩ := getF X104 hx hZ hown (host := "") (Or.inl (hw _ (List.mem_of_getElem? (i := 17) rfl))) Via.refl e104 o101S (g := (mkF m 35 #[.val (.ref a), .val (.int p1), .val (.int p2)] [(.ref a), (.ref a), (.ref r)])) rfl rfl (hb hby d_rmR_35)
  refine own_st (q' := T105.setTop (mkF m 38 #[.val (.ref a), .val (.int p1), .val (.int p2)] [(.int sz), (.ref a), (.ref r)])) st105 ?_
  refine own_st (q' := T105.setTop (mkF m 39 #[.val (.ref a), .val (.int p1), .val (.int p2)] [(.int sz), (.ref a), (.int sz), (.ref r)])) (fun _ k => XS.dupX1 X105.here hx rfl (hb hby d_rmR_38) rfl rfl rfl k) ?_
  refine own_st (q' := T105.setTop (mkF m 40 #[.val (.ref a), .val (.int p1), .val (.int p2)] [(.int (1 : Int32)), (.int sz), (.ref a), (.int sz), (.ref r)])) (fun _ k => XS.iconst X105.here hx rfl (hb hby d_rmR_39) k) ?_
  refine own_st (q' := T105.setTop (mkF m 41 #[.val (.ref a), .val (.int p1), .val (.int p2)] [(.int (sz + (1 : Int32))), (.ref a), (.int sz), (.ref r)])) (fun _ k => XS.iadd X105.here hx rfl (hb hby d_rmR_40) rfl k) ?_
  obtain ⟨T106, h106, X106, e106, W106, st106⟩ := putF X105 hx hZ hown (host := "") (Or.inl (hw _ (List.mem_of_getElem? (i := 17) rfl))) Via.refl e105 o101S o101E (Or.inl (hw _ (List.mem_of_getElem? (i := 18) rfl))) (hw _ (List.mem_of_getElem? (i := 1) rfl)) (ty := .int) (by decide) rfl rfl (g := (mkF m 41 #[.val (.ref a), .val (.int p1), .val (.int p2)] [(.int (sz + (1 : Int32))), (.ref a), (.int sz), (.ref r)])) rfl rfl (hb hby d_rmR_41)
  have N106 := Fr.snoc X106 N0 o101ga
  have K107 : Keep h0 h106 [a, r] := ((Keep.refl h0 [a, r]).wr W106 (Or.inl (List.mem_of_getElem? (i := 0) rfl)))
  have F106 := o101S.same W106
  refine own_st (q' := T106.setTop (mkF m 44 #[.val (.ref a), .val (.int p1), .val (.int p2)] [(.int sz), (.ref r)])) st106 ?_
  refine own_st (q' := T106.setTop (mkF m 45 #[.val (.ref a), .val (.int p1), .val (.int p2)] [(.int p1), (.int sz), (.ref r)])) (fun _ k => XS.iloadN X106.here hx rfl (hb hby d_rmR_44) rfl k) ?_
  have f108 := (o101V.other W106 (Ne.symm o101ne))
  obtain ⟨T109, h109, X109, e109, W109, V109, st109⟩ := own_iastore X106 hx hZ e106 f108 (by omega) (by rw [o101l]; omega) (g := (mkF m 45 #[.val (.ref a), .val (.int p1), .val (.int p2)] [(.int p1), (.int sz), (.ref r)])) rfl rfl (hb hby d_rmR_45)
  have N109 := Fr.snoc X109 N106 o101gr
  have K110 : Keep h0 h109 [a, r] := (K107.wr W109 (Or.inl (List.mem_of_getElem? (i := 1) rfl)))
  refine own_st (q' := T109.setTop (mkF m 46 #[.val (.ref a), .val (.int p1), .val (.int p2)] [])) st109 ?_
  refine own_st (q' := T109.setTop (mkF m 47 #[.val (.ref a), .val (.int p1), .val (.int p2)] [(.ref a)])) (fun _ k => XS.aloadN X109.here hx rfl (hb hby d_rmR_46) rfl rfl k) ?_
  have f111 := ((o101R.other W106 (Or.inr (slot_ne (Or.inl (hw _ (List.mem_of_getElem? (i := 11) rfl))) (Or.inl (hw _ (List.mem_of_getElem? (i := 18) rfl))) (by decide) (t := (.array .int)) (t' := .int) (by decide) (by decide)))).other W109 (Or.inl o101ne))
  obtain ⟨T112, X112, e112, st112⟩ := getF X109 hx hZ hown (host := "") (Or.inl (hw _ (List.mem_of_getElem? (i := 10) rfl))) Via.refl e109 f111 (g := (mkF m 47 #[.val (.ref a), .val (.int p1), .val (.int p2)] [(.ref a)])) rfl rfl (hb hby d_rmR_47)
  refine own_st (q' := T112.setTop (mkF m 50 #[.val (.ref a), .val (.int p1), .val (.int p2)] [(.ref r)])) st112 ?_
  refine own_st (q' := T112.setTop (mkF m 51 #[.val (.ref a), .val (.int p1), .val (.int p2)] [(.ref a), (.ref r)])) (fun _ k => XS.aloadN X112.here hx rfl (hb hby d_rmR_50) rfl rfl k) ?_
  refine own_st (q' := T112.setTop (mkF m 52 #[.val (.ref a), .val (.int p1), .val (.int p2)] [(.ref a), (.ref a), (.ref r)])) (fun _ k => XS.dup X112.here hx rfl (hb hby d_rmR_51) rfl rfl k) ?_
  have f113 := (F106.other W109 (Or.inl o101ne))
  obtain ⟨T114, X114, e114, st114⟩ := getF X112 hx hZ hown (host := "") (Or.inl (hw _ (List.mem_of_getElem? (i := 17) rfl))) Via.refl e112 f113 (g := (mkF m 52 #[.val (.ref a), .val (.int p1), .val (.int p2)] [(.ref a), (.ref a), (.ref r)])) rfl rfl (hb hby d_rmR_52)
  refine own_st (q' := T114.setTop (mkF m 55 #[.val (.ref a), .val (.int p1), .val (.int p2)] [(.int (sz + (1 : Int32))), (.ref a), (.ref r)])) st114 ?_
  refine own_st (q' := T114.setTop (mkF m 56 #[.val (.ref a), .val (.int p1), .val (.int p2)] [(.int (sz + (1 : Int32))), (.ref a), (.int (sz + (1 : Int32))), (.ref r)])) (fun _ k => XS.dupX1 X114.here hx rfl (hb hby d_rmR_55) rfl rfl rfl k) ?_
  refine own_st (q' := T114.setTop (mkF m 57 #[.val (.ref a), .val (.int p1), .val (.int p2)] [(.int (1 : Int32)), (.int (sz + (1 : Int32))), (.ref a), (.int (sz + (1 : Int32))), (.ref r)])) (fun _ k => XS.iconst X114.here hx rfl (hb hby d_rmR_56) k) ?_
  refine own_st (q' := T114.setTop (mkF m 58 #[.val (.ref a), .val (.int p1), .val (.int p2)] [(.int ((sz + (1 : Int32)) + (1 : Int32))), (.ref a), (.int (sz + (1 : Int32))), (.ref r)])) (fun _ k => XS.iadd X114.here hx rfl (hb hby d_rmR_57) rfl k) ?_
  have f115 := ((o101E.wr W106).wr W109)
  obtain ⟨T116, h116, X116, e116, W116, st116⟩ := putF X114 hx hZ hown (host := "") (Or.inl (hw _ (List.mem_of_getElem? (i := 17) rfl))) Via.refl e114 f113 f115 (Or.inl (hw _ (List.mem_of_getElem? (i := 18) rfl))) (hw _ (List.mem_of_getElem? (i := 1) rfl)) (ty := .int) (by decide) rfl rfl (g := (mkF m 58 #[.val (.ref a), .val (.int p1), .val (.int p2)] [(.int ((sz + (1 : Int32)) + (1 : Int32))), (.ref a), (.int (sz + (1 : Int32))), (.ref r)])) rfl rfl (hb hby d_rmR_58)
  have N116 := Fr.snoc X116 N109 o101ga
  have K117 : Keep h0 h116 [a, r] := (K110.wr W116 (Or.inl (List.mem_of_getElem? (i := 0) rfl)))
  have F116 := f113.same W116
  refine own_st (q' := T116.setTop (mkF m 61 #[.val (.ref a), .val (.int p1), .val (.int p2)] [(.int (sz + (1 : Int32))), (.ref r)])) st116 ?_
  refine own_st (q' := T116.setTop (mkF m 62 #[.val (.ref a), .val (.int p1), .val (.int p2)] [(.int p2), (.int (sz + (1 : Int32))), (.ref r)])) (fun _ k => XS.iloadN X116.here hx rfl (hb hby d_rmR_61) rfl k) ?_
  have f118 := (V109.other W116 (Ne.symm o101ne))
  obtain ⟨T119, h119, X119, e119, W119, V119, st119⟩ := own_iastore X116 hx hZ e116 f118 (by omega) (by rw [List.length_set, o101l]; omega) (g := (mkF m 62 #[.val (.ref a), .val (.int p1), .val (.int p2)] [(.int p2), (.int (sz + (1 : Int32))), (.ref r)])) rfl rfl (hb hby d_rmR_62)
  have N119 := Fr.snoc X119 N116 o101gr
  have K120 : Keep h0 h119 [a, r] := (K117.wr W119 (Or.inl (List.mem_of_getElem? (i := 1) rfl)))
  refine own_st (q' := T119.setTop (mkF m 63 #[.val (.ref a), .val (.int p1), .val (.int p2)] [])) st119 ?_
  have f121 := ((f115.wr W116).wr W119)
  have f122 := ((f111.other W116 (Or.inr (slot_ne (Or.inl (hw _ (List.mem_of_getElem? (i := 11) rfl))) (Or.inl (hw _ (List.mem_of_getElem? (i := 18) rfl))) (by decide) (t := (.array .int)) (t' := .int) (by decide) (by decide)))).other W119 (Or.inl o101ne))
  have f123 := (F116.other W119 (Or.inl o101ne))
  have f124 := ((((o101C.other W106 (Or.inr (slot_ne (Or.inl (hw _ (List.mem_of_getElem? (i := 20) rfl))) (Or.inl (hw _ (List.mem_of_getElem? (i := 18) rfl))) (by decide) (t := .int) (t' := .int) (by decide) (by decide)))).other W109 (Or.inl o101ne)).other W116 (Or.inr (slot_ne (Or.inl (hw _ (List.mem_of_getElem? (i := 20) rfl))) (Or.inl (hw _ (List.mem_of_getElem? (i := 18) rfl))) (by decide) (t := .int) (t' := .int) (by decide) (by decide)))).other W119 (Or.inl o101ne))
  exact own_retV X119 hx hlk hret (hb hby d_rmR_63) e119 (by exact ⟨rfl, N119, K120, ⟨f121, f122, f123, f124, ⟨_, (by simp [o101l]), V119⟩, o101ga, o101gr, o101ne⟩⟩) (by decide) (by decide)
theorem own_zor (x : Int32) : (0 : Int32) ||| x = x := Int32.zero_or
theorem own_e2 {z7 sz s1 s2 cu y u ct x3 x4 z5 z6 : Int32} (b7 : 0 ≤ z7.toInt ∧ z7.toInt ≤ 3) (h1 : s1 = if z7 < (1 : Int32) then (0 : Int32) else 0 + (1 : Int32) + (1 : Int32)) (h2 : s2 = if z7 < (2 : Int32) then s1 else s1 + (1 : Int32) + (1 : Int32)) (h3 : sz = if z7 < (3 : Int32) then s2 else s2 + (1 : Int32) + (1 : Int32))
    (hct : ct = if z5 = (0 : Int32) then 0 else x3) (hcu : cu = if z6 = (0 : Int32) then ct else (ct ||| x4)) (hy : y = if z5 = (0 : Int32) then 0 else x3) (hu : u = if z6 = (0 : Int32) then 0 else x4) :
    own_em sz cu = if z7 = (0 : Int32) then (if y ||| u = (0 : Int32) then 1 else 0) else 0 := by
  have e1 : y ||| u = cu := by
    rw [hcu, hu, hy, ← hct]
    by_cases q : z6 = (0 : Int32)
    · rw [if_pos q, if_pos q, Int32.or_zero]
    · rw [if_neg q, if_neg q]
  have l1 : (1 : Int32).toInt = 1 := rfl
  have l2 : (2 : Int32).toInt = 2 := rfl
  have l3 : (3 : Int32).toInt = 3 := rfl
  have l0 : (0 : Int32).toInt = 0 := rfl
  have e2 : (sz = (0 : Int32)) ↔ z7 = (0 : Int32) := by
    by_cases q : z7 = (0 : Int32)
    · subst q
      rw [if_pos (by decide)] at h1 h2 h3
      rw [h3, h2, h1]
    · have q' := own_eqF q
      rw [l0] at q'
      rw [if_neg (own_nlt (by omega))] at h1
      refine iff_of_false (fun e => ?_) q
      subst h1
      by_cases p2 : z7 < (2 : Int32)
      · have p3 : z7 < (3 : Int32) := own_lt (by have := own_ltT p2; omega)
        rw [if_pos p2] at h2; rw [if_pos p3] at h3; subst h2; subst h3; exact absurd e (by decide)
      · rw [if_neg p2] at h2; subst h2
        by_cases p3 : z7 < (3 : Int32)
        · rw [if_pos p3] at h3; subst h3; exact absurd e (by decide)
        · rw [if_neg p3] at h3; subst h3; exact absurd e (by decide)
  unfold own_em
  rw [e1]
  by_cases q : z7 = (0 : Int32)
  · rw [if_pos q, if_pos (e2.mpr q)]
  · rw [if_neg q, if_neg fun z => q (e2.mp z)]
theorem pn_1 : plainName "com/example/rehearsal/rehearsal/http/BuilderIsEmptyPinLaw" = true := by first | (simp [plainName, overriddenIn]; done) | decide +kernel
theorem ef_rm0 (m : MethodId) (x0 : Int32) (x1 : Int32) (x2 : Int32) (x3 : Int32) (x4 : Int32) : entryFrame m #[(.int x0), (.int x1), (.int x2), (.int x3), (.int x4)] maxLocals = mkF m 0 #[.val (.int x0), .val (.int x1), .val (.int x2), .val (.int x3), .val (.int x4), .unset, .unset, .unset, .unset, .unset, .unset, .unset, .unset, .unset, .unset, .unset] [] := by first | (simp [entryFrame, mkF, argsToLocals, Value.category, maxLocals]; done) | rfl
theorem pd_0 : parseMethodDescriptor "()V" = some ⟨[], none⟩ := by decide +kernel
theorem pd_1 : parseMethodDescriptor "()Z" = some ⟨[], some .boolean⟩ := by decide +kernel
theorem pd_2 : parseMethodDescriptor "(I)V" = some ⟨[.int], none⟩ := by decide +kernel
theorem pd_3 : parseMethodDescriptor "(II)V" = some ⟨[.int, .int], none⟩ := by decide +kernel
set_option maxRecDepth 65536 in
set_option maxHeartbeats 40000000 in
theorem rm0 (l : Launch) (Z : State) (a0 : Array Value) (hw : ∀ d ∈ tables_1, d.before a0 Z = true) (ws : List Jvm.Cond) (x0 x1 x2 x3 x4 : Int32) (h0 : Heap) (n0 : Nat) (Z0 : n0 ≤ h0.size) :
    own_Met l Z x ws code maxLocals ret room_1 #[(.int x0), (.int x1), (.int x2), (.int x3), (.int x4)] h0 (fun v h L => v = some (.int 1) ∧ Fr n0 L) := by
  refine own_body (y := x) (plainFor_of_name pn_1) ?_
  intro p e s m below meth c s₁ hx hby hml hown hnm hret hlk hZ X0 e0
  have hml : c.maxLocals = 16 := hml
  have hown : s.vm.findClass "com/example/rehearsal/rehearsal/http/BuilderIsEmptyPinLaw" = some m.cls := hown
  have N0 := Fr.nil n0
  refine own_entry (ef_rm0 m x0 x1 x2 x3 x4) ?_
  show own_Dn p e below s (fun v h L => v = some (.int 1) ∧ Fr n0 L) room_1.cells room_1.slots (s₁.setTop (mkF m 0 #[.val (.int x0), .val (.int x1), .val (.int x2), .val (.int x3), .val (.int x4), .unset, .unset, .unset, .unset, .unset, .unset, .unset, .unset, .unset, .unset, .unset] []))
  refine own_st (q' := s₁.setTop (mkF m 1 #[.val (.int x0), .val (.int x1), .val (.int x2), .val (.int x3), .val (.int x4), .unset, .unset, .unset, .unset, .unset, .unset, .unset, .unset, .unset, .unset, .unset] [(.int x0)])) (fun _ k => XS.iloadN X0.here hx rfl (hb hby at_0) rfl k) ?_
  refine own_st (q' := s₁.setTop (mkF m 2 #[.val (.int x0), .val (.int x1), .val (.int x2), .val (.int x3), .val (.int x4), .unset, .unset, .unset, .unset, .unset, .unset, .unset, .unset, .unset, .unset, .unset] [(.int (1 : Int32)), (.int x0)])) (fun _ k => XS.iconst X0.here hx rfl (hb hby at_1) k) ?_
  refine own_st (q' := s₁.setTop (mkF m 3 #[.val (.int x0), .val (.int x1), .val (.int x2), .val (.int x3), .val (.int x4), .unset, .unset, .unset, .unset, .unset, .unset, .unset, .unset, .unset, .unset, .unset] [(.int (x0 &&& (1 : Int32)))])) (fun _ k => XS.iand X0.here hx rfl (hb hby at_2) rfl k) ?_
  have j11 : ∀ (z5 : Int32) (hz5 : z5 = if x0 &&& (1 : Int32) = (0 : Int32) then 0 else 1), own_Dn p e below s (fun v h L => v = some (.int 1) ∧ Fr n0 L) room_1.cells room_1.slots (s₁.setTop (mkF m 11 #[.val (.int x0), .val (.int x1), .val (.int x2), .val (.int x3), .val (.int x4), .unset, .unset, .unset, .unset, .unset, .unset, .unset, .unset, .unset, .unset, .unset] [(.int z5)])) := by
    intro z5 hz5
    refine own_st (q' := s₁.setTop (mkF m 13 #[.val (.int x0), .val (.int x1), .val (.int x2), .val (.int x3), .val (.int x4), .val (.int z5), .unset, .unset, .unset, .unset, .unset, .unset, .unset, .unset, .unset, .unset] [])) (fun _ k => XS.istore X0.here hx rfl (hb hby at_11) rfl (l' := #[.val (.int x0), .val (.int x1), .val (.int x2), .val (.int x3), .val (.int x4), .val (.int z5), .unset, .unset, .unset, .unset, .unset, .unset, .unset, .unset, .unset, .unset]) rfl k) ?_
    refine own_st (q' := s₁.setTop (mkF m 14 #[.val (.int x0), .val (.int x1), .val (.int x2), .val (.int x3), .val (.int x4), .val (.int z5), .unset, .unset, .unset, .unset, .unset, .unset, .unset, .unset, .unset, .unset] [(.int x0)])) (fun _ k => XS.iloadN X0.here hx rfl (hb hby at_13) rfl k) ?_
    refine own_st (q' := s₁.setTop (mkF m 15 #[.val (.int x0), .val (.int x1), .val (.int x2), .val (.int x3), .val (.int x4), .val (.int z5), .unset, .unset, .unset, .unset, .unset, .unset, .unset, .unset, .unset, .unset] [(.int (2 : Int32)), (.int x0)])) (fun _ k => XS.iconst X0.here hx rfl (hb hby at_14) k) ?_
    refine own_st (q' := s₁.setTop (mkF m 16 #[.val (.int x0), .val (.int x1), .val (.int x2), .val (.int x3), .val (.int x4), .val (.int z5), .unset, .unset, .unset, .unset, .unset, .unset, .unset, .unset, .unset, .unset] [(.int (x0 &&& (2 : Int32)))])) (fun _ k => XS.iand X0.here hx rfl (hb hby at_15) rfl k) ?_
    have j24 : ∀ (z6 : Int32) (hz6 : z6 = if x0 &&& (2 : Int32) = (0 : Int32) then 0 else 1), own_Dn p e below s (fun v h L => v = some (.int 1) ∧ Fr n0 L) room_1.cells room_1.slots (s₁.setTop (mkF m 24 #[.val (.int x0), .val (.int x1), .val (.int x2), .val (.int x3), .val (.int x4), .val (.int z5), .unset, .unset, .unset, .unset, .unset, .unset, .unset, .unset, .unset, .unset] [(.int z6)])) := by
      intro z6 hz6
      refine own_st (q' := s₁.setTop (mkF m 26 #[.val (.int x0), .val (.int x1), .val (.int x2), .val (.int x3), .val (.int x4), .val (.int z5), .val (.int z6), .unset, .unset, .unset, .unset, .unset, .unset, .unset, .unset, .unset] [])) (fun _ k => XS.istore X0.here hx rfl (hb hby at_24) rfl (l' := #[.val (.int x0), .val (.int x1), .val (.int x2), .val (.int x3), .val (.int x4), .val (.int z5), .val (.int z6), .unset, .unset, .unset, .unset, .unset, .unset, .unset, .unset, .unset]) rfl k) ?_
      refine own_st (q' := s₁.setTop (mkF m 27 #[.val (.int x0), .val (.int x1), .val (.int x2), .val (.int x3), .val (.int x4), .val (.int z5), .val (.int z6), .unset, .unset, .unset, .unset, .unset, .unset, .unset, .unset, .unset] [(.int x0)])) (fun _ k => XS.iloadN X0.here hx rfl (hb hby at_26) rfl k) ?_
      refine own_st (q' := s₁.setTop (mkF m 28 #[.val (.int x0), .val (.int x1), .val (.int x2), .val (.int x3), .val (.int x4), .val (.int z5), .val (.int z6), .unset, .unset, .unset, .unset, .unset, .unset, .unset, .unset, .unset] [(.int (2 : Int32)), (.int x0)])) (fun _ k => XS.iconst X0.here hx rfl (hb hby at_27) k) ?_
      refine own_st (q' := s₁.setTop (mkF m 29 #[.val (.int x0), .val (.int x1), .val (.int x2), .val (.int x3), .val (.int x4), .val (.int z5), .val (.int z6), .unset, .unset, .unset, .unset, .unset, .unset, .unset, .unset, .unset] [(.int ((x0.toUInt32 >>> ((2 : Int32) &&& 31).toUInt32).toInt32))])) (fun _ k => XS.iushr X0.here hx rfl (hb hby at_28) rfl k) ?_
      refine own_st (q' := s₁.setTop (mkF m 30 #[.val (.int x0), .val (.int x1), .val (.int x2), .val (.int x3), .val (.int x4), .val (.int z5), .val (.int z6), .unset, .unset, .unset, .unset, .unset, .unset, .unset, .unset, .unset] [(.int (3 : Int32)), (.int ((x0.toUInt32 >>> ((2 : Int32) &&& 31).toUInt32).toInt32))])) (fun _ k => XS.iconst X0.here hx rfl (hb hby at_29) k) ?_
      refine own_st (q' := s₁.setTop (mkF m 31 #[.val (.int x0), .val (.int x1), .val (.int x2), .val (.int x3), .val (.int x4), .val (.int z5), .val (.int z6), .unset, .unset, .unset, .unset, .unset, .unset, .unset, .unset, .unset] [(.int (((x0.toUInt32 >>> ((2 : Int32) &&& 31).toUInt32).toInt32) &&& (3 : Int32)))])) (fun _ k => XS.iand X0.here hx rfl (hb hby at_30) rfl k) ?_
      refine own_st (q' := s₁.setTop (mkF m 33 #[.val (.int x0), .val (.int x1), .val (.int x2), .val (.int x3), .val (.int x4), .val (.int z5), .val (.int z6), .val (.int (((x0.toUInt32 >>> ((2 : Int32) &&& 31).toUInt32).toInt32) &&& (3 : Int32))), .unset, .unset, .unset, .unset, .unset, .unset, .unset, .unset] [])) (fun _ k => XS.istore X0.here hx rfl (hb hby at_31) rfl (l' := #[.val (.int x0), .val (.int x1), .val (.int x2), .val (.int x3), .val (.int x4), .val (.int z5), .val (.int z6), .val (.int (((x0.toUInt32 >>> ((2 : Int32) &&& 31).toUInt32).toInt32) &&& (3 : Int32))), .unset, .unset, .unset, .unset, .unset, .unset, .unset, .unset]) rfl k) ?_
      generalize hz7 : (((x0.toUInt32 >>> ((2 : Int32) &&& 31).toUInt32).toInt32) &&& (3 : Int32)) = z7
      have l3 : (3 : Int32).toInt = 3 := rfl
      have l0 : (0 : Int32).toInt = 0 := rfl
      have b7 : 0 ≤ z7.toInt ∧ z7.toInt ≤ 3 := by rw [← hz7]; exact c_and _ 3 (by decide)
      show own_Dn p e below s (fun v h L => v = some (.int 1) ∧ Fr n0 L) room_1.cells room_1.slots (s₁.setTop (mkF m 33 #[.val (.int x0), .val (.int x1), .val (.int x2), .val (.int x3), .val (.int x4), .val (.int z5), .val (.int z6), .val (.int z7), .unset, .unset, .unset, .unset, .unset, .unset, .unset, .unset] []))
      obtain ⟨T101, h101, X101, e101, E101, A101, D101, -, st101⟩ := newO X0 hx hZ hown (hw _ (List.mem_of_getElem? (i := 0) rfl)) (hw _ (List.mem_of_getElem? (i := 1) rfl)) (hw _ (List.mem_of_getElem? (i := 2) rfl)) e0 (g := (mkF m 33 #[.val (.int x0), .val (.int x1), .val (.int x2), .val (.int x3), .val (.int x4), .val (.int z5), .val (.int z6), .val (.int z7), .unset, .unset, .unset, .unset, .unset, .unset, .unset, .unset] [])) rfl (hb hby at_33) (by decide) (by decide)
      obtain ⟨b101, g101⟩ : ∃ z, z = h0.size := ⟨_, rfl⟩
      rw [← g101] at A101 D101 st101
      have ge_b101 : n0 ≤ b101 := Nat.le_trans Z0 (Nat.le_of_eq g101.symm)
      have F_ranges_b101 : Fld Z h101 b101 "com/example/rehearsal/rehearsal/http/CodePointClass$Builder" "ranges" "[I" .null := D101 (Or.inl (hw _ (List.mem_of_getElem? (i := 11) rfl))) (ty := (.array .int)) (by decide)
      have F_size_b101 : Fld Z h101 b101 "com/example/rehearsal/rehearsal/http/CodePointClass$Builder" "size" "I" (.int (0 : Int32)) := D101 (Or.inl (hw _ (List.mem_of_getElem? (i := 18) rfl))) (ty := .int) (by decide)
      have F_categories_b101 : Fld Z h101 b101 "com/example/rehearsal/rehearsal/http/CodePointClass$Builder" "categories" "I" (.int (0 : Int32)) := D101 (Or.inl (hw _ (List.mem_of_getElem? (i := 20) rfl))) (ty := .int) (by decide)
      refine own_st (q' := T101.setTop (mkF m 36 #[.val (.int x0), .val (.int x1), .val (.int x2), .val (.int x3), .val (.int x4), .val (.int z5), .val (.int z6), .val (.int z7), .unset, .unset, .unset, .unset, .unset, .unset, .unset, .unset] [(.ref b101)])) st101 ?_
      refine own_st (q' := T101.setTop (mkF m 37 #[.val (.int x0), .val (.int x1), .val (.int x2), .val (.int x3), .val (.int x4), .val (.int z5), .val (.int z6), .val (.int z7), .unset, .unset, .unset, .unset, .unset, .unset, .unset, .unset] [(.ref b101), (.ref b101)])) (fun _ k => XS.dup X101.here hx rfl (hb hby at_36) rfl rfl k) ?_
      refine own_callI (y := (⟨"com/example/rehearsal/rehearsal/http/CodePointClass$Builder", "<init>", "()V"⟩ : MethodName)) X101 hx hZ hown rfl (hw _ (List.mem_of_getElem? (i := 3) rfl)) (hw _ (List.mem_of_getElem? (i := 4) rfl)) (hw _ (List.mem_of_getElem? (i := 2) rfl)) (hw _ (List.mem_of_getElem? (i := 5) rfl)) (by decide) (rmI l Z a0 hw [] b101 h101 n0 (Nat.le_trans Z0 E101.1) A101 ge_b101 F_ranges_b101 F_size_b101 F_categories_b101) e101 (W := 1) (by decide) (by decide) (by decide) (by decide) (g := (mkF m 37 #[.val (.int x0), .val (.int x1), .val (.int x2), .val (.int x3), .val (.int x4), .val (.int z5), .val (.int z6), .val (.int z7), .unset, .unset, .unset, .unset, .unset, .unset, .unset, .unset] [(.ref b101), (.ref b101)])) rfl (by rw [hml]; rfl) (a := b101) (argsL := []) (rest := [(.ref b101)]) rfl (lenOf pd_0 rfl) rfl (by show 2 * 0 + _ ≤ _; exact Nat.le_of_eq rfl) (hb hby at_37) ?_
      intro v102 T102 L102 hQ102 X102
      obtain ⟨rfl, NN102, KK102, r, hB102⟩ := hQ102
      have N102 := Fr.app N0 NN102
      obtain ⟨o103E, o103R, o103S, o103C, ⟨o103x, o103l, o103V⟩, o103ga, o103gr, o103ne⟩ := hB102
      show own_Dn p e below s (fun v h L => v = some (.int 1) ∧ Fr n0 L) room_1.cells room_1.slots (T102.setTop (mkF m 40 #[.val (.int x0), .val (.int x1), .val (.int x2), .val (.int x3), .val (.int x4), .val (.int z5), .val (.int z6), .val (.int z7), .unset, .unset, .unset, .unset, .unset, .unset, .unset, .unset] [(.ref b101)]))
      refine own_st (q' := T102.setTop (mkF m 42 #[.val (.int x0), .val (.int x1), .val (.int x2), .val (.int x3), .val (.int x4), .val (.int z5), .val (.int z6), .val (.int z7), .val (.ref b101), .unset, .unset, .unset, .unset, .unset, .unset, .unset] [])) (fun _ k => XS.astore X102.here hx rfl (hb hby at_40) rfl rfl (l' := #[.val (.int x0), .val (.int x1), .val (.int x2), .val (.int x3), .val (.int x4), .val (.int z5), .val (.int z6), .val (.int z7), .val (.ref b101), .unset, .unset, .unset, .unset, .unset, .unset, .unset]) rfl k) ?_
      refine own_st (q' := T102.setTop (mkF m 44 #[.val (.int x0), .val (.int x1), .val (.int x2), .val (.int x3), .val (.int x4), .val (.int z5), .val (.int z6), .val (.int z7), .val (.ref b101), .unset, .unset, .unset, .unset, .unset, .unset, .unset] [(.ref b101)])) (fun _ k => XS.aload X102.here hx rfl (hb hby at_42) rfl rfl k) ?_
      refine own_callV (y := (⟨"com/example/rehearsal/rehearsal/http/CodePointClass$Builder", "isEmpty", "()Z"⟩ : MethodName)) X102 hx hZ hown (hw _ (List.mem_of_getElem? (i := 12) rfl)) (hw _ (List.mem_of_getElem? (i := 13) rfl)) (hw _ (List.mem_of_getElem? (i := 15) rfl)) (hw _ (List.mem_of_getElem? (i := 14) rfl)) (hw _ (List.mem_of_getElem? (i := 2) rfl)) (hw _ (List.mem_of_getElem? (i := 16) rfl)) (by decide) (rmE l Z a0 hw [] b101 r (0 : Int32) (0 : Int32) T102.heap n0 (Nat.le_trans (Nat.le_trans Z0 E101.1) KK102.1) ⟨o103E, o103R, o103S, o103C, ⟨_, o103l, o103V⟩, o103ga, o103gr, o103ne⟩) (rfl : T102.heap = T102.heap) o103E (W := 0) (by decide) (by decide) (by decide) (by decide) (g := (mkF m 44 #[.val (.int x0), .val (.int x1), .val (.int x2), .val (.int x3), .val (.int x4), .val (.int z5), .val (.int z6), .val (.int z7), .val (.ref b101), .unset, .unset, .unset, .unset, .unset, .unset, .unset] [(.ref b101)])) rfl (by rw [hml]; rfl) (argsL := []) (rest := []) rfl (lenOf pd_1 rfl) rfl (by show 2 * 0 + _ ≤ _; exact Nat.le_of_eq rfl) (hb hby at_44) ?_
      intro v104 T104 L104 hQ104 X104
      obtain ⟨rfl, NN104, e104⟩ := hQ104
      have N104 := Fr.app N102 NN104
      show own_Dn p e below s (fun v h L => v = some (.int 1) ∧ Fr n0 L) room_1.cells room_1.slots (T104.setTop (mkF m 47 #[.val (.int x0), .val (.int x1), .val (.int x2), .val (.int x3), .val (.int x4), .val (.int z5), .val (.int z6), .val (.int z7), .val (.ref b101), .unset, .unset, .unset, .unset, .unset, .unset, .unset] [(.int (own_em (0 : Int32) (0 : Int32)))]))
      refine own_st (q' := T104.setTop (mkF m 49 #[.val (.int x0), .val (.int x1), .val (.int x2), .val (.int x3), .val (.int x4), .val (.int z5), .val (.int z6), .val (.int z7), .val (.ref b101), .val (.int (own_em (0 : Int32) (0 : Int32))), .unset, .unset, .unset, .unset, .unset, .unset] [])) (fun _ k => XS.istore X104.here hx rfl (hb hby at_47) rfl (l' := #[.val (.int x0), .val (.int x1), .val (.int x2), .val (.int x3), .val (.int x4), .val (.int z5), .val (.int z6), .val (.int z7), .val (.ref b101), .val (.int (own_em (0 : Int32) (0 : Int32))), .unset, .unset, .unset, .unset, .unset, .unset]) rfl k) ?_
      refine own_st (q' := T104.setTop (mkF m 51 #[.val (.int x0), .val (.int x1), .val (.int x2), .val (.int x3), .val (.int x4), .val (.int z5), .val (.int z6), .val (.int z7), .val (.ref b101), .val (.int (own_em (0 : Int32) (0 : Int32))), .unset, .unset, .unset, .unset, .unset, .unset] [(.int z5)])) (fun _ k => XS.iload X104.here hx rfl (hb hby at_49) rfl k) ?_
      have j60 : ∀ (T60 : State) (h60 : Heap) (locs60 : List Loc) (X60 : Stand p l e room_1 s m #[(.int x0), (.int x1), (.int x2), (.int x3), (.int x4)] below meth c T60 locs60 2 11) (e60 : T60.heap = h60) (N60 : Fr n0 locs60) (Z60 : n0 ≤ h60.size) (ct : Int32) (hct : ct = if z5 = (0 : Int32) then 0 else x3) (hB60 : own_B Z h60 n0 b101 r (0 : Int32) ct), own_Dn p e below s (fun v h L => v = some (.int 1) ∧ Fr n0 L) room_1.cells room_1.slots (T60.setTop (mkF m 60 #[.val (.int x0), .val (.int x1), .val (.int x2), .val (.int x3), .val (.int x4), .val (.int z5), .val (.int z6), .val (.int z7), .val (.ref b101), .val (.int (own_em (0 : Int32) (0 : Int32))), .unset, .unset, .unset, .unset, .unset, .unset] [])) := by
        intro T60 h60 locs60 X60 e60 N60 Z60 ct hct hB60
        obtain ⟨o105E, o105R, o105S, o105C, ⟨o105x, o105l, o105V⟩, o105ga, o105gr, o105ne⟩ := hB60
        show own_Dn p e below s (fun v h L => v = some (.int 1) ∧ Fr n0 L) room_1.cells room_1.slots (T60.setTop (mkF m 60 #[.val (.int x0), .val (.int x1), .val (.int x2), .val (.int x3), .val (.int x4), .val (.int z5), .val (.int z6), .val (.int z7), .val (.ref b101), .val (.int (own_em (0 : Int32) (0 : Int32))), .unset, .unset, .unset, .unset, .unset, .unset] []))
        refine own_st (q' := T60.setTop (mkF m 62 #[.val (.int x0), .val (.int x1), .val (.int x2), .val (.int x3), .val (.int x4), .val (.int z5), .val (.int z6), .val (.int z7), .val (.ref b101), .val (.int (own_em (0 : Int32) (0 : Int32))), .unset, .unset, .unset, .unset, .unset, .unset] [(.ref b101)])) (fun _ k => XS.aload X60.here hx rfl (hb hby at_60) rfl rfl k) ?_
        refine own_callV (y := (⟨"com/example/rehearsal/rehearsal/http/CodePointClass$Builder", "isEmpty", "()Z"⟩ : MethodName)) X60 hx hZ hown (hw _ (List.mem_of_getElem? (i := 12) rfl)) (hw _ (List.mem_of_getElem? (i := 13) rfl)) (hw _ (List.mem_of_getElem? (i := 15) rfl)) (hw _ (List.mem_of_getElem? (i := 14) rfl)) (hw _ (List.mem_of_getElem? (i := 2) rfl)) (hw _ (List.mem_of_getElem? (i := 16) rfl)) (by decide) (rmE l Z a0 hw [] b101 r (0 : Int32) ct h60 n0 Z60 ⟨o105E, o105R, o105S, o105C, ⟨_, o105l, o105V⟩, o105ga, o105gr, o105ne⟩) e60 o105E (W := 0) (by decide) (by decide) (by decide) (by decide) (g := (mkF m 62 #[.val (.int x0), .val (.int x1), .val (.int x2), .val (.int x3), .val (.int x4), .val (.int z5), .val (.int z6), .val (.int z7), .val (.ref b101), .val (.int (own_em (0 : Int32) (0 : Int32))), .unset, .unset, .unset, .unset, .unset, .unset] [(.ref b101)])) rfl (by rw [hml]; rfl) (argsL := []) (rest := []) rfl (lenOf pd_1 rfl) rfl (by show 2 * 0 + _ ≤ _; exact Nat.le_of_eq rfl) (hb hby at_62) ?_
        intro v106 T106 L106 hQ106 X106
        obtain ⟨rfl, NN106, e106⟩ := hQ106
        have N106 := Fr.app N60 NN106
        show own_Dn p e below s (fun v h L => v = some (.int 1) ∧ Fr n0 L) room_1.cells room_1.slots (T106.setTop (mkF m 65 #[.val (.int x0), .val (.int x1), .val (.int x2), .val (.int x3), .val (.int x4), .val (.int z5), .val (.int z6), .val (.int z7), .val (.ref b101), .val (.int (own_em (0 : Int32) (0 : Int32))), .unset, .unset, .unset, .unset, .unset, .unset] [(.int (own_em (0 : Int32) ct))]))
        refine own_st (q' := T106.setTop (mkF m 67 #[.val (.int x0), .val (.int x1), .val (.int x2), .val (.int x3), .val (.int x4), .val (.int z5), .val (.int z6), .val (.int z7), .val (.ref b101), .val (.int (own_em (0 : Int32) (0 : Int32))), .val (.int (own_em (0 : Int32) ct)), .unset, .unset, .unset, .unset, .unset] [])) (fun _ k => XS.istore X106.here hx rfl (hb hby at_65) rfl (l' := #[.val (.int x0), .val (.int x1), .val (.int x2), .val (.int x3), .val (.int x4), .val (.int z5), .val (.int z6), .val (.int z7), .val (.ref b101), .val (.int (own_em (0 : Int32) (0 : Int32))), .val (.int (own_em (0 : Int32) ct)), .unset, .unset, .unset, .unset, .unset]) rfl k) ?_
        refine own_st (q' := T106.setTop (mkF m 69 #[.val (.int x0), .val (.int x1), .val (.int x2), .val (.int x3), .val (.int x4), .val (.int z5), .val (.int z6), .val (.int z7), .val (.ref b101), .val (.int (own_em (0 : Int32) (0 : Int32))), .val (.int (own_em (0 : Int32) ct)), .unset, .unset, .unset, .unset, .unset] [(.int z7)])) (fun _ k => XS.iload X106.here hx rfl (hb hby at_67) rfl k) ?_
        refine own_st (q' := T106.setTop (mkF m 70 #[.val (.int x0), .val (.int x1), .val (.int x2), .val (.int x3), .val (.int x4), .val (.int z5), .val (.int z6), .val (.int z7), .val (.ref b101), .val (.int (own_em (0 : Int32) (0 : Int32))), .val (.int (own_em (0 : Int32) ct)), .unset, .unset, .unset, .unset, .unset] [(.int (1 : Int32)), (.int z7)])) (fun _ k => XS.iconst X106.here hx rfl (hb hby at_69) k) ?_
        have j80 : ∀ (T80 : State) (h80 : Heap) (locs80 : List Loc) (X80 : Stand p l e room_1 s m #[(.int x0), (.int x1), (.int x2), (.int x3), (.int x4)] below meth c T80 locs80 2 11) (e80 : T80.heap = h80) (N80 : Fr n0 locs80) (Z80 : n0 ≤ h80.size) (s80 : Int32) (hs80 : s80 = if z7 < (1 : Int32) then (0 : Int32) else (0 : Int32) + (1 : Int32) + (1 : Int32)) (hs80I : 0 ≤ s80.toInt ∧ s80.toInt ≤ 2) (hB80 : own_B Z h80 n0 b101 r s80 ct), own_Dn p e below s (fun v h L => v = some (.int 1) ∧ Fr n0 L) room_1.cells room_1.slots (T80.setTop (mkF m 80 #[.val (.int x0), .val (.int x1), .val (.int x2), .val (.int x3), .val (.int x4), .val (.int z5), .val (.int z6), .val (.int z7), .val (.ref b101), .val (.int (own_em (0 : Int32) (0 : Int32))), .val (.int (own_em (0 : Int32) ct)), .unset, .unset, .unset, .unset, .unset] [])) := by
          intro T80 h80 locs80 X80 e80 N80 Z80 s80 hs80 hs80I hB80
          obtain ⟨o107E, o107R, o107S, o107C, ⟨o107x, o107l, o107V⟩, o107ga, o107gr, o107ne⟩ := hB80
          show own_Dn p e below s (fun v h L => v = some (.int 1) ∧ Fr n0 L) room_1.cells room_1.slots (T80.setTop (mkF m 80 #[.val (.int x0), .val (.int x1), .val (.int x2), .val (.int x3), .val (.int x4), .val (.int z5), .val (.int z6), .val (.int z7), .val (.ref b101), .val (.int (own_em (0 : Int32) (0 : Int32))), .val (.int (own_em (0 : Int32) ct)), .unset, .unset, .unset, .unset, .unset] []))
          refine own_st (q' := T80.setTop (mkF m 82 #[.val (.int x0), .val (.int x1), .val (.int x2), .val (.int x3), .val (.int x4), .val (.int z5), .val (.int z6), .val (.int z7), .val (.ref b101), .val (.int (own_em (0 : Int32) (0 : Int32))), .val (.int (own_em (0 : Int32) ct)), .unset, .unset, .unset, .unset, .unset] [(.int z7)])) (fun _ k => XS.iload X80.here hx rfl (hb hby at_80) rfl k) ?_
          refine own_st (q' := T80.setTop (mkF m 83 #[.val (.int x0), .val (.int x1), .val (.int x2), .val (.int x3), .val (.int x4), .val (.int z5), .val (.int z6), .val (.int z7), .val (.ref b101), .val (.int (own_em (0 : Int32) (0 : Int32))), .val (.int (own_em (0 : Int32) ct)), .unset, .unset, .unset, .unset, .unset] [(.int (2 : Int32)), (.int z7)])) (fun _ k => XS.iconst X80.here hx rfl (hb hby at_82) k) ?_
          have j93 : ∀ (T93 : State) (h93 : Heap) (locs93 : List Loc) (X93 : Stand p l e room_1 s m #[(.int x0), (.int x1), (.int x2), (.int x3), (.int x4)] below meth c T93 locs93 2 11) (e93 : T93.heap = h93) (N93 : Fr n0 locs93) (Z93 : n0 ≤ h93.size) (s93 : Int32) (hs93 : s93 = if z7 < (2 : Int32) then s80 else s80 + (1 : Int32) + (1 : Int32)) (hs93I : 0 ≤ s93.toInt ∧ s93.toInt ≤ 4) (hB93 : own_B Z h93 n0 b101 r s93 ct), own_Dn p e below s (fun v h L => v = some (.int 1) ∧ Fr n0 L) room_1.cells room_1.slots (T93.setTop (mkF m 93 #[.val (.int x0), .val (.int x1), .val (.int x2), .val (.int x3), .val (.int x4), .val (.int z5), .val (.int z6), .val (.int z7), .val (.ref b101), .val (.int (own_em (0 : Int32) (0 : Int32))), .val (.int (own_em (0 : Int32) ct)), .unset, .unset, .unset, .unset, .unset] [])) := by
            intro T93 h93 locs93 X93 e93 N93 Z93 s93 hs93 hs93I hB93
            obtain ⟨o108E, o108R, o108S, o108C, ⟨o108x, o108l, o108V⟩, o108ga, o108gr, o108ne⟩ := hB93
            show own_Dn p e below s (fun v h L => v = some (.int 1) ∧ Fr n0 L) room_1.cells room_1.slots (T93.setTop (mkF m 93 #[.val (.int x0), .val (.int x1), .val (.int x2), .val (.int x3), .val (.int x4), .val (.int z5), .val (.int z6), .val (.int z7), .val (.ref b101), .val (.int (own_em (0 : Int32) (0 : Int32))), .val (.int (own_em (0 : Int32) ct)), .unset, .unset, .unset, .unset, .unset] []))
            refine own_st (q' := T93.setTop (mkF m 95 #[.val (.int x0), .val (.int x1), .val (.int x2), .val (.int x3), .val (.int x4), .val (.int z5), .val (.int z6), .val (.int z7), .val (.ref b101), .val (.int (own_em (0 : Int32) (0 : Int32))), .val (.int (own_em (0 : Int32) ct)), .unset, .unset, .unset, .unset, .unset] [(.int z7)])) (fun _ k => XS.iload X93.here hx rfl (hb hby at_93) rfl k) ?_
            refine own_st (q' := T93.setTop (mkF m 96 #[.val (.int x0), .val (.int x1), .val (.int x2), .val (.int x3), .val (.int x4), .val (.int z5), .val (.int z6), .val (.int z7), .val (.ref b101), .val (.int (own_em (0 : Int32) (0 : Int32))), .val (.int (own_em (0 : Int32) ct)), .unset, .unset, .unset, .unset, .unset] [(.int (3 : Int32)), (.int z7)])) (fun _ k => XS.iconst X93.here hx rfl (hb hby at_95) k) ?_
            have j106 : ∀ (T106 : State) (h106 : Heap) (locs106 : List Loc) (X106 : Stand p l e room_1 s m #[(.int x0), (.int x1), (.int x2), (.int x3), (.int x4)] below meth c T106 locs106 2 11) (e106 : T106.heap = h106) (N106 : Fr n0 locs106) (Z106 : n0 ≤ h106.size) (s106 : Int32) (hs106 : s106 = if z7 < (3 : Int32) then s93 else s93 + (1 : Int32) + (1 : Int32)) (hs106I : 0 ≤ s106.toInt ∧ s106.toInt ≤ 6) (hB106 : own_B Z h106 n0 b101 r s106 ct), own_Dn p e below s (fun v h L => v = some (.int 1) ∧ Fr n0 L) room_1.cells room_1.slots (T106.setTop (mkF m 106 #[.val (.int x0), .val (.int x1), .val (.int x2), .val (.int x3), .val (.int x4), .val (.int z5), .val (.int z6), .val (.int z7), .val (.ref b101), .val (.int (own_em (0 : Int32) (0 : Int32))), .val (.int (own_em (0 : Int32) ct)), .unset, .unset, .unset, .unset, .unset] [])) := by
              intro T106 h106 locs106 X106 e106 N106 Z106 s106 hs106 hs106I hB106
              obtain ⟨o109E, o109R, o109S, o109C, ⟨o109x, o109l, o109V⟩, o109ga, o109gr, o109ne⟩ := hB106
              show own_Dn p e below s (fun v h L => v = some (.int 1) ∧ Fr n0 L) room_1.cells room_1.slots (T106.setTop (mkF m 106 #[.val (.int x0), .val (.int x1), .val (.int x2), .val (.int x3), .val (.int x4), .val (.int z5), .val (.int z6), .val (.int z7), .val (.ref b101), .val (.int (own_em (0 : Int32) (0 : Int32))), .val (.int (own_em (0 : Int32) ct)), .unset, .unset, .unset, .unset, .unset] []))
              refine own_st (q' := T106.setTop (mkF m 108 #[.val (.int x0), .val (.int x1), .val (.int x2), .val (.int x3), .val (.int x4), .val (.int z5), .val (.int z6), .val (.int z7), .val (.ref b101), .val (.int (own_em (0 : Int32) (0 : Int32))), .val (.int (own_em (0 : Int32) ct)), .unset, .unset, .unset, .unset, .unset] [(.int z6)])) (fun _ k => XS.iload X106.here hx rfl (hb hby at_106) rfl k) ?_
              have j118 : ∀ (T118 : State) (h118 : Heap) (locs118 : List Loc) (X118 : Stand p l e room_1 s m #[(.int x0), (.int x1), (.int x2), (.int x3), (.int x4)] below meth c T118 locs118 2 11) (e118 : T118.heap = h118) (N118 : Fr n0 locs118) (Z118 : n0 ≤ h118.size) (cu : Int32) (hcu : cu = if z6 = (0 : Int32) then ct else (ct ||| x4)) (hB118 : own_B Z h118 n0 b101 r s106 cu), own_Dn p e below s (fun v h L => v = some (.int 1) ∧ Fr n0 L) room_1.cells room_1.slots (T118.setTop (mkF m 118 #[.val (.int x0), .val (.int x1), .val (.int x2), .val (.int x3), .val (.int x4), .val (.int z5), .val (.int z6), .val (.int z7), .val (.ref b101), .val (.int (own_em (0 : Int32) (0 : Int32))), .val (.int (own_em (0 : Int32) ct)), .unset, .unset, .unset, .unset, .unset] [])) := by
                intro T118 h118 locs118 X118 e118 N118 Z118 cu hcu hB118
                obtain ⟨o110E, o110R, o110S, o110C, ⟨o110x, o110l, o110V⟩, o110ga, o110gr, o110ne⟩ := hB118
                show own_Dn p e below s (fun v h L => v = some (.int 1) ∧ Fr n0 L) room_1.cells room_1.slots (T118.setTop (mkF m 118 #[.val (.int x0), .val (.int x1), .val (.int x2), .val (.int x3), .val (.int x4), .val (.int z5), .val (.int z6), .val (.int z7), .val (.ref b101), .val (.int (own_em (0 : Int32) (0 : Int32))), .val (.int (own_em (0 : Int32) ct)), .unset, .unset, .unset, .unset, .unset] []))
                refine own_st (q' := T118.setTop (mkF m 120 #[.val (.int x0), .val (.int x1), .val (.int x2), .val (.int x3), .val (.int x4), .val (.int z5), .val (.int z6), .val (.int z7), .val (.ref b101), .val (.int (own_em (0 : Int32) (0 : Int32))), .val (.int (own_em (0 : Int32) ct)), .unset, .unset, .unset, .unset, .unset] [(.ref b101)])) (fun _ k => XS.aload X118.here hx rfl (hb hby at_118) rfl rfl k) ?_
                refine own_callV (y := (⟨"com/example/rehearsal/rehearsal/http/CodePointClass$Builder", "isEmpty", "()Z"⟩ : MethodName)) X118 hx hZ hown (hw _ (List.mem_of_getElem? (i := 12) rfl)) (hw _ (List.mem_of_getElem? (i := 13) rfl)) (hw _ (List.mem_of_getElem? (i := 15) rfl)) (hw _ (List.mem_of_getElem? (i := 14) rfl)) (hw _ (List.mem_of_getElem? (i := 2) rfl)) (hw _ (List.mem_of_getElem? (i := 16) rfl)) (by decide) (rmE l Z a0 hw [] b101 r s106 cu h118 n0 Z118 ⟨o110E, o110R, o110S, o110C, ⟨_, o110l, o110V⟩, o110ga, o110gr, o110ne⟩) e118 o110E (W := 0) (by decide) (by decide) (by decide) (by decide) (g := (mkF m 120 #[.val (.int x0), .val (.int x1), .val (.int x2), .val (.int x3), .val (.int x4), .val (.int z5), .val (.int z6), .val (.int z7), .val (.ref b101), .val (.int (own_em (0 : Int32) (0 : Int32))), .val (.int (own_em (0 : Int32) ct)), .unset, .unset, .unset, .unset, .unset] [(.ref b101)])) rfl (by rw [hml]; rfl) (argsL := []) (rest := []) rfl (lenOf pd_1 rfl) rfl (by show 2 * 0 + _ ≤ _; exact Nat.le_of_eq rfl) (hb hby at_120) ?_
                intro v111 T111 L111 hQ111 X111
                obtain ⟨rfl, NN111, e111⟩ := hQ111
                have N111 := Fr.app N118 NN111
                show own_Dn p e below s (fun v h L => v = some (.int 1) ∧ Fr n0 L) room_1.cells room_1.slots (T111.setTop (mkF m 123 #[.val (.int x0), .val (.int x1), .val (.int x2), .val (.int x3), .val (.int x4), .val (.int z5), .val (.int z6), .val (.int z7), .val (.ref b101), .val (.int (own_em (0 : Int32) (0 : Int32))), .val (.int (own_em (0 : Int32) ct)), .unset, .unset, .unset, .unset, .unset] [(.int (own_em s106 cu))]))
                refine own_st (q' := T111.setTop (mkF m 125 #[.val (.int x0), .val (.int x1), .val (.int x2), .val (.int x3), .val (.int x4), .val (.int z5), .val (.int z6), .val (.int z7), .val (.ref b101), .val (.int (own_em (0 : Int32) (0 : Int32))), .val (.int (own_em (0 : Int32) ct)), .val (.int (own_em s106 cu)), .unset, .unset, .unset, .unset] [])) (fun _ k => XS.istore X111.here hx rfl (hb hby at_123) rfl (l' := #[.val (.int x0), .val (.int x1), .val (.int x2), .val (.int x3), .val (.int x4), .val (.int z5), .val (.int z6), .val (.int z7), .val (.ref b101), .val (.int (own_em (0 : Int32) (0 : Int32))), .val (.int (own_em (0 : Int32) ct)), .val (.int (own_em s106 cu)), .unset, .unset, .unset, .unset]) rfl k) ?_
                refine own_st (q' := T111.setTop (mkF m 127 #[.val (.int x0), .val (.int x1), .val (.int x2), .val (.int x3), .val (.int x4), .val (.int z5), .val (.int z6), .val (.int z7), .val (.ref b101), .val (.int (own_em (0 : Int32) (0 : Int32))), .val (.int (own_em (0 : Int32) ct)), .val (.int (own_em s106 cu)), .unset, .unset, .unset, .unset] [(.int z5)])) (fun _ k => XS.iload X111.here hx rfl (hb hby at_125) rfl k) ?_
                have j135 : ∀ (y : Int32) (hy : y = if z5 = (0 : Int32) then 0 else x3), own_Dn p e below s (fun v h L => v = some (.int 1) ∧ Fr n0 L) room_1.cells room_1.slots (T111.setTop (mkF m 135 #[.val (.int x0), .val (.int x1), .val (.int x2), .val (.int x3), .val (.int x4), .val (.int z5), .val (.int z6), .val (.int z7), .val (.ref b101), .val (.int (own_em (0 : Int32) (0 : Int32))), .val (.int (own_em (0 : Int32) ct)), .val (.int (own_em s106 cu)), .unset, .unset, .unset, .unset] [(.int y)])) := by
                  intro y hy
                  refine own_st (q' := T111.setTop (mkF m 137 #[.val (.int x0), .val (.int x1), .val (.int x2), .val (.int x3), .val (.int x4), .val (.int z5), .val (.int z6), .val (.int z7), .val (.ref b101), .val (.int (own_em (0 : Int32) (0 : Int32))), .val (.int (own_em (0 : Int32) ct)), .val (.int (own_em s106 cu)), .val (.int y), .unset, .unset, .unset] [])) (fun _ k => XS.istore X111.here hx rfl (hb hby at_135) rfl (l' := #[.val (.int x0), .val (.int x1), .val (.int x2), .val (.int x3), .val (.int x4), .val (.int z5), .val (.int z6), .val (.int z7), .val (.ref b101), .val (.int (own_em (0 : Int32) (0 : Int32))), .val (.int (own_em (0 : Int32) ct)), .val (.int (own_em s106 cu)), .val (.int y), .unset, .unset, .unset]) rfl k) ?_
                  refine own_st (q' := T111.setTop (mkF m 139 #[.val (.int x0), .val (.int x1), .val (.int x2), .val (.int x3), .val (.int x4), .val (.int z5), .val (.int z6), .val (.int z7), .val (.ref b101), .val (.int (own_em (0 : Int32) (0 : Int32))), .val (.int (own_em (0 : Int32) ct)), .val (.int (own_em s106 cu)), .val (.int y), .unset, .unset, .unset] [(.int y)])) (fun _ k => XS.iload X111.here hx rfl (hb hby at_137) rfl k) ?_
                  refine own_st (q' := T111.setTop (mkF m 141 #[.val (.int x0), .val (.int x1), .val (.int x2), .val (.int x3), .val (.int x4), .val (.int z5), .val (.int z6), .val (.int z7), .val (.ref b101), .val (.int (own_em (0 : Int32) (0 : Int32))), .val (.int (own_em (0 : Int32) ct)), .val (.int (own_em s106 cu)), .val (.int y), .unset, .unset, .unset] [(.int z6), (.int y)])) (fun _ k => XS.iload X111.here hx rfl (hb hby at_139) rfl k) ?_
                  have j150 : ∀ (u : Int32) (hu : u = if z6 = (0 : Int32) then 0 else x4), own_Dn p e below s (fun v h L => v = some (.int 1) ∧ Fr n0 L) room_1.cells room_1.slots (T111.setTop (mkF m 150 #[.val (.int x0), .val (.int x1), .val (.int x2), .val (.int x3), .val (.int x4), .val (.int z5), .val (.int z6), .val (.int z7), .val (.ref b101), .val (.int (own_em (0 : Int32) (0 : Int32))), .val (.int (own_em (0 : Int32) ct)), .val (.int (own_em s106 cu)), .val (.int y), .unset, .unset, .unset] [(.int u), (.int y)])) := by
                    intro u hu
                    refine own_st (q' := T111.setTop (mkF m 151 #[.val (.int x0), .val (.int x1), .val (.int x2), .val (.int x3), .val (.int x4), .val (.int z5), .val (.int z6), .val (.int z7), .val (.ref b101), .val (.int (own_em (0 : Int32) (0 : Int32))), .val (.int (own_em (0 : Int32) ct)), .val (.int (own_em s106 cu)), .val (.int y), .unset, .unset, .unset] [(.int (y ||| u))])) (fun _ k => XS.ior X111.here hx rfl (hb hby at_150) rfl k) ?_
                    refine own_st (q' := T111.setTop (mkF m 153 #[.val (.int x0), .val (.int x1), .val (.int x2), .val (.int x3), .val (.int x4), .val (.int z5), .val (.int z6), .val (.int z7), .val (.ref b101), .val (.int (own_em (0 : Int32) (0 : Int32))), .val (.int (own_em (0 : Int32) ct)), .val (.int (own_em s106 cu)), .val (.int y), .val (.int (y ||| u)), .unset, .unset] [])) (fun _ k => XS.istore X111.here hx rfl (hb hby at_151) rfl (l' := #[.val (.int x0), .val (.int x1), .val (.int x2), .val (.int x3), .val (.int x4), .val (.int z5), .val (.int z6), .val (.int z7), .val (.ref b101), .val (.int (own_em (0 : Int32) (0 : Int32))), .val (.int (own_em (0 : Int32) ct)), .val (.int (own_em s106 cu)), .val (.int y), .val (.int (y ||| u)), .unset, .unset]) rfl k) ?_
                    refine own_st (q' := T111.setTop (mkF m 155 #[.val (.int x0), .val (.int x1), .val (.int x2), .val (.int x3), .val (.int x4), .val (.int z5), .val (.int z6), .val (.int z7), .val (.ref b101), .val (.int (own_em (0 : Int32) (0 : Int32))), .val (.int (own_em (0 : Int32) ct)), .val (.int (own_em s106 cu)), .val (.int y), .val (.int (y ||| u)), .unset, .unset] [(.int y)])) (fun _ k => XS.iload X111.here hx rfl (hb hby at_153) rfl k) ?_
                    have j163 : ∀ (q : Int32) (hq : q = if y = (0 : Int32) then 1 else 0), own_Dn p e below s (fun v h L => v = some (.int 1) ∧ Fr n0 L) room_1.cells room_1.slots (T111.setTop (mkF m 163 #[.val (.int x0), .val (.int x1), .val (.int x2), .val (.int x3), .val (.int x4), .val (.int z5), .val (.int z6), .val (.int z7), .val (.ref b101), .val (.int (own_em (0 : Int32) (0 : Int32))), .val (.int (own_em (0 : Int32) ct)), .val (.int (own_em s106 cu)), .val (.int y), .val (.int (y ||| u)), .unset, .unset] [(.int q)])) := by
                      intro q hq
                      refine own_st (q' := T111.setTop (mkF m 165 #[.val (.int x0), .val (.int x1), .val (.int x2), .val (.int x3), .val (.int x4), .val (.int z5), .val (.int z6), .val (.int z7), .val (.ref b101), .val (.int (own_em (0 : Int32) (0 : Int32))), .val (.int (own_em (0 : Int32) ct)), .val (.int (own_em s106 cu)), .val (.int y), .val (.int (y ||| u)), .val (.int q), .unset] [])) (fun _ k => XS.istore X111.here hx rfl (hb hby at_163) rfl (l' := #[.val (.int x0), .val (.int x1), .val (.int x2), .val (.int x3), .val (.int x4), .val (.int z5), .val (.int z6), .val (.int z7), .val (.ref b101), .val (.int (own_em (0 : Int32) (0 : Int32))), .val (.int (own_em (0 : Int32) ct)), .val (.int (own_em s106 cu)), .val (.int y), .val (.int (y ||| u)), .val (.int q), .unset]) rfl k) ?_
                      refine own_st (q' := T111.setTop (mkF m 167 #[.val (.int x0), .val (.int x1), .val (.int x2), .val (.int x3), .val (.int x4), .val (.int z5), .val (.int z6), .val (.int z7), .val (.ref b101), .val (.int (own_em (0 : Int32) (0 : Int32))), .val (.int (own_em (0 : Int32) ct)), .val (.int (own_em s106 cu)), .val (.int y), .val (.int (y ||| u)), .val (.int q), .unset] [(.int z7)])) (fun _ k => XS.iload X111.here hx rfl (hb hby at_165) rfl k) ?_
                      have j180 : ∀ (w : Int32) (hw' : w = if z7 = (0 : Int32) then (if y ||| u = (0 : Int32) then 1 else 0) else 0), own_Dn p e below s (fun v h L => v = some (.int 1) ∧ Fr n0 L) room_1.cells room_1.slots (T111.setTop (mkF m 180 #[.val (.int x0), .val (.int x1), .val (.int x2), .val (.int x3), .val (.int x4), .val (.int z5), .val (.int z6), .val (.int z7), .val (.ref b101), .val (.int (own_em (0 : Int32) (0 : Int32))), .val (.int (own_em (0 : Int32) ct)), .val (.int (own_em s106 cu)), .val (.int y), .val (.int (y ||| u)), .val (.int q), .unset] [(.int w)])) := by
                        intro w hw'
                        refine own_st (q' := T111.setTop (mkF m 182 #[.val (.int x0), .val (.int x1), .val (.int x2), .val (.int x3), .val (.int x4), .val (.int z5), .val (.int z6), .val (.int z7), .val (.ref b101), .val (.int (own_em (0 : Int32) (0 : Int32))), .val (.int (own_em (0 : Int32) ct)), .val (.int (own_em s106 cu)), .val (.int y), .val (.int (y ||| u)), .val (.int q), .val (.int w)] [])) (fun _ k => XS.istore X111.here hx rfl (hb hby at_180) rfl (l' := #[.val (.int x0), .val (.int x1), .val (.int x2), .val (.int x3), .val (.int x4), .val (.int z5), .val (.int z6), .val (.int z7), .val (.ref b101), .val (.int (own_em (0 : Int32) (0 : Int32))), .val (.int (own_em (0 : Int32) ct)), .val (.int (own_em s106 cu)), .val (.int y), .val (.int (y ||| u)), .val (.int q), .val (.int w)]) rfl k) ?_
                        refine own_st (q' := T111.setTop (mkF m 184 #[.val (.int x0), .val (.int x1), .val (.int x2), .val (.int x3), .val (.int x4), .val (.int z5), .val (.int z6), .val (.int z7), .val (.ref b101), .val (.int (own_em (0 : Int32) (0 : Int32))), .val (.int (own_em (0 : Int32) ct)), .val (.int (own_em s106 cu)), .val (.int y), .val (.int (y ||| u)), .val (.int q), .val (.int w)] [(.int (own_em (0 : Int32) (0 : Int32)))])) (fun _ k => XS.iload X111.here hx rfl (hb hby at_182) rfl k) ?_
                        refine own_st (q' := T111.setTop (mkF m 187 #[.val (.int x0), .val (.int x1), .val (.int x2), .val (.int x3), .val (.int x4), .val (.int z5), .val (.int z6), .val (.int z7), .val (.ref b101), .val (.int (own_em (0 : Int32) (0 : Int32))), .val (.int (own_em (0 : Int32) ct)), .val (.int (own_em s106 cu)), .val (.int y), .val (.int (y ||| u)), .val (.int q), .val (.int w)] [])) (fun _ k => XS.ifNo X111.here hx rfl (hb hby at_184) rfl ((if0 _ _).trans (feq (by decide)).1) k) ?_
                        refine own_st (q' := T111.setTop (mkF m 189 #[.val (.int x0), .val (.int x1), .val (.int x2), .val (.int x3), .val (.int x4), .val (.int z5), .val (.int z6), .val (.int z7), .val (.ref b101), .val (.int (own_em (0 : Int32) (0 : Int32))), .val (.int (own_em (0 : Int32) ct)), .val (.int (own_em s106 cu)), .val (.int y), .val (.int (y ||| u)), .val (.int q), .val (.int w)] [(.int (own_em (0 : Int32) ct))])) (fun _ k => XS.iload X111.here hx rfl (hb hby at_187) rfl k) ?_
                        refine own_st (q' := T111.setTop (mkF m 191 #[.val (.int x0), .val (.int x1), .val (.int x2), .val (.int x3), .val (.int x4), .val (.int z5), .val (.int z6), .val (.int z7), .val (.ref b101), .val (.int (own_em (0 : Int32) (0 : Int32))), .val (.int (own_em (0 : Int32) ct)), .val (.int (own_em s106 cu)), .val (.int y), .val (.int (y ||| u)), .val (.int q), .val (.int w)] [(.int q), (.int (own_em (0 : Int32) ct))])) (fun _ k => XS.iload X111.here hx rfl (hb hby at_189) rfl k) ?_
                        refine own_st (q' := T111.setTop (mkF m 194 #[.val (.int x0), .val (.int x1), .val (.int x2), .val (.int x3), .val (.int x4), .val (.int z5), .val (.int z6), .val (.int z7), .val (.ref b101), .val (.int (own_em (0 : Int32) (0 : Int32))), .val (.int (own_em (0 : Int32) ct)), .val (.int (own_em s106 cu)), .val (.int y), .val (.int (y ||| u)), .val (.int q), .val (.int w)] [])) (fun _ k => XS.icmpNo X111.here hx rfl (hb hby at_191) rfl (teq (by rw [hq, own_em, if_pos rfl, hy, ← hct])).2 k) ?_
                        refine own_st (q' := T111.setTop (mkF m 196 #[.val (.int x0), .val (.int x1), .val (.int x2), .val (.int x3), .val (.int x4), .val (.int z5), .val (.int z6), .val (.int z7), .val (.ref b101), .val (.int (own_em (0 : Int32) (0 : Int32))), .val (.int (own_em (0 : Int32) ct)), .val (.int (own_em s106 cu)), .val (.int y), .val (.int (y ||| u)), .val (.int q), .val (.int w)] [(.int (own_em s106 cu))])) (fun _ k => XS.iload X111.here hx rfl (hb hby at_194) rfl k) ?_
                        refine own_st (q' := T111.setTop (mkF m 198 #[.val (.int x0), .val (.int x1), .val (.int x2), .val (.int x3), .val (.int x4), .val (.int z5), .val (.int z6), .val (.int z7), .val (.ref b101), .val (.int (own_em (0 : Int32) (0 : Int32))), .val (.int (own_em (0 : Int32) ct)), .val (.int (own_em s106 cu)), .val (.int y), .val (.int (y ||| u)), .val (.int q), .val (.int w)] [(.int w), (.int (own_em s106 cu))])) (fun _ k => XS.iload X111.here hx rfl (hb hby at_196) rfl k) ?_
                        refine own_st (q' := T111.setTop (mkF m 201 #[.val (.int x0), .val (.int x1), .val (.int x2), .val (.int x3), .val (.int x4), .val (.int z5), .val (.int z6), .val (.int z7), .val (.ref b101), .val (.int (own_em (0 : Int32) (0 : Int32))), .val (.int (own_em (0 : Int32) ct)), .val (.int (own_em s106 cu)), .val (.int y), .val (.int (y ||| u)), .val (.int q), .val (.int w)] [])) (fun _ k => XS.icmpNo X111.here hx rfl (hb hby at_198) rfl (teq (by rw [hw']; exact own_e2 b7 hs80 hs93 hs106 hct hcu hy hu)).2 k) ?_
                        refine own_st (q' := T111.setTop (mkF m 202 #[.val (.int x0), .val (.int x1), .val (.int x2), .val (.int x3), .val (.int x4), .val (.int z5), .val (.int z6), .val (.int z7), .val (.ref b101), .val (.int (own_em (0 : Int32) (0 : Int32))), .val (.int (own_em (0 : Int32) ct)), .val (.int (own_em s106 cu)), .val (.int y), .val (.int (y ||| u)), .val (.int q), .val (.int w)] [(.int (1 : Int32))])) (fun _ k => XS.iconst X111.here hx rfl (hb hby at_201) k) ?_
                        refine own_st (q' := T111.setTop (mkF m 206 #[.val (.int x0), .val (.int x1), .val (.int x2), .val (.int x3), .val (.int x4), .val (.int z5), .val (.int z6), .val (.int z7), .val (.ref b101), .val (.int (own_em (0 : Int32) (0 : Int32))), .val (.int (own_em (0 : Int32) ct)), .val (.int (own_em s106 cu)), .val (.int y), .val (.int (y ||| u)), .val (.int q), .val (.int w)] [(.int (1 : Int32))])) (fun _ k => XS.goto X111.here hx rfl (pc0 := 202) (pc' := 206) rfl (hb hby at_202) (by decide) (by decide) k) ?_
                        exact own_retN X111 hx hlk (t := .boolean) hret (by simp) (hb hby at_206) e111 (by exact ⟨rfl, N111⟩) (by decide) (by decide)
                      by_cases hc167_112 : z7 = (0 : Int32)
                      · skip
                        have hc167_112I : (z7).toInt = (0 : Int) := own_eqT hc167_112
                        refine own_st (q' := T111.setTop (mkF m 170 #[.val (.int x0), .val (.int x1), .val (.int x2), .val (.int x3), .val (.int x4), .val (.int z5), .val (.int z6), .val (.int z7), .val (.ref b101), .val (.int (own_em (0 : Int32) (0 : Int32))), .val (.int (own_em (0 : Int32) ct)), .val (.int (own_em s106 cu)), .val (.int y), .val (.int (y ||| u)), .val (.int q), .unset] [])) (fun _ k => XS.ifNo X111.here hx rfl (hb hby at_167) rfl ((if0 _ _).trans (teq hc167_112).2) k) ?_
                        refine own_st (q' := T111.setTop (mkF m 172 #[.val (.int x0), .val (.int x1), .val (.int x2), .val (.int x3), .val (.int x4), .val (.int z5), .val (.int z6), .val (.int z7), .val (.ref b101), .val (.int (own_em (0 : Int32) (0 : Int32))), .val (.int (own_em (0 : Int32) ct)), .val (.int (own_em s106 cu)), .val (.int y), .val (.int (y ||| u)), .val (.int q), .unset] [(.int (y ||| u))])) (fun _ k => XS.iload X111.here hx rfl (hb hby at_170) rfl k) ?_
                        by_cases hc172_113 : (y ||| u) = (0 : Int32)
                        · skip
                          have hc172_113I : ((y ||| u)).toInt = (0 : Int) := own_eqT hc172_113
                          refine own_st (q' := T111.setTop (mkF m 175 #[.val (.int x0), .val (.int x1), .val (.int x2), .val (.int x3), .val (.int x4), .val (.int z5), .val (.int z6), .val (.int z7), .val (.ref b101), .val (.int (own_em (0 : Int32) (0 : Int32))), .val (.int (own_em (0 : Int32) ct)), .val (.int (own_em s106 cu)), .val (.int y), .val (.int (y ||| u)), .val (.int q), .unset] [])) (fun _ k => XS.ifNo X111.here hx rfl (hb hby at_172) rfl ((if0 _ _).trans (teq hc172_113).2) k) ?_
                          refine own_st (q' := T111.setTop (mkF m 176 #[.val (.int x0), .val (.int x1), .val (.int x2), .val (.int x3), .val (.int x4), .val (.int z5), .val (.int z6), .val (.int z7), .val (.ref b101), .val (.int (own_em (0 : Int32) (0 : Int32))), .val (.int (own_em (0 : Int32) ct)), .val (.int (own_em s106 cu)), .val (.int y), .val (.int (y ||| u)), .val (.int q), .unset] [(.int (1 : Int32))])) (fun _ k => XS.iconst X111.here hx rfl (hb hby at_175) k) ?_
                          refine own_st (q' := T111.setTop (mkF m 180 #[.val (.int x0), .val (.int x1), .val (.int x2), .val (.int x3), .val (.int x4), .val (.int z5), .val (.int z6), .val (.int z7), .val (.ref b101), .val (.int (own_em (0 : Int32) (0 : Int32))), .val (.int (own_em (0 : Int32) ct)), .val (.int (own_em s106 cu)), .val (.int y), .val (.int (y ||| u)), .val (.int q), .unset] [(.int (1 : Int32))])) (fun _ k => XS.goto X111.here hx rfl (pc0 := 176) (pc' := 180) rfl (hb hby at_176) (by decide) (by decide) k) ?_
                          exact j180 (1 : Int32) (by rw [if_pos hc167_112, if_pos hc172_113])
                        · skip
                          have hc172_113I : ¬ ((y ||| u)).toInt = (0 : Int) := own_eqF hc172_113
                          refine own_st (q' := T111.setTop (mkF m 179 #[.val (.int x0), .val (.int x1), .val (.int x2), .val (.int x3), .val (.int x4), .val (.int z5), .val (.int z6), .val (.int z7), .val (.ref b101), .val (.int (own_em (0 : Int32) (0 : Int32))), .val (.int (own_em (0 : Int32) ct)), .val (.int (own_em s106 cu)), .val (.int y), .val (.int (y ||| u)), .val (.int q), .unset] [])) (fun _ k => XS.ifYes X111.here hx rfl (pc0 := 172) (pc' := 179) rfl (hb hby at_172) rfl ((if0 _ _).trans (feq hc172_113).2) (by decide) (by decide) k) ?_
                          refine own_st (q' := T111.setTop (mkF m 180 #[.val (.int x0), .val (.int x1), .val (.int x2), .val (.int x3), .val (.int x4), .val (.int z5), .val (.int z6), .val (.int z7), .val (.ref b101), .val (.int (own_em (0 : Int32) (0 : Int32))), .val (.int (own_em (0 : Int32) ct)), .val (.int (own_em s106 cu)), .val (.int y), .val (.int (y ||| u)), .val (.int q), .unset] [(.int (0 : Int32))])) (fun _ k => XS.iconst X111.here hx rfl (hb hby at_179) k) ?_
                          exact j180 (0 : Int32) (by rw [if_pos hc167_112, if_neg hc172_113])
                      · skip
                        have hc167_112I : ¬ (z7).toInt = (0 : Int) := own_eqF hc167_112
                        refine own_st (q' := T111.setTop (mkF m 179 #[.val (.int x0), .val (.int x1), .val (.int x2), .val (.int x3), .val (.int x4), .val (.int z5), .val (.int z6), .val (.int z7), .val (.ref b101), .val (.int (own_em (0 : Int32) (0 : Int32))), .val (.int (own_em (0 : Int32) ct)), .val (.int (own_em s106 cu)), .val (.int y), .val (.int (y ||| u)), .val (.int q), .unset] [])) (fun _ k => XS.ifYes X111.here hx rfl (pc0 := 167) (pc' := 179) rfl (hb hby at_167) rfl ((if0 _ _).trans (feq hc167_112).2) (by decide) (by decide) k) ?_
                        refine own_st (q' := T111.setTop (mkF m 180 #[.val (.int x0), .val (.int x1), .val (.int x2), .val (.int x3), .val (.int x4), .val (.int z5), .val (.int z6), .val (.int z7), .val (.ref b101), .val (.int (own_em (0 : Int32) (0 : Int32))), .val (.int (own_em (0 : Int32) ct)), .val (.int (own_em s106 cu)), .val (.int y), .val (.int (y ||| u)), .val (.int q), .unset] [(.int (0 : Int32))])) (fun _ k => XS.iconst X111.here hx rfl (hb hby at_179) k) ?_
                        exact j180 (0 : Int32) (by rw [if_neg hc167_112])
                    by_cases hc155_114 : y = (0 : Int32)
                    · skip
                      have hc155_114I : (y).toInt = (0 : Int) := own_eqT hc155_114
                      refine own_st (q' := T111.setTop (mkF m 158 #[.val (.int x0), .val (.int x1), .val (.int x2), .val (.int x3), .val (.int x4), .val (.int z5), .val (.int z6), .val (.int z7), .val (.ref b101), .val (.int (own_em (0 : Int32) (0 : Int32))), .val (.int (own_em (0 : Int32) ct)), .val (.int (own_em s106 cu)), .val (.int y), .val (.int (y ||| u)), .unset, .unset] [])) (fun _ k => XS.ifNo X111.here hx rfl (hb hby at_155) rfl ((if0 _ _).trans (teq hc155_114).2) k) ?_
                      refine own_st (q' := T111.setTop (mkF m 159 #[.val (.int x0), .val (.int x1), .val (.int x2), .val (.int x3), .val (.int x4), .val (.int z5), .val (.int z6), .val (.int z7), .val (.ref b101), .val (.int (own_em (0 : Int32) (0 : Int32))), .val (.int (own_em (0 : Int32) ct)), .val (.int (own_em s106 cu)), .val (.int y), .val (.int (y ||| u)), .unset, .unset] [(.int (1 : Int32))])) (fun _ k => XS.iconst X111.here hx rfl (hb hby at_158) k) ?_
                      refine own_st (q' := T111.setTop (mkF m 163 #[.val (.int x0), .val (.int x1), .val (.int x2), .val (.int x3), .val (.int x4), .val (.int z5), .val (.int z6), .val (.int z7), .val (.ref b101), .val (.int (own_em (0 : Int32) (0 : Int32))), .val (.int (own_em (0 : Int32) ct)), .val (.int (own_em s106 cu)), .val (.int y), .val (.int (y ||| u)), .unset, .unset] [(.int (1 : Int32))])) (fun _ k => XS.goto X111.here hx rfl (pc0 := 159) (pc' := 163) rfl (hb hby at_159) (by decide) (by decide) k) ?_
                      exact j163 (1 : Int32) (by rw [if_pos hc155_114])
                    · skip
                      have hc155_114I : ¬ (y).toInt = (0 : Int) := own_eqF hc155_114
                      refine own_st (q' := T111.setTop (mkF m 162 #[.val (.int x0), .val (.int x1), .val (.int x2), .val (.int x3), .val (.int x4), .val (.int z5), .val (.int z6), .val (.int z7), .val (.ref b101), .val (.int (own_em (0 : Int32) (0 : Int32))), .val (.int (own_em (0 : Int32) ct)), .val (.int (own_em s106 cu)), .val (.int y), .val (.int (y ||| u)), .unset, .unset] [])) (fun _ k => XS.ifYes X111.here hx rfl (pc0 := 155) (pc' := 162) rfl (hb hby at_155) rfl ((if0 _ _).trans (feq hc155_114).2) (by decide) (by decide) k) ?_
                      refine own_st (q' := T111.setTop (mkF m 163 #[.val (.int x0), .val (.int x1), .val (.int x2), .val (.int x3), .val (.int x4), .val (.int z5), .val (.int z6), .val (.int z7), .val (.ref b101), .val (.int (own_em (0 : Int32) (0 : Int32))), .val (.int (own_em (0 : Int32) ct)), .val (.int (own_em s106 cu)), .val (.int y), .val (.int (y ||| u)), .unset, .unset] [(.int (0 : Int32))])) (fun _ k => XS.iconst X111.here hx rfl (hb hby at_162) k) ?_
                      exact j163 (0 : Int32) (by rw [if_neg hc155_114])
                  by_cases hc141_115 : z6 = (0 : Int32)
                  · skip
                    have hc141_115I : (z6).toInt = (0 : Int) := own_eqT hc141_115
                    refine own_st (q' := T111.setTop (mkF m 149 #[.val (.int x0), .val (.int x1), .val (.int x2), .val (.int x3), .val (.int x4), .val (.int z5), .val (.int z6), .val (.int z7), .val (.ref b101), .val (.int (own_em (0 : Int32) (0 : Int32))), .val (.int (own_em (0 : Int32) ct)), .val (.int (own_em s106 cu)), .val (.int y), .unset, .unset, .unset] [(.int y)])) (fun _ k => XS.ifYes X111.here hx rfl (pc0 := 141) (pc' := 149) rfl (hb hby at_141) rfl ((if0 _ _).trans (teq hc141_115).1) (by decide) (by decide) k) ?_
                    refine own_st (q' := T111.setTop (mkF m 150 #[.val (.int x0), .val (.int x1), .val (.int x2), .val (.int x3), .val (.int x4), .val (.int z5), .val (.int z6), .val (.int z7), .val (.ref b101), .val (.int (own_em (0 : Int32) (0 : Int32))), .val (.int (own_em (0 : Int32) ct)), .val (.int (own_em s106 cu)), .val (.int y), .unset, .unset, .unset] [(.int (0 : Int32)), (.int y)])) (fun _ k => XS.iconst X111.here hx rfl (hb hby at_149) k) ?_
                    exact j150 (0 : Int32) (by rw [if_pos hc141_115])
                  · skip
                    have hc141_115I : ¬ (z6).toInt = (0 : Int) := own_eqF hc141_115
                    refine own_st (q' := T111.setTop (mkF m 144 #[.val (.int x0), .val (.int x1), .val (.int x2), .val (.int x3), .val (.int x4), .val (.int z5), .val (.int z6), .val (.int z7), .val (.ref b101), .val (.int (own_em (0 : Int32) (0 : Int32))), .val (.int (own_em (0 : Int32) ct)), .val (.int (own_em s106 cu)), .val (.int y), .unset, .unset, .unset] [(.int y)])) (fun _ k => XS.ifNo X111.here hx rfl (hb hby at_141) rfl ((if0 _ _).trans (feq hc141_115).1) k) ?_
                    refine own_st (q' := T111.setTop (mkF m 146 #[.val (.int x0), .val (.int x1), .val (.int x2), .val (.int x3), .val (.int x4), .val (.int z5), .val (.int z6), .val (.int z7), .val (.ref b101), .val (.int (own_em (0 : Int32) (0 : Int32))), .val (.int (own_em (0 : Int32) ct)), .val (.int (own_em s106 cu)), .val (.int y), .unset, .unset, .unset] [(.int x4), (.int y)])) (fun _ k => XS.iload X111.here hx rfl (hb hby at_144) rfl k) ?_
                    refine own_st (q' := T111.setTop (mkF m 150 #[.val (.int x0), .val (.int x1), .val (.int x2), .val (.int x3), .val (.int x4), .val (.int z5), .val (.int z6), .val (.int z7), .val (.ref b101), .val (.int (own_em (0 : Int32) (0 : Int32))), .val (.int (own_em (0 : Int32) ct)), .val (.int (own_em s106 cu)), .val (.int y), .unset, .unset, .unset] [(.int x4), (.int y)])) (fun _ k => XS.goto X111.here hx rfl (pc0 := 146) (pc' := 150) rfl (hb hby at_146) (by decide) (by decide) k) ?_
                    exact j150 x4 (by rw [if_neg hc141_115])
                by_cases hc127_116 : z5 = (0 : Int32)
                · skip
                  have hc127_116I : (z5).toInt = (0 : Int) := own_eqT hc127_116
                  refine own_st (q' := T111.setTop (mkF m 134 #[.val (.int x0), .val (.int x1), .val (.int x2), .val (.int x3), .val (.int x4), .val (.int z5), .val (.int z6), .val (.int z7), .val (.ref b101), .val (.int (own_em (0 : Int32) (0 : Int32))), .val (.int (own_em (0 : Int32) ct)), .val (.int (own_em s106 cu)), .unset, .unset, .unset, .unset] [])) (fun _ k => XS.ifYes X111.here hx rfl (pc0 := 127) (pc' := 134) rfl (hb hby at_127) rfl ((if0 _ _).trans (teq hc127_116).1) (by decide) (by decide) k) ?_
                  refine own_st (q' := T111.setTop (mkF m 135 #[.val (.int x0), .val (.int x1), .val (.int x2), .val (.int x3), .val (.int x4), .val (.int z5), .val (.int z6), .val (.int z7), .val (.ref b101), .val (.int (own_em (0 : Int32) (0 : Int32))), .val (.int (own_em (0 : Int32) ct)), .val (.int (own_em s106 cu)), .unset, .unset, .unset, .unset] [(.int (0 : Int32))])) (fun _ k => XS.iconst X111.here hx rfl (hb hby at_134) k) ?_
                  exact j135 (0 : Int32) (by rw [if_pos hc127_116])
                · skip
                  have hc127_116I : ¬ (z5).toInt = (0 : Int) := own_eqF hc127_116
                  refine own_st (q' := T111.setTop (mkF m 130 #[.val (.int x0), .val (.int x1), .val (.int x2), .val (.int x3), .val (.int x4), .val (.int z5), .val (.int z6), .val (.int z7), .val (.ref b101), .val (.int (own_em (0 : Int32) (0 : Int32))), .val (.int (own_em (0 : Int32) ct)), .val (.int (own_em s106 cu)), .unset, .unset, .unset, .unset] [])) (fun _ k => XS.ifNo X111.here hx rfl (hb hby at_127) rfl ((if0 _ _).trans (feq hc127_116).1) k) ?_
                  refine own_st (q' := T111.setTop (mkF m 131 #[.val (.int x0), .val (.int x1), .val (.int x2), .val (.int x3), .val (.int x4), .val (.int z5), .val (.int z6), .val (.int z7), .val (.ref b101), .val (.int (own_em (0 : Int32) (0 : Int32))), .val (.int (own_em (0 : Int32) ct)), .val (.int (own_em s106 cu)), .unset, .unset, .unset, .unset] [(.int x3)])) (fun _ k => XS.iloadN X111.here hx rfl (hb hby at_130) rfl k) ?_
                  refine own_st (q' := T111.setTop (mkF m 135 #[.val (.int x0), .val (.int x1), .val (.int x2), .val (.int x3), .val (.int x4), .val (.int z5), .val (.int z6), .val (.int z7), .val (.ref b101), .val (.int (own_em (0 : Int32) (0 : Int32))), .val (.int (own_em (0 : Int32) ct)), .val (.int (own_em s106 cu)), .unset, .unset, .unset, .unset] [(.int x3)])) (fun _ k => XS.goto X111.here hx rfl (pc0 := 131) (pc' := 135) rfl (hb hby at_131) (by decide) (by decide) k) ?_
                  exact j135 x3 (by rw [if_neg hc127_116])
              by_cases hc108_117 : z6 = (0 : Int32)
              · skip
                have hc108_117I : (z6).toInt = (0 : Int) := own_eqT hc108_117
                refine own_st (q' := T106.setTop (mkF m 118 #[.val (.int x0), .val (.int x1), .val (.int x2), .val (.int x3), .val (.int x4), .val (.int z5), .val (.int z6), .val (.int z7), .val (.ref b101), .val (.int (own_em (0 : Int32) (0 : Int32))), .val (.int (own_em (0 : Int32) ct)), .unset, .unset, .unset, .unset, .unset] [])) (fun _ k => XS.ifYes X106.here hx rfl (pc0 := 108) (pc' := 118) rfl (hb hby at_108) rfl ((if0 _ _).trans (teq hc108_117).1) (by decide) (by decide) k) ?_
                exact j118 T106 h106 _ X106 e106 N106 Z106 ct (by rw [if_pos hc108_117]) ⟨o109E, o109R, o109S, o109C, ⟨_, o109l, o109V⟩, o109ga, o109gr, o109ne⟩
              · skip
                have hc108_117I : ¬ (z6).toInt = (0 : Int) := own_eqF hc108_117
                refine own_st (q' := T106.setTop (mkF m 111 #[.val (.int x0), .val (.int x1), .val (.int x2), .val (.int x3), .val (.int x4), .val (.int z5), .val (.int z6), .val (.int z7), .val (.ref b101), .val (.int (own_em (0 : Int32) (0 : Int32))), .val (.int (own_em (0 : Int32) ct)), .unset, .unset, .unset, .unset, .unset] [])) (fun _ k => XS.ifNo X106.here hx rfl (hb hby at_108) rfl ((if0 _ _).trans (feq hc108_117).1) k) ?_
                refine own_st (q' := T106.setTop (mkF m 113 #[.val (.int x0), .val (.int x1), .val (.int x2), .val (.int x3), .val (.int x4), .val (.int z5), .val (.int z6), .val (.int z7), .val (.ref b101), .val (.int (own_em (0 : Int32) (0 : Int32))), .val (.int (own_em (0 : Int32) ct)), .unset, .unset, .unset, .unset, .unset] [(.ref b101)])) (fun _ k => XS.aload X106.here hx rfl (hb hby at_111) rfl rfl k) ?_
                refine own_st (q' := T106.setTop (mkF m 115 #[.val (.int x0), .val (.int x1), .val (.int x2), .val (.int x3), .val (.int x4), .val (.int z5), .val (.int z6), .val (.int z7), .val (.ref b101), .val (.int (own_em (0 : Int32) (0 : Int32))), .val (.int (own_em (0 : Int32) ct)), .unset, .unset, .unset, .unset, .unset] [(.int x4), (.ref b101)])) (fun _ k => XS.iload X106.here hx rfl (hb hby at_113) rfl k) ?_
                refine own_callV (y := (⟨"com/example/rehearsal/rehearsal/http/CodePointClass$Builder", "addCategories", "(I)V"⟩ : MethodName)) X106 hx hZ hown (hw _ (List.mem_of_getElem? (i := 21) rfl)) (hw _ (List.mem_of_getElem? (i := 22) rfl)) (hw _ (List.mem_of_getElem? (i := 24) rfl)) (hw _ (List.mem_of_getElem? (i := 23) rfl)) (hw _ (List.mem_of_getElem? (i := 2) rfl)) (hw _ (List.mem_of_getElem? (i := 25) rfl)) (by decide) (rmC l Z a0 hw [] b101 r s106 ct x4 h106 n0 Z106 ⟨o109E, o109R, o109S, o109C, ⟨_, o109l, o109V⟩, o109ga, o109gr, o109ne⟩) e106 o109E (W := 0) (by decide) (by decide) (by decide) (by decide) (g := (mkF m 115 #[.val (.int x0), .val (.int x1), .val (.int x2), .val (.int x3), .val (.int x4), .val (.int z5), .val (.int z6), .val (.int z7), .val (.ref b101), .val (.int (own_em (0 : Int32) (0 : Int32))), .val (.int (own_em (0 : Int32) ct)), .unset, .unset, .unset, .unset, .unset] [(.int x4), (.ref b101)])) rfl (by rw [hml]; rfl) (argsL := [(.int x4)]) (rest := []) rfl (lenOf pd_2 rfl) rfl (by show 2 * 0 + _ ≤ _; exact Nat.le_of_eq rfl) (hb hby at_115) ?_
                intro v118 T118 L118 hQ118 X118
                obtain ⟨rfl, NN118, KK118, hB118⟩ := hQ118
                have N118 := Fr.app N106 NN118
                obtain ⟨o119E, o119R, o119S, o119C, ⟨o119x, o119l, o119V⟩, o119ga, o119gr, o119ne⟩ := hB118
                show own_Dn p e below s (fun v h L => v = some (.int 1) ∧ Fr n0 L) room_1.cells room_1.slots (T118.setTop (mkF m 118 #[.val (.int x0), .val (.int x1), .val (.int x2), .val (.int x3), .val (.int x4), .val (.int z5), .val (.int z6), .val (.int z7), .val (.ref b101), .val (.int (own_em (0 : Int32) (0 : Int32))), .val (.int (own_em (0 : Int32) ct)), .unset, .unset, .unset, .unset, .unset] []))
                exact j118 T118 T118.heap _ X118 (rfl : T118.heap = T118.heap) N118 (Nat.le_trans Z106 KK118.1) (ct ||| x4) (by rw [if_neg hc108_117]) ⟨o119E, o119R, o119S, o119C, ⟨_, o119l, o119V⟩, o119ga, o119gr, o119ne⟩
            by_cases hc96_120 : z7 < (3 : Int32)
            · skip
              have hc96_120I : (z7).toInt < (3 : Int) := own_ltT hc96_120
              refine own_st (q' := T93.setTop (mkF m 106 #[.val (.int x0), .val (.int x1), .val (.int x2), .val (.int x3), .val (.int x4), .val (.int z5), .val (.int z6), .val (.int z7), .val (.ref b101), .val (.int (own_em (0 : Int32) (0 : Int32))), .val (.int (own_em (0 : Int32) ct)), .unset, .unset, .unset, .unset, .unset] [])) (fun _ k => XS.icmpYes X93.here hx rfl (pc0 := 96) (pc' := 106) rfl (hb hby at_96) rfl (tlt hc96_120).1 (by decide) (by decide) k) ?_
              exact j106 T93 h93 _ X93 e93 N93 Z93 s93 (by rw [if_pos hc96_120]) (by have l1 : (1 : Int32).toInt = 1 := rfl; have l0 : (0 : Int32).toInt = 0 := rfl; have := c_iadd s93 1; have := c_iadd (s93 + 1) 1; have := rng32 (s93 + 1); have := rng32 (s93 + 1 + 1); omega) ⟨o108E, o108R, o108S, o108C, ⟨_, o108l, o108V⟩, o108ga, o108gr, o108ne⟩
            · skip
              have hc96_120I : (3 : Int) ≤ (z7).toInt := own_ltF hc96_120
              refine own_st (q' := T93.setTop (mkF m 99 #[.val (.int x0), .val (.int x1), .val (.int x2), .val (.int x3), .val (.int x4), .val (.int z5), .val (.int z6), .val (.int z7), .val (.ref b101), .val (.int (own_em (0 : Int32) (0 : Int32))), .val (.int (own_em (0 : Int32) ct)), .unset, .unset, .unset, .unset, .unset] [])) (fun _ k => XS.icmpNo X93.here hx rfl (hb hby at_96) rfl (flt hc96_120).1 k) ?_
              refine own_st (q' := T93.setTop (mkF m 101 #[.val (.int x0), .val (.int x1), .val (.int x2), .val (.int x3), .val (.int x4), .val (.int z5), .val (.int z6), .val (.int z7), .val (.ref b101), .val (.int (own_em (0 : Int32) (0 : Int32))), .val (.int (own_em (0 : Int32) ct)), .unset, .unset, .unset, .unset, .unset] [(.ref b101)])) (fun _ k => XS.aload X93.here hx rfl (hb hby at_99) rfl rfl k) ?_
              refine own_st (q' := T93.setTop (mkF m 102 #[.val (.int x0), .val (.int x1), .val (.int x2), .val (.int x3), .val (.int x4), .val (.int z5), .val (.int z6), .val (.int z7), .val (.ref b101), .val (.int (own_em (0 : Int32) (0 : Int32))), .val (.int (own_em (0 : Int32) ct)), .unset, .unset, .unset, .unset, .unset] [(.int x1), (.ref b101)])) (fun _ k => XS.iloadN X93.here hx rfl (hb hby at_101) rfl k) ?_
              refine own_st (q' := T93.setTop (mkF m 103 #[.val (.int x0), .val (.int x1), .val (.int x2), .val (.int x3), .val (.int x4), .val (.int z5), .val (.int z6), .val (.int z7), .val (.ref b101), .val (.int (own_em (0 : Int32) (0 : Int32))), .val (.int (own_em (0 : Int32) ct)), .unset, .unset, .unset, .unset, .unset] [(.int x1), (.int x1), (.ref b101)])) (fun _ k => XS.iloadN X93.here hx rfl (hb hby at_102) rfl k) ?_
              refine own_callV (y := (⟨"com/example/rehearsal/rehearsal/http/CodePointClass$Builder", "addRange", "(II)V"⟩ : MethodName)) X93 hx hZ hown (hw _ (List.mem_of_getElem? (i := 26) rfl)) (hw _ (List.mem_of_getElem? (i := 27) rfl)) (hw _ (List.mem_of_getElem? (i := 29) rfl)) (hw _ (List.mem_of_getElem? (i := 28) rfl)) (hw _ (List.mem_of_getElem? (i := 2) rfl)) (hw _ (List.mem_of_getElem? (i := 30) rfl)) (by decide) (rmR l Z a0 hw [] b101 r s93 ct x1 x1 h93 n0 Z93 ⟨o108E, o108R, o108S, o108C, ⟨_, o108l, o108V⟩, o108ga, o108gr, o108ne⟩ (by omega) (by omega)) e93 o108E (W := 0) (by decide) (by decide) (by decide) (by decide) (g := (mkF m 103 #[.val (.int x0), .val (.int x1), .val (.int x2), .val (.int x3), .val (.int x4), .val (.int z5), .val (.int z6), .val (.int z7), .val (.ref b101), .val (.int (own_em (0 : Int32) (0 : Int32))), .val (.int (own_em (0 : Int32) ct)), .unset, .unset, .unset, .unset, .unset] [(.int x1), (.int x1), (.ref b101)])) rfl (by rw [hml]; rfl) (argsL := [(.int x1), (.int x1)]) (rest := []) rfl (lenOf pd_3 rfl) rfl (by show 2 * 0 + _ ≤ _; exact Nat.le_of_eq rfl) (hb hby at_103) ?_
              intro v121 T121 L121 hQ121 X121
              obtain ⟨rfl, NN121, KK121, hB121⟩ := hQ121
              have N121 := Fr.app N93 NN121
              obtain ⟨o122E, o122R, o122S, o122C, ⟨o122x, o122l, o122V⟩, o122ga, o122gr, o122ne⟩ := hB121
              show own_Dn p e below s (fun v h L => v = some (.int 1) ∧ Fr n0 L) room_1.cells room_1.slots (T121.setTop (mkF m 106 #[.val (.int x0), .val (.int x1), .val (.int x2), .val (.int x3), .val (.int x4), .val (.int z5), .val (.int z6), .val (.int z7), .val (.ref b101), .val (.int (own_em (0 : Int32) (0 : Int32))), .val (.int (own_em (0 : Int32) ct)), .unset, .unset, .unset, .unset, .unset] []))
              exact j106 T121 T121.heap _ X121 (rfl : T121.heap = T121.heap) N121 (Nat.le_trans Z93 KK121.1) (s93 + (1 : Int32) + (1 : Int32)) (by rw [if_neg hc96_120]) (by have l1 : (1 : Int32).toInt = 1 := rfl; have l0 : (0 : Int32).toInt = 0 := rfl; have := c_iadd s93 1; have := c_iadd (s93 + 1) 1; have := rng32 (s93 + 1); have := rng32 (s93 + 1 + 1); omega) ⟨o122E, o122R, o122S, o122C, ⟨_, o122l, o122V⟩, o122ga, o122gr, o122ne⟩
          by_cases hc83_123 : z7 < (2 : Int32)
          · skip
            have hc83_123I : (z7).toInt < (2 : Int) := own_ltT hc83_123
            refine own_st (q' := T80.setTop (mkF m 93 #[.val (.int x0), .val (.int x1), .val (.int x2), .val (.int x3), .val (.int x4), .val (.int z5), .val (.int z6), .val (.int z7), .val (.ref b101), .val (.int (own_em (0 : Int32) (0 : Int32))), .val (.int (own_em (0 : Int32) ct)), .unset, .unset, .unset, .unset, .unset] [])) (fun _ k => XS.icmpYes X80.here hx rfl (pc0 := 83) (pc' := 93) rfl (hb hby at_83) rfl (tlt hc83_123).1 (by decide) (by decide) k) ?_
            exact j93 T80 h80 _ X80 e80 N80 Z80 s80 (by rw [if_pos hc83_123]) (by have l1 : (1 : Int32).toInt = 1 := rfl; have l0 : (0 : Int32).toInt = 0 := rfl; have := c_iadd s80 1; have := c_iadd (s80 + 1) 1; have := rng32 (s80 + 1); have := rng32 (s80 + 1 + 1); omega) ⟨o107E, o107R, o107S, o107C, ⟨_, o107l, o107V⟩, o107ga, o107gr, o107ne⟩
          · skip
            have hc83_123I : (2 : Int) ≤ (z7).toInt := own_ltF hc83_123
            refine own_st (q' := T80.setTop (mkF m 86 #[.val (.int x0), .val (.int x1), .val (.int x2), .val (.int x3), .val (.int x4), .val (.int z5), .val (.int z6), .val (.int z7), .val (.ref b101), .val (.int (own_em (0 : Int32) (0 : Int32))), .val (.int (own_em (0 : Int32) ct)), .unset, .unset, .unset, .unset, .unset] [])) (fun _ k => XS.icmpNo X80.here hx rfl (hb hby at_83) rfl (flt hc83_123).1 k) ?_
            refine own_st (q' := T80.setTop (mkF m 88 #[.val (.int x0), .val (.int x1), .val (.int x2), .val (.int x3), .val (.int x4), .val (.int z5), .val (.int z6), .val (.int z7), .val (.ref b101), .val (.int (own_em (0 : Int32) (0 : Int32))), .val (.int (own_em (0 : Int32) ct)), .unset, .unset, .unset, .unset, .unset] [(.ref b101)])) (fun _ k => XS.aload X80.here hx rfl (hb hby at_86) rfl rfl k) ?_
            refine own_st (q' := T80.setTop (mkF m 89 #[.val (.int x0), .val (.int x1), .val (.int x2), .val (.int x3), .val (.int x4), .val (.int z5), .val (.int z6), .val (.int z7), .val (.ref b101), .val (.int (own_em (0 : Int32) (0 : Int32))), .val (.int (own_em (0 : Int32) ct)), .unset, .unset, .unset, .unset, .unset] [(.int x2), (.ref b101)])) (fun _ k => XS.iloadN X80.here hx rfl (hb hby at_88) rfl k) ?_
            refine own_st (q' := T80.setTop (mkF m 90 #[.val (.int x0), .val (.int x1), .val (.int x2), .val (.int x3), .val (.int x4), .val (.int z5), .val (.int z6), .val (.int z7), .val (.ref b101), .val (.int (own_em (0 : Int32) (0 : Int32))), .val (.int (own_em (0 : Int32) ct)), .unset, .unset, .unset, .unset, .unset] [(.int x1), (.int x2), (.ref b101)])) (fun _ k => XS.iloadN X80.here hx rfl (hb hby at_89) rfl k) ?_
            refine own_callV (y := (⟨"com/example/rehearsal/rehearsal/http/CodePointClass$Builder", "addRange", "(II)V"⟩ : MethodName)) X80 hx hZ hown (hw _ (List.mem_of_getElem? (i := 26) rfl)) (hw _ (List.mem_of_getElem? (i := 27) rfl)) (hw _ (List.mem_of_getElem? (i := 29) rfl)) (hw _ (List.mem_of_getElem? (i := 28) rfl)) (hw _ (List.mem_of_getElem? (i := 2) rfl)) (hw _ (List.mem_of_getElem? (i := 30) rfl)) (by decide) (rmR l Z a0 hw [] b101 r s80 ct x2 x1 h80 n0 Z80 ⟨o107E, o107R, o107S, o107C, ⟨_, o107l, o107V⟩, o107ga, o107gr, o107ne⟩ (by omega) (by omega)) e80 o107E (W := 0) (by decide) (by decide) (by decide) (by decide) (g := (mkF m 90 #[.val (.int x0), .val (.int x1), .val (.int x2), .val (.int x3), .val (.int x4), .val (.int z5), .val (.int z6), .val (.int z7), .val (.ref b101), .val (.int (own_em (0 : Int32) (0 : Int32))), .val (.int (own_em (0 : Int32) ct)), .unset, .unset, .unset, .unset, .unset] [(.int x1), (.int x2), (.ref b101)])) rfl (by rw [hml]; rfl) (argsL := [(.int x2), (.int x1)]) (rest := []) rfl (lenOf pd_3 rfl) rfl (by show 2 * 0 + _ ≤ _; exact Nat.le_of_eq rfl) (hb hby at_90) ?_
            intro v124 T124 L124 hQ124 X124
            obtain ⟨rfl, NN124, KK124, hB124⟩ := hQ124
            have N124 := Fr.app N80 NN124
            obtain ⟨o125E, o125R, o125S, o125C, ⟨o125x, o125l, o125V⟩, o125ga, o125gr, o125ne⟩ := hB124
            show own_Dn p e below s (fun v h L => v = some (.int 1) ∧ Fr n0 L) room_1.cells room_1.slots (T124.setTop (mkF m 93 #[.val (.int x0), .val (.int x1), .val (.int x2), .val (.int x3), .val (.int x4), .val (.int z5), .val (.int z6), .val (.int z7), .val (.ref b101), .val (.int (own_em (0 : Int32) (0 : Int32))), .val (.int (own_em (0 : Int32) ct)), .unset, .unset, .unset, .unset, .unset] []))
            exact j93 T124 T124.heap _ X124 (rfl : T124.heap = T124.heap) N124 (Nat.le_trans Z80 KK124.1) (s80 + (1 : Int32) + (1 : Int32)) (by rw [if_neg hc83_123]) (by have l1 : (1 : Int32).toInt = 1 := rfl; have l0 : (0 : Int32).toInt = 0 := rfl; have := c_iadd s80 1; have := c_iadd (s80 + 1) 1; have := rng32 (s80 + 1); have := rng32 (s80 + 1 + 1); omega) ⟨o125E, o125R, o125S, o125C, ⟨_, o125l, o125V⟩, o125ga, o125gr, o125ne⟩
        by_cases hc70_126 : z7 < (1 : Int32)
        · skip
          have hc70_126I : (z7).toInt < (1 : Int) := own_ltT hc70_126
          refine own_st (q' := T106.setTop (mkF m 80 #[.val (.int x0), .val (.int x1), .val (.int x2), .val (.int x3), .val (.int x4), .val (.int z5), .val (.int z6), .val (.int z7), .val (.ref b101), .val (.int (own_em (0 : Int32) (0 : Int32))), .val (.int (own_em (0 : Int32) ct)), .unset, .unset, .unset, .unset, .unset] [])) (fun _ k => XS.icmpYes X106.here hx rfl (pc0 := 70) (pc' := 80) rfl (hb hby at_70) rfl (tlt hc70_126).1 (by decide) (by decide) k) ?_
          exact j80 T106 h60 _ X106 e106 N106 Z60 (0 : Int32) (by rw [if_pos hc70_126]) (by have l1 : (1 : Int32).toInt = 1 := rfl; have l0 : (0 : Int32).toInt = 0 := rfl; have := c_iadd (0 : Int32) 1; have := c_iadd ((0 : Int32) + 1) 1; have := rng32 ((0 : Int32) + 1); have := rng32 ((0 : Int32) + 1 + 1); omega) ⟨o105E, o105R, o105S, o105C, ⟨_, o105l, o105V⟩, o105ga, o105gr, o105ne⟩
        · skip
          have hc70_126I : (1 : Int) ≤ (z7).toInt := own_ltF hc70_126
          refine own_st (q' := T106.setTop (mkF m 73 #[.val (.int x0), .val (.int x1), .val (.int x2), .val (.int x3), .val (.int x4), .val (.int z5), .val (.int z6), .val (.int z7), .val (.ref b101), .val (.int (own_em (0 : Int32) (0 : Int32))), .val (.int (own_em (0 : Int32) ct)), .unset, .unset, .unset, .unset, .unset] [])) (fun _ k => XS.icmpNo X106.here hx rfl (hb hby at_70) rfl (flt hc70_126).1 k) ?_
          refine own_st (q' := T106.setTop (mkF m 75 #[.val (.int x0), .val (.int x1), .val (.int x2), .val (.int x3), .val (.int x4), .val (.int z5), .val (.int z6), .val (.int z7), .val (.ref b101), .val (.int (own_em (0 : Int32) (0 : Int32))), .val (.int (own_em (0 : Int32) ct)), .unset, .unset, .unset, .unset, .unset] [(.ref b101)])) (fun _ k => XS.aload X106.here hx rfl (hb hby at_73) rfl rfl k) ?_
          refine own_st (q' := T106.setTop (mkF m 76 #[.val (.int x0), .val (.int x1), .val (.int x2), .val (.int x3), .val (.int x4), .val (.int z5), .val (.int z6), .val (.int z7), .val (.ref b101), .val (.int (own_em (0 : Int32) (0 : Int32))), .val (.int (own_em (0 : Int32) ct)), .unset, .unset, .unset, .unset, .unset] [(.int x1), (.ref b101)])) (fun _ k => XS.iloadN X106.here hx rfl (hb hby at_75) rfl k) ?_
          refine own_st (q' := T106.setTop (mkF m 77 #[.val (.int x0), .val (.int x1), .val (.int x2), .val (.int x3), .val (.int x4), .val (.int z5), .val (.int z6), .val (.int z7), .val (.ref b101), .val (.int (own_em (0 : Int32) (0 : Int32))), .val (.int (own_em (0 : Int32) ct)), .unset, .unset, .unset, .unset, .unset] [(.int x2), (.int x1), (.ref b101)])) (fun _ k => XS.iloadN X106.here hx rfl (hb hby at_76) rfl k) ?_
          refine own_callV (y := (⟨"com/example/rehearsal/rehearsal/http/CodePointClass$Builder", "addRange", "(II)V"⟩ : MethodName)) X106 hx hZ hown (hw _ (List.mem_of_getElem? (i := 26) rfl)) (hw _ (List.mem_of_getElem? (i := 27) rfl)) (hw _ (List.mem_of_getElem? (i := 29) rfl)) (hw _ (List.mem_of_getElem? (i := 28) rfl)) (hw _ (List.mem_of_getElem? (i := 2) rfl)) (hw _ (List.mem_of_getElem? (i := 30) rfl)) (by decide) (rmR l Z a0 hw [] b101 r (0 : Int32) ct x1 x2 h60 n0 Z60 ⟨o105E, o105R, o105S, o105C, ⟨_, o105l, o105V⟩, o105ga, o105gr, o105ne⟩ (by omega) (by omega)) e106 o105E (W := 0) (by decide) (by decide) (by decide) (by decide) (g := (mkF m 77 #[.val (.int x0), .val (.int x1), .val (.int x2), .val (.int x3), .val (.int x4), .val (.int z5), .val (.int z6), .val (.int z7), .val (.ref b101), .val (.int (own_em (0 : Int32) (0 : Int32))), .val (.int (own_em (0 : Int32) ct)), .unset, .unset, .unset, .unset, .unset] [(.int x2), (.int x1), (.ref b101)])) rfl (by rw [hml]; rfl) (argsL := [(.int x1), (.int x2)]) (rest := []) rfl (lenOf pd_3 rfl) rfl (by show 2 * 0 + _ ≤ _; exact Nat.le_of_eq rfl) (hb hby at_77) ?_
          intro v127 T127 L127 hQ127 X127
          obtain ⟨rfl, NN127, KK127, hB127⟩ := hQ127
          have N127 := Fr.app N106 NN127
          obtain ⟨o128E, o128R, o128S, o128C, ⟨o128x, o128l, o128V⟩, o128ga, o128gr, o128ne⟩ := hB127
          show own_Dn p e below s (fun v h L => v = some (.int 1) ∧ Fr n0 L) room_1.cells room_1.slots (T127.setTop (mkF m 80 #[.val (.int x0), .val (.int x1), .val (.int x2), .val (.int x3), .val (.int x4), .val (.int z5), .val (.int z6), .val (.int z7), .val (.ref b101), .val (.int (own_em (0 : Int32) (0 : Int32))), .val (.int (own_em (0 : Int32) ct)), .unset, .unset, .unset, .unset, .unset] []))
          exact j80 T127 T127.heap _ X127 (rfl : T127.heap = T127.heap) N127 (Nat.le_trans Z60 KK127.1) ((0 : Int32) + (1 : Int32) + (1 : Int32)) (by rw [if_neg hc70_126]) (by have l1 : (1 : Int32).toInt = 1 := rfl; have l0 : (0 : Int32).toInt = 0 := rfl; have := c_iadd (0 : Int32) 1; have := c_iadd ((0 : Int32) + 1) 1; have := rng32 ((0 : Int32) + 1); have := rng32 ((0 : Int32) + 1 + 1); omega) ⟨o128E, o128R, o128S, o128C, ⟨_, o128l, o128V⟩, o128ga, o128gr, o128ne⟩
      by_cases hc51_129 : z5 = (0 : Int32)
      · skip
        have hc51_129I : (z5).toInt = (0 : Int) := own_eqT hc51_129
        refine own_st (q' := T104.setTop (mkF m 60 #[.val (.int x0), .val (.int x1), .val (.int x2), .val (.int x3), .val (.int x4), .val (.int z5), .val (.int z6), .val (.int z7), .val (.ref b101), .val (.int (own_em (0 : Int32) (0 : Int32))), .unset, .unset, .unset, .unset, .unset, .unset] [])) (fun _ k => XS.ifYes X104.here hx rfl (pc0 := 51) (pc' := 60) rfl (hb hby at_51) rfl ((if0 _ _).trans (teq hc51_129).1) (by decide) (by decide) k) ?_
        exact j60 T104 T102.heap _ X104 e104 N104 (Nat.le_trans (Nat.le_trans Z0 E101.1) KK102.1) (0 : Int32) (by rw [if_pos hc51_129]) ⟨o103E, o103R, o103S, o103C, ⟨_, o103l, o103V⟩, o103ga, o103gr, o103ne⟩
      · skip
        have hc51_129I : ¬ (z5).toInt = (0 : Int) := own_eqF hc51_129
        refine own_st (q' := T104.setTop (mkF m 54 #[.val (.int x0), .val (.int x1), .val (.int x2), .val (.int x3), .val (.int x4), .val (.int z5), .val (.int z6), .val (.int z7), .val (.ref b101), .val (.int (own_em (0 : Int32) (0 : Int32))), .unset, .unset, .unset, .unset, .unset, .unset] [])) (fun _ k => XS.ifNo X104.here hx rfl (hb hby at_51) rfl ((if0 _ _).trans (feq hc51_129).1) k) ?_
        refine own_st (q' := T104.setTop (mkF m 56 #[.val (.int x0), .val (.int x1), .val (.int x2), .val (.int x3), .val (.int x4), .val (.int z5), .val (.int z6), .val (.int z7), .val (.ref b101), .val (.int (own_em (0 : Int32) (0 : Int32))), .unset, .unset, .unset, .unset, .unset, .unset] [(.ref b101)])) (fun _ k => XS.aload X104.here hx rfl (hb hby at_54) rfl rfl k) ?_
        refine own_st (q' := T104.setTop (mkF m 57 #[.val (.int x0), .val (.int x1), .val (.int x2), .val (.int x3), .val (.int x4), .val (.int z5), .val (.int z6), .val (.int z7), .val (.ref b101), .val (.int (own_em (0 : Int32) (0 : Int32))), .unset, .unset, .unset, .unset, .unset, .unset] [(.int x3), (.ref b101)])) (fun _ k => XS.iloadN X104.here hx rfl (hb hby at_56) rfl k) ?_
        refine own_callV (y := (⟨"com/example/rehearsal/rehearsal/http/CodePointClass$Builder", "addCategories", "(I)V"⟩ : MethodName)) X104 hx hZ hown (hw _ (List.mem_of_getElem? (i := 21) rfl)) (hw _ (List.mem_of_getElem? (i := 22) rfl)) (hw _ (List.mem_of_getElem? (i := 24) rfl)) (hw _ (List.mem_of_getElem? (i := 23) rfl)) (hw _ (List.mem_of_getElem? (i := 2) rfl)) (hw _ (List.mem_of_getElem? (i := 25) rfl)) (by decide) (rmC l Z a0 hw [] b101 r (0 : Int32) (0 : Int32) x3 T102.heap n0 (Nat.le_trans (Nat.le_trans Z0 E101.1) KK102.1) ⟨o103E, o103R, o103S, o103C, ⟨_, o103l, o103V⟩, o103ga, o103gr, o103ne⟩) e104 o103E (W := 0) (by decide) (by decide) (by decide) (by decide) (g := (mkF m 57 #[.val (.int x0), .val (.int x1), .val (.int x2), .val (.int x3), .val (.int x4), .val (.int z5), .val (.int z6), .val (.int z7), .val (.ref b101), .val (.int (own_em (0 : Int32) (0 : Int32))), .unset, .unset, .unset, .unset, .unset, .unset] [(.int x3), (.ref b101)])) rfl (by rw [hml]; rfl) (argsL := [(.int x3)]) (rest := []) rfl (lenOf pd_2 rfl) rfl (by show 2 * 0 + _ ≤ _; exact Nat.le_of_eq rfl) (hb hby at_57) ?_
        intro v130 T130 L130 hQ130 X130
        obtain ⟨rfl, NN130, KK130, hB130⟩ := hQ130
        have N130 := Fr.app N104 NN130
        obtain ⟨o131E, o131R, o131S, o131C, ⟨o131x, o131l, o131V⟩, o131ga, o131gr, o131ne⟩ := hB130
        show own_Dn p e below s (fun v h L => v = some (.int 1) ∧ Fr n0 L) room_1.cells room_1.slots (T130.setTop (mkF m 60 #[.val (.int x0), .val (.int x1), .val (.int x2), .val (.int x3), .val (.int x4), .val (.int z5), .val (.int z6), .val (.int z7), .val (.ref b101), .val (.int (own_em (0 : Int32) (0 : Int32))), .unset, .unset, .unset, .unset, .unset, .unset] []))
        exact j60 T130 T130.heap _ X130 (rfl : T130.heap = T130.heap) N130 (Nat.le_trans (Nat.le_trans (Nat.le_trans Z0 E101.1) KK102.1) KK130.1) ((0 : Int32) ||| x3) (by rw [if_neg hc51_129, own_zor]) ⟨o131E, o131R, o131S, o131C, ⟨_, o131l, o131V⟩, o131ga, o131gr, o131ne⟩
    by_cases hc16_132 : (x0 &&& (2 : Int32)) = (0 : Int32)
    · skip
      have hc16_132I : ((x0 &&& (2 : Int32))).toInt = (0 : Int) := own_eqT hc16_132
      refine own_st (q' := s₁.setTop (mkF m 23 #[.val (.int x0), .val (.int x1), .val (.int x2), .val (.int x3), .val (.int x4), .val (.int z5), .unset, .unset, .unset, .unset, .unset, .unset, .unset, .unset, .unset, .unset] [])) (fun _ k => XS.ifYes X0.here hx rfl (pc0 := 16) (pc' := 23) rfl (hb hby at_16) rfl ((if0 _ _).trans (teq hc16_132).1) (by decide) (by decide) k) ?_
      refine own_st (q' := s₁.setTop (mkF m 24 #[.val (.int x0), .val (.int x1), .val (.int x2), .val (.int x3), .val (.int x4), .val (.int z5), .unset, .unset, .unset, .unset, .unset, .unset, .unset, .unset, .unset, .unset] [(.int (0 : Int32))])) (fun _ k => XS.iconst X0.here hx rfl (hb hby at_23) k) ?_
      exact j24 (0 : Int32) (by rw [if_pos hc16_132])
    · skip
      have hc16_132I : ¬ ((x0 &&& (2 : Int32))).toInt = (0 : Int) := own_eqF hc16_132
      refine own_st (q' := s₁.setTop (mkF m 19 #[.val (.int x0), .val (.int x1), .val (.int x2), .val (.int x3), .val (.int x4), .val (.int z5), .unset, .unset, .unset, .unset, .unset, .unset, .unset, .unset, .unset, .unset] [])) (fun _ k => XS.ifNo X0.here hx rfl (hb hby at_16) rfl ((if0 _ _).trans (feq hc16_132).1) k) ?_
      refine own_st (q' := s₁.setTop (mkF m 20 #[.val (.int x0), .val (.int x1), .val (.int x2), .val (.int x3), .val (.int x4), .val (.int z5), .unset, .unset, .unset, .unset, .unset, .unset, .unset, .unset, .unset, .unset] [(.int (1 : Int32))])) (fun _ k => XS.iconst X0.here hx rfl (hb hby at_19) k) ?_
      refine own_st (q' := s₁.setTop (mkF m 24 #[.val (.int x0), .val (.int x1), .val (.int x2), .val (.int x3), .val (.int x4), .val (.int z5), .unset, .unset, .unset, .unset, .unset, .unset, .unset, .unset, .unset, .unset] [(.int (1 : Int32))])) (fun _ k => XS.goto X0.here hx rfl (pc0 := 20) (pc' := 24) rfl (hb hby at_20) (by decide) (by decide) k) ?_
      exact j24 (1 : Int32) (by rw [if_neg hc16_132])
  by_cases hc3_133 : (x0 &&& (1 : Int32)) = (0 : Int32)
  · skip
    have hc3_133I : ((x0 &&& (1 : Int32))).toInt = (0 : Int) := own_eqT hc3_133
    refine own_st (q' := s₁.setTop (mkF m 10 #[.val (.int x0), .val (.int x1), .val (.int x2), .val (.int x3), .val (.int x4), .unset, .unset, .unset, .unset, .unset, .unset, .unset, .unset, .unset, .unset, .unset] [])) (fun _ k => XS.ifYes X0.here hx rfl (pc0 := 3) (pc' := 10) rfl (hb hby at_3) rfl ((if0 _ _).trans (teq hc3_133).1) (by decide) (by decide) k) ?_
    refine own_st (q' := s₁.setTop (mkF m 11 #[.val (.int x0), .val (.int x1), .val (.int x2), .val (.int x3), .val (.int x4), .unset, .unset, .unset, .unset, .unset, .unset, .unset, .unset, .unset, .unset, .unset] [(.int (0 : Int32))])) (fun _ k => XS.iconst X0.here hx rfl (hb hby at_10) k) ?_
    exact j11 (0 : Int32) (by rw [if_pos hc3_133])
  · skip
    have hc3_133I : ¬ ((x0 &&& (1 : Int32))).toInt = (0 : Int) := own_eqF hc3_133
    refine own_st (q' := s₁.setTop (mkF m 6 #[.val (.int x0), .val (.int x1), .val (.int x2), .val (.int x3), .val (.int x4), .unset, .unset, .unset, .unset, .unset, .unset, .unset, .unset, .unset, .unset, .unset] [])) (fun _ k => XS.ifNo X0.here hx rfl (hb hby at_3) rfl ((if0 _ _).trans (feq hc3_133).1) k) ?_
    refine own_st (q' := s₁.setTop (mkF m 7 #[.val (.int x0), .val (.int x1), .val (.int x2), .val (.int x3), .val (.int x4), .unset, .unset, .unset, .unset, .unset, .unset, .unset, .unset, .unset, .unset, .unset] [(.int (1 : Int32))])) (fun _ k => XS.iconst X0.here hx rfl (hb hby at_6) k) ?_
    refine own_st (q' := s₁.setTop (mkF m 11 #[.val (.int x0), .val (.int x1), .val (.int x2), .val (.int x3), .val (.int x4), .unset, .unset, .unset, .unset, .unset, .unset, .unset, .unset, .unset, .unset, .unset] [(.int (1 : Int32))])) (fun _ k => XS.goto X0.here hx rfl (pc0 := 7) (pc' := 11) rfl (hb hby at_7) (by decide) (by decide) k) ?_
    exact j11 (1 : Int32) (by rw [if_neg hc3_133])
set_option maxRecDepth 65536 in
set_option maxHeartbeats 40000000 in
theorem comes_1 {Post : Tables → Env → Array Value → State → Outcome → State → Prop} (hpost : ∀ tb e args s v u, (limb_1_1.after args s (.returned v) u = true ∧ limb_1_2.after args s (.returned v) u = true ∧ True) → FrameEnd s (.returned v) u (Jvm.fieldLocs frame_1_writes args s ++ Jvm.arrayLocs frame_1_arrays args s ++ Jvm.staticLocs frame_1_statics s) 16 128 → Post tb e args s (.returned v) u) :
    ArmFor flags0 classFile x code maxLocals ret World_1 tables_1 room_1 Calls_1 rest_1 Pre_1 Post := by
  intro l hfl _ _ p e ha hc hk s m args below hf hA hF happ hP
  obtain ⟨hcalls, hrest, hpre⟩ := hP
  obtain ⟨-, -, -, hnamed, -, -, -, hat⟩ := (Spec.applies_iff hf).mp happ
  obtain ⟨hg, hn⟩ := and_e (Cond.before_iff.mp (show (Jvm.Cond.and given_1 narrow_1).before args s = true from hpre))
  obtain ⟨hcount, g0⟩ := and_e hg
  obtain ⟨hi0, g1⟩ := and_e g0
  obtain ⟨hi1, g2⟩ := and_e g1
  obtain ⟨hi2, g3⟩ := and_e g2
  obtain ⟨hi3, g4⟩ := and_e g3
  have hi4 := g4
  obtain ⟨w0, w1, w2, w3, w4, rfl⟩ : ∃ w0 w1 w2 w3 w4 : Value, args = #[w0, w1, w2, w3, w4] := by
    have hs : args.size = 5 := by simpa [Cond.value, given_1] using hcount
    obtain ⟨L⟩ := args
    match L, hs with
    | [w0, w1, w2, w3, w4], _ => exact ⟨w0, w1, w2, w3, w4, rfl⟩
  have hw := fun d (hd : d ∈ tables_1) => atoms_spec (ws := Jvm.Cond.code x code maxLocals ret :: tables_1) hat d (List.mem_cons_of_mem _ hd)
  have hfit : Fit s := fun {y c} hc i hi => by
    obtain ⟨ha, rfl⟩ := Array.getElem?_eq_some_iff.mp hc
    have q := List.all_eq_true.mp ((Array.all_eq_true_iff_forall_mem.mp hF) _ (Array.getElem_mem ha)) i (List.mem_range.mpr hi)
    simpa [Array.getElem?_eq_getElem hi] using q
  obtain ⟨i0, ei0⟩ := is_v hi0
  obtain rfl : w0 = (.int i0) := Option.some.inj ei0
  obtain ⟨i1, ei1⟩ := is_v hi1
  obtain rfl : w1 = (.int i1) := Option.some.inj ei1
  obtain ⟨i2, ei2⟩ := is_v hi2
  obtain rfl : w2 = (.int i2) := Option.some.inj ei2
  obtain ⟨i3, ei3⟩ := is_v hi3
  obtain rfl : w3 = (.int i3) := Option.some.inj ei3
  obtain ⟨i4, ei4⟩ := is_v hi4
  obtain rfl : w4 = (.int i4) := Option.some.inj ei4
  obtain ⟨n, o, h1, h2, h3, _, L, rfl, ⟨rfl, N⟩, hq⟩ := rm0 l s _ hw tables_1 i0 i1 i2 i3 i4 s.heap s.heap.size (Nat.le_refl _) p e ha hc hk s m _ below hf ((Spec.applies_iff_loose hf).mp happ).1 ⟨rfl, State.Warmed39.refl s, rfl⟩ trivial
  refine ⟨n, _, h1, h2, h3, hpost _ _ _ _ _ _ ⟨Cond.after_iff.mpr rfl, Cond.after_iff.mpr (eq_i res_at (Term.int_eval (1)) rfl), trivial⟩ ⟨hq.1, hq.2.1, (hq.2.2.sift fun y hy => Or.inr (N y hy)).mono (by decide) (by decide)⟩⟩
theorem main_1_1 : Claimed_1_1 := comes_1 fun _ _ _ _ _ _ h hF => ⟨h.1, hF⟩
theorem main_1_2 : Claimed_1_2 := comes_1 fun _ _ _ _ _ _ h hF => ⟨h.2.1, hF⟩
end Jvm.Pilot.@@N@@
namespace Jvm.Pilot.@@N@@
open Jvm Jvm.ClassFile Sem Op Lib Jvm.Free Jvm.Stand Jvm.Pilot.@@N@@.Jvm.D
/-! MADE BY PROGRAM (witnessworld.py) out of the Statement's table words and the real class files: 9 classes; the members and pool entries that the words name. The judged class is class 1, her method 1. -/
namespace start1
open Jvm.ClassFile
def u (s : String) : CpInfo := .utf8 (stringToUtf16 s)
/-- a pool by its gaps: so many unusable entries, then the entry; so many at the end -/
def gap : Nat → List CpInfo → List CpInfo
  | 0, r => r
  | n + 1, r => .unusable :: gap n r
def poolList (es : List (Nat × CpInfo)) (last : Nat) : List CpInfo := es.foldr (fun e r => gap e.1 (e.2 :: r)) (gap last [])
def pool (es : List (Nat × CpInfo)) (last : Nat) : Array CpInfo := ⟨poolList es last⟩
def fileOf (pool : Array CpInfo) (this : Nat) (attrs : Array Attribute := #[]) (ms : Array MethodInfo := #[]) (fl : Nat := 33) (sup : Nat := 0) (ifs : Array Nat := #[]) (fds : Array FieldInfo := #[]) : ClassFile where
  minorVersion := 0
  majorVersion := 65
  constantPool := pool
  accessFlags := fl
  thisClass := this
  superClass := sup
  interfaces := ifs
  fields := fds
  methods := ms
  attributes := attrs
def plain (name : String) (sup : Option ClassId) : Class where
  name := name
  kind := .ordinary
  loader := none
  accessFlags := 33
  super := sup
  interfaces := #[]
  cf := none
  fields := #[]
  methods := #[]
  instanceTypes := #[]
  staticTypes := #[]
  resolved := #[]
  callSites := []
  init := .initialized
  statics := none
  mirror := none

def pool0 : Array CpInfo := pool [(5, u "<init>"), (0, u "()V"), (1, .class_ 10), (1, u "java/lang/Object")] 113

def k0c0 : Code := { maxStack := 0, maxLocals := 1, code := object_method_1_code, exceptionTable := #[], attributes := #[] }
def k0m0 : Method := { name := "<init>", desc := "()V", sig := { parameters := [], returnType := none }, accessFlags := 1, code := some k0c0 }
/-- java/lang/Object -/
def k0 : Class := { plain "java/lang/Object" none with
  accessFlags := 33
  interfaces := #[]
  cf := some (fileOf pool0 8 #[] #[{ accessFlags := 1, nameIndex := 5, descriptorIndex := 6, attributes := #[] }] 33 0 #[] #[])
  fields := #[]
  methods := #[k0m0]
  instanceTypes := #[]
  staticTypes := #[]
  resolved := Array.replicate 124 none
  statics := none }

def pool1 : Array CpInfo := pool [(2, .class_ 4), (0, .nameAndType 5 6), (0, u "java/lang/Object"), (0, u "<init>"), (0, u "()V"), (0, .class_ 8), (0, u "com/example/rehearsal/rehearsal/http/CodePointClass$Builder"), (0, .methodref 7 3), (0, .methodref 7 11), (0, .nameAndType 12 13), (0, u "isEmpty"), (0, u "()Z"), (0, .methodref 7 15), (0, .nameAndType 16 17), (0, u "addCategories"), (0, u "(I)V"), (0, .methodref 7 19), (0, .nameAndType 20 21), (0, u "addRange"), (0, u "(II)V"), (0, .class_ 23), (0, u "com/example/rehearsal/rehearsal/http/BuilderIsEmptyPinLaw"), (2, u "law"), (0, u "(IIIII)Z")] 7

def k1m0 : Method := { name := "<init>", desc := "()V", sig := { parameters := [], returnType := none }, accessFlags := 1, code := none }
def k1c1 : Code := { maxStack := 3, maxLocals := 16, code := code, exceptionTable := #[], attributes := #[] }
def k1m1 : Method := { name := "law", desc := "(IIIII)Z", sig := { parameters := [.int, .int, .int, .int, .int], returnType := some .boolean }, accessFlags := 9, code := some k1c1 }
/-- com/example/rehearsal/rehearsal/http/BuilderIsEmptyPinLaw -/
def k1 : Class := { plain "com/example/rehearsal/rehearsal/http/BuilderIsEmptyPinLaw" (some 0) with
  accessFlags := 49
  interfaces := #[]
  cf := some (fileOf pool1 22 #[] #[{ accessFlags := 1, nameIndex := 5, descriptorIndex := 6, attributes := #[] }, { accessFlags := 9, nameIndex := 26, descriptorIndex := 27, attributes := #[] }] 49 2 #[] #[])
  fields := #[]
  methods := #[k1m0, k1m1]
  instanceTypes := #[]
  staticTypes := #[]
  resolved := Array.replicate 35 none
  statics := none }

def pool2 : Array CpInfo := pool [(1, .methodref 2 3), (0, .class_ 4), (0, .nameAndType 5 6), (0, u "java/lang/Object"), (0, u "<init>"), (0, u "()V"), (0, .fieldref 8 9), (0, .class_ 10), (0, .nameAndType 11 12), (0, u "com/example/rehearsal/rehearsal/http/CodePointClass$Builder"), (0, u "ranges"), (0, u "[I"), (0, .fieldref 8 14), (0, .nameAndType 15 16), (0, u "size"), (0, u "I"), (6, .fieldref 8 24), (0, .nameAndType 25 16), (0, u "categories"), (0, .class_ 27), (0, u "com/example/rehearsal/rehearsal/http/CodePointClass"), (5, u "addRange"), (0, u "(II)V"), (1, u "addCategories"), (0, u "(I)V"), (0, u "isEmpty"), (0, u "()Z")] 7

def k2c0 : Code := { maxStack := 2, maxLocals := 1, code := prog_14_method_1_code, exceptionTable := #[], attributes := #[] }
def k2m0 : Method := { name := "<init>", desc := "()V", sig := { parameters := [], returnType := none }, accessFlags := 0, code := some k2c0 }
def k2c1 : Code := { maxStack := 5, maxLocals := 3, code := prog_14_method_2_code, exceptionTable := #[], attributes := #[] }
def k2m1 : Method := { name := "addRange", desc := "(II)V", sig := { parameters := [.int, .int], returnType := none }, accessFlags := 0, code := some k2c1 }
def k2c2 : Code := { maxStack := 3, maxLocals := 2, code := prog_14_method_3_code, exceptionTable := #[], attributes := #[] }
def k2m2 : Method := { name := "addCategories", desc := "(I)V", sig := { parameters := [.int], returnType := none }, accessFlags := 0, code := some k2c2 }
def k2c3 : Code := { maxStack := 1, maxLocals := 1, code := prog_14_method_4_code, exceptionTable := #[], attributes := #[] }
def k2m3 : Method := { name := "isEmpty", desc := "()Z", sig := { parameters := [], returnType := some .boolean }, accessFlags := 0, code := some k2c3 }
/-- com/example/rehearsal/rehearsal/http/CodePointClass$Builder -/
def k2 : Class := { plain "com/example/rehearsal/rehearsal/http/CodePointClass$Builder" (some 0) with
  accessFlags := 48
  interfaces := #[]
  cf := some (fileOf pool2 8 #[.nestHost 26] #[{ accessFlags := 0, nameIndex := 5, descriptorIndex := 6, attributes := #[] }, { accessFlags := 0, nameIndex := 33, descriptorIndex := 34, attributes := #[] }, { accessFlags := 0, nameIndex := 36, descriptorIndex := 37, attributes := #[] }, { accessFlags := 0, nameIndex := 38, descriptorIndex := 39, attributes := #[] }] 48 2 #[] #[{ accessFlags := 2, nameIndex := 11, descriptorIndex := 12, attributes := #[] }, { accessFlags := 2, nameIndex := 15, descriptorIndex := 16, attributes := #[] }, { accessFlags := 2, nameIndex := 25, descriptorIndex := 16, attributes := #[] }])
  fields := #[{ name := "ranges", type := (.array .int), accessFlags := 2, slot := 0, constantValue := 0 }, { name := "size", type := .int, accessFlags := 2, slot := 1, constantValue := 0 }, { name := "categories", type := .int, accessFlags := 2, slot := 2, constantValue := 0 }]
  methods := #[k2m0, k2m1, k2m2, k2m3]
  instanceTypes := #[(.array .int), .int, .int]
  staticTypes := #[]
  resolved := Array.replicate 47 none
  statics := none }

def pool3 : Array CpInfo := pool [(1, u "java/lang/Cloneable"), (0, .class_ 1), (0, u "java/lang/Object"), (0, .class_ 3)] 3

/-- java/lang/Cloneable -/
def k3 : Class := { plain "java/lang/Cloneable" (some 0) with
  accessFlags := 1537
  interfaces := #[]
  cf := some (fileOf pool3 2 #[] #[] 1537 4 #[] #[])
  fields := #[]
  methods := #[]
  instanceTypes := #[]
  staticTypes := #[]
  resolved := Array.replicate 8 none
  statics := none }

def pool4 : Array CpInfo := pool [(1, u "java/io/Serializable"), (0, .class_ 1), (0, u "java/lang/Object"), (0, .class_ 3)] 3

/-- java/io/Serializable -/
def k4 : Class := { plain "java/io/Serializable" (some 0) with
  accessFlags := 1537
  interfaces := #[]
  cf := some (fileOf pool4 2 #[] #[] 1537 4 #[] #[])
  fields := #[]
  methods := #[]
  instanceTypes := #[]
  staticTypes := #[]
  resolved := Array.replicate 8 none
  statics := none }

/-- the primitive byte -/
def k5 : Class := { plain "byte" none with kind := .primitive 'B', accessFlags := 0x411 }
/-- [B -/
def k6 : Class := { plain "[B" (some 0) with kind := .array 5 .byte, interfaces := #[3, 4], accessFlags := 1041 }

/-- the primitive int -/
def k7 : Class := { plain "int" none with kind := .primitive 'I', accessFlags := 0x411 }
/-- [I -/
def k8 : Class := { plain "[I" (some 0) with kind := .array 7 .int, interfaces := #[3, 4], accessFlags := 1041 }

def heap : Heap := #[]
def classes : Array Class := #[k0, k1, k2, k3, k4, k5, k6, k7, k8]
def interned : List (Array UInt16 × Addr) := []
def slotsUsed : Nat := 0
def theMethod : MethodId := ⟨1, 1⟩
def args0 : Array Value := #[.int 5, .int 7, .int 3, .int 2, .int 9]
def aboutOver (below : List Frame) : State where
  vm := { classes := classes, interned := interned.toArray }
  heap := heap
  slotsUsed := slotsUsed
  threads := #[{ frames := .invoking theMethod args0 :: below }]
def below0 : List Frame := [.native { method := ⟨0, 0⟩, args := #[] }]
def about1 : State := aboutOver below0
def p0 : Program := .bare "" "" ""
def e0 : Env := launch0.env 0 0 0
theorem w_frames : about1.frames = Frame.invoking theMethod args0 :: below0 := rfl
set_option maxRecDepth 65536 in
theorem w_args : argsFit about1.vm theMethod args0 = true := by decide +kernel
set_option maxRecDepth 65536 in
theorem w_heap : heapFits about1 = true := by decide +kernel
set_option maxRecDepth 65536 in
theorem w_runnable : about1.curStatus? = some .runnable := by decide +kernel
set_option maxRecDepth 65536 in
theorem w_alone : about1.alone = true := by decide +kernel
set_option maxRecDepth 65536 in
theorem w_named : about1.methodNamed? x = some theMethod := by decide +kernel
set_option maxRecDepth 65536 in
theorem w_hears : about1.hears theMethod below0 = true := by decide +kernel
set_option maxRecDepth 65536 in
theorem w_ripe : about1.ripe theMethod args0 below0 = true := by decide +kernel
theorem w_running : about1.status = .running := rfl
set_option maxRecDepth 65536 in
theorem w_room : about1.hasRoom e0.platform room_1 = true :=
  launch0.hasRoom_least _ room_1 (by decide +kernel) (by decide +kernel) (by decide +kernel) (by decide +kernel) (by decide +kernel) (by decide +kernel)
theorem allAtoms_all (ts : List Jvm.Cond) (a : Array Jvm.Value) (st : Jvm.State) : (allAtoms ts).before a st = ts.all (fun c => c.before a st) := by
  induction ts with
  | nil => rfl
  | cons c t ih =>
    show (Jvm.Cond.and c (allAtoms t)).before a st = _
    rw [Jvm.Cond.before_and, ih, List.all_cons]
def words1 : List Jvm.Cond := Jvm.Cond.code x code maxLocals ret :: tables_1
/-- a 'code' word, met by the world's own term for the bytes: nothing is compared byte by byte -/
theorem code_word {y : MethodName} {bytes : ByteArray} {mx : Nat} {rt : Option FieldType} {a : Array Value} {s : State} {m : MethodId} {meth : Method} {c : Code} (h1 : s.methodNamed? y = some m) (h2 : s.vm.method? m = some meth) (h3 : meth.code = some c) (h4 : c.code = bytes)
    (h5 : (c.maxLocals == mx && c.exceptionTable.isEmpty && decide (c.maxStack ≤ mostOperands) && decide (meth.sig.returnType = rt) && !meth.locks && decide (parseMethodDescriptor y.desc = some meth.sig)) = true) : (Jvm.Cond.code y bytes mx rt).before a s = true := by
  simp only [Bool.and_eq_true, beq_iff_eq, Bool.not_eq_true', decide_eq_true_eq] at h5
  obtain ⟨⟨⟨⟨⟨g1, g2⟩, g3⟩, g4⟩, g5⟩, g6⟩ := h5
  simp [Cond.before, Cond.holds, Cond.value, h1, h2, h3, h4, g1, g2, g3, g4, g5, g6]
def isCode : Jvm.Cond → Bool
  | .code _ _ _ _ => true
  | _ => false
theorem all_split {L : List Jvm.Cond} {P : Jvm.Cond → Bool} (h1 : L.all (fun c => isCode c || P c) = true) (h2 : ∀ c ∈ L.filter isCode, P c = true) : L.all P = true := by
  refine List.all_eq_true.mpr fun c hc => ?_
  have h := List.all_eq_true.mp h1 c hc
  rcases Bool.eq_false_or_eq_true (isCode c) with hi | hi
  · exact h2 c (List.mem_filter.mpr ⟨hc, hi⟩)
  · simpa [hi] using h
set_option maxRecDepth 65536 in
theorem w_c0 : (Jvm.Cond.code x code maxLocals ret).before args0 about1 = true := code_word (m := ⟨1, 1⟩) (meth := k1m1) (c := k1c1) (by decide +kernel) rfl rfl rfl (by decide +kernel)
set_option maxRecDepth 65536 in
theorem w_c1 : (Jvm.Cond.code ({ cls := "com/example/rehearsal/rehearsal/http/CodePointClass$Builder", name := "<init>", desc := "()V" } : Jvm.MethodName) prog_14_method_1_code (1 : Nat) (Option.none : Option Jvm.ClassFile.FieldType)).before args0 about1 = true := code_word (m := ⟨2, 0⟩) (meth := k2m0) (c := k2c0) (by decide +kernel) rfl rfl rfl (by decide +kernel)
set_option maxRecDepth 65536 in
theorem w_c2 : (Jvm.Cond.code ({ cls := "java/lang/Object", name := "<init>", desc := "()V" } : Jvm.MethodName) object_method_1_code (1 : Nat) (Option.none : Option Jvm.ClassFile.FieldType)).before args0 about1 = true := code_word (m := ⟨0, 0⟩) (meth := k0m0) (c := k0c0) (by decide +kernel) rfl rfl rfl (by decide +kernel)
set_option maxRecDepth 65536 in
theorem w_c3 : (Jvm.Cond.code ({ cls := "com/example/rehearsal/rehearsal/http/CodePointClass$Builder", name := "isEmpty", desc := "()Z" } : Jvm.MethodName) prog_14_method_4_code (1 : Nat) (Option.some Jvm.ClassFile.FieldType.boolean)).before args0 about1 = true := code_word (m := ⟨2, 3⟩) (meth := k2m3) (c := k2c3) (by decide +kernel) rfl rfl rfl (by decide +kernel)
set_option maxRecDepth 65536 in
theorem w_c4 : (Jvm.Cond.code ({ cls := "com/example/rehearsal/rehearsal/http/CodePointClass$Builder", name := "addCategories", desc := "(I)V" } : Jvm.MethodName) prog_14_method_3_code (2 : Nat) (Option.none : Option Jvm.ClassFile.FieldType)).before args0 about1 = true := code_word (m := ⟨2, 2⟩) (meth := k2m2) (c := k2c2) (by decide +kernel) rfl rfl rfl (by decide +kernel)
set_option maxRecDepth 65536 in
theorem w_c5 : (Jvm.Cond.code ({ cls := "com/example/rehearsal/rehearsal/http/CodePointClass$Builder", name := "addRange", desc := "(II)V" } : Jvm.MethodName) prog_14_method_2_code (3 : Nat) (Option.none : Option Jvm.ClassFile.FieldType)).before args0 about1 = true := code_word (m := ⟨2, 1⟩) (meth := k2m1) (c := k2c1) (by decide +kernel) rfl rfl rfl (by decide +kernel)
def codes1 : List Jvm.Cond := [Jvm.Cond.code x code maxLocals ret, Jvm.Cond.code ({ cls := "com/example/rehearsal/rehearsal/http/CodePointClass$Builder", name := "<init>", desc := "()V" } : Jvm.MethodName) prog_14_method_1_code (1 : Nat) (Option.none : Option Jvm.ClassFile.FieldType), Jvm.Cond.code ({ cls := "java/lang/Object", name := "<init>", desc := "()V" } : Jvm.MethodName) object_method_1_code (1 : Nat) (Option.none : Option Jvm.ClassFile.FieldType), Jvm.Cond.code ({ cls := "com/example/rehearsal/rehearsal/http/CodePointClass$Builder", name := "isEmpty", desc := "()Z" } : Jvm.MethodName) prog_14_method_4_code (1 : Nat) (Option.some Jvm.ClassFile.FieldType.boolean), Jvm.Cond.code ({ cls := "com/example/rehearsal/rehearsal/http/CodePointClass$Builder", name := "addCategories", desc := "(I)V" } : Jvm.MethodName) prog_14_method_3_code (2 : Nat) (Option.none : Option Jvm.ClassFile.FieldType), Jvm.Cond.code ({ cls := "com/example/rehearsal/rehearsal/http/CodePointClass$Builder", name := "addRange", desc := "(II)V" } : Jvm.MethodName) prog_14_method_2_code (3 : Nat) (Option.none : Option Jvm.ClassFile.FieldType)]
set_option maxRecDepth 65536 in
theorem codes_eq : words1.filter isCode = codes1 := rfl
theorem w_codes : ∀ c ∈ words1.filter isCode, c.before args0 about1 = true := by
  rw [codes_eq]
  intro c hc
  simp only [codes1, List.mem_cons, List.not_mem_nil, or_false] at hc
  rcases hc with rfl | rfl | rfl | rfl | rfl | rfl
  · exact w_c0
  · exact w_c1
  · exact w_c2
  · exact w_c3
  · exact w_c4
  · exact w_c5
set_option maxRecDepth 65536 in
theorem w_t1 : (words1.take 24).all (fun c => isCode c || c.before args0 about1) = true := by decide +kernel
set_option maxRecDepth 65536 in
theorem w_t2 : (words1.drop 24).all (fun c => isCode c || c.before args0 about1) = true := by decide +kernel
theorem w_tables : (allAtoms (Jvm.Cond.code x code maxLocals ret :: tables_1)).before args0 about1 = true := by
  rw [allAtoms_all]
  show words1.all (fun c => c.before args0 about1) = true
  refine all_split ?_ w_codes
  rw [← List.take_append_drop 24 words1, List.all_append, w_t1, w_t2]
  rfl
set_option maxRecDepth 65536 in
theorem w_case : (Jvm.Cond.and given_1 narrow_1).before args0 about1 = true := by decide +kernel
theorem w_applies : (headSpec (Jvm.Cond.code x code maxLocals ret :: tables_1) room_1).applies x e0.platform about1 = true :=
  (Spec.applies_iff w_frames).mpr ⟨w_running, w_runnable, w_alone, w_named, w_hears, w_ripe, w_room, w_tables⟩
theorem atStart : AtStart classFile x code maxLocals ret World_1 tables_1 room_1 Calls_1 rest_1 Pre_1 launch0 p0 e0 about1 theMethod args0 below0 :=
  ⟨lists_1, trivial, launch0.admits_env _ _ _, launch0.least_env, fairChoices_fair.cas, fairChoices_fair.clock, w_frames, w_args, w_heap, w_applies, trivial, trivial, w_case⟩
end start1
theorem witness_1 : WitnessClaimed_1 := ⟨start1.p0, start1.e0, start1.about1, start1.theMethod, start1.args0, start1.below0, start1.atStart⟩
end Jvm.Pilot.@@N@@
