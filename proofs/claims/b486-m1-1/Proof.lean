import JvmDerived
import JvmDerived.Pilot.@@N@@Statement
import JvmDerived.Pilot.@@N@@Code
set_option linter.unusedVariables false
set_option linter.unusedSimpArgs false
namespace Jvm.RoadKit
open Sem ClassFile Op Lib Jvm.Stand Jvm.Free Jvm.LawKit
section New
variable {p : Program} {l : Launch} {e : Env} {R : Room} {s : State} {m : MethodId} {args : Array Value} {below : List Frame} {meth : Method} {c : Code} {T : State} {locs : List Loc} {cells slots : Nat}
theorem retI (X : Stand p l e R s m args below meth c T locs cells slots) (hx : p.tables.exec = Jvm.exec) {pc : Nat} {Ls : Array Slot} {z : Int32} {rest : List Value} (hret : meth.sig.returnType = some .int) (hd : decode c.code pc = .ok (.ireturn, 1)) {fs : List Frame}
    (hl : ∀ (f : JFrame) (acts : List Action), f.method = m → f.locked = none → f.entered = [] → (doReturn e (T.setTop f) acts (some (.int z))).1 = T.setFrames fs) : Steps p.tables e below (T.setTop (mkF m pc Ls (.int z :: rest))) (T.setFrames fs) := by
  have hm' : T.vm.method? m = some meth := X.method'
  have hn : narrow .int (.int z) = .int z := rfl
  show Steps p.tables e below (T.setTop { method := m, pc := pc, locals := Ls, stack := _ :: rest, locked := none }) _
  jvm_step X.here [X.here.top, hx, hd, hm', hret, hn]
  first | (intro acts; rw [hl _ acts rfl rfl rfl]) | rw [hl _ _ rfl rfl rfl]
  exact Steps.refl _
end New
end Jvm.RoadKit
namespace Jvm.Pilot.@@N@@
open Jvm Jvm.ClassFile Sem Op Lib Jvm.Free Jvm.Stand Jvm.LawKit Jvm.RoadKit Bundle Jvm.Pilot.@@N@@.Jvm.D
section Own
variable {p : Program} {l : Launch} {e : Env} {R : Room} {s : State} {m : MethodId} {args : Array Value} {below : List Frame} {meth : Method} {c : Code} {T : State} {locs : List Loc} {cells slots : Nat} {Q : Option Value → Heap → List Loc → Prop} {nc ns : Nat}
/-- from here the run comes to an end of which Q speaks -/
def own_Dn (p : Program) (e : Env) (below : List Frame) (s : State) (Q : Option Value → Heap → List Loc → Prop) (nc ns : Nat) (q : State) : Prop :=
  ∃ t o, Steps p.tables e below q t ∧ t.status = .running ∧ Ended t below o ∧ ∃ v L, o = .returned v ∧ Q v t.heap L ∧ FrameEnd s o t L nc ns
theorem own_st {q q' : State} (h : ∀ t, Steps p.tables e below q' t → Steps p.tables e below q t) (d : own_Dn p e below s Q nc ns q') : own_Dn p e below s Q nc ns q := by
  obtain ⟨t, o, h1, r⟩ := d
  exact ⟨t, o, h _ h1, r⟩
/-- a body's contract -/
def own_Met (l : Launch) (Z : State) (y : MethodName) (ws : List Jvm.Cond) (bytes : ByteArray) (maxL : Nat) (ret : Option FieldType) (rm : Room) (as : Array Value) (h0 : Heap) (Q : Option Value → Heap → List Loc → Prop) : Prop :=
  MetFree l y (head1 (Jvm.Cond.code y bytes maxL ret :: ws) rm) (fun a U => a = as ∧ Z.Warmed39 U.vm ∧ U.heap = h0) (fun _ _ _ _ _ => True) (fun _ U o U' => ∃ v L, o = .returned v ∧ Q v U'.heap L ∧ FrameEnd U o U' L rm.cells rm.slots)
theorem own_body {Z : State} {y : MethodName} {ws : List Jvm.Cond} {bytes : ByteArray} {maxL : Nat} {ret : Option FieldType} {rm : Room} {as : Array Value} {h0 : Heap} (hp : plainFor y = true)
    (body : ∀ p e s m below meth c s₁, p.tables.exec = Jvm.exec → c.code = bytes → c.maxLocals = maxL → s.vm.findClass y.cls = some m.cls → meth.name = y.name → meth.sig.returnType = ret → meth.locks = false → Z.Warmed39 s.vm → Stand p l e rm s m as below meth c s₁ [] 0 0 → s₁.heap = h0 → own_Dn p e below s Q rm.cells rm.slots (s₁.setTop (entryFrame m as maxL))) :
    own_Met l Z y ws bytes maxL ret rm as h0 Q := by
  refine MetFree.of_bodySF hp hisR ?_
  intro p e s m args below meth c s₁ Bd hml0 hP hK
  obtain ⟨rfl, hZ, hh⟩ := hP
  exact body p e s m below meth c s₁ Bd.exec Bd.bytes hml0 (findClass_of_methodNamed Bd.named) (name_of_methodNamed Bd.named Bd.method).1 Bd.returns Bd.notSynchronized hZ (Stand.of_body Bd) (by rw [← hh, Bd.state]; rfl)
theorem own_entry {m : MethodId} {as : Array Value} {maxL : Nat} {g : JFrame} (q : entryFrame m as maxL = g) (d : own_Dn p e below s Q nc ns (T.setTop g)) : own_Dn p e below s Q nc ns (T.setTop (entryFrame m as maxL)) := q ▸ d
theorem own_retI (X : Stand p l e R s m args below meth c T locs cells slots) (hx : p.tables.exec = Jvm.exec) (hlk : meth.locks = false) {pc : Nat} {Ls : Array Slot} {z : Int32} {rest : List Value} (hret : meth.sig.returnType = some .int) (hd : decode c.code pc = .ok (.ireturn, 1)) {h : Heap} (eT : T.heap = h) (hQ : Q (some (.int z)) h locs) (hc : cells ≤ nc) (hs : slots ≤ ns) :
    own_Dn p e below s Q nc ns (T.setTop (mkF m pc Ls (.int z :: rest))) := by
  obtain ⟨fs, hr, hrun, hended, hW, hsame⟩ := X.leave (v := some (.int z)) (fun h => by rw [hret] at h; cases h) hlk
  subst eT
  exact ⟨_, _, retI X hx hret hd hr, hrun, hended, _, _, rfl, hQ, ⟨_, rfl⟩, hW, hsame.mono hc hs⟩
theorem own_retN (X : Stand p l e R s m args below meth c T locs cells slots) (hx : p.tables.exec = Jvm.exec) (hlk : meth.locks = false) {t : FieldType} {pc : Nat} {Ls : Array Slot} {z : Int32} {rest : List Value} (hret : meth.sig.returnType = some t) (ht : t = .boolean ∨ t = .byte ∨ t = .char ∨ t = .short) (hd : decode c.code pc = .ok (.ireturn, 1)) {h : Heap} (eT : T.heap = h) (hQ : Q (some (.int (nar t z))) h locs) (hc : cells ≤ nc) (hs : slots ≤ ns) :
    own_Dn p e below s Q nc ns (T.setTop (mkF m pc Ls (.int z :: rest))) := by
  obtain ⟨fs, hr, hrun, hended, hW, hsame⟩ := X.leave (v := some (.int (nar t z))) (fun h => by rw [hret] at h; cases h) hlk
  subst eT
  exact ⟨_, _, retN X hx hret ht hd hr, hrun, hended, _, _, rfl, hQ, ⟨_, rfl⟩, hW, hsame.mono hc hs⟩
theorem own_retV (X : Stand p l e R s m args below meth c T locs cells slots) (hx : p.tables.exec = Jvm.exec) (hlk : meth.locks = false) {pc : Nat} {Ls : Array Slot} (hret : meth.sig.returnType = none) (hd : decode c.code pc = .ok (.return_, 1)) {h : Heap} (eT : T.heap = h) (hQ : Q none h locs) (hc : cells ≤ nc) (hs : slots ≤ ns) :
    own_Dn p e below s Q nc ns (T.setTop (mkF m pc Ls [])) := by
  obtain ⟨fs, hr, hrun, hended, hW, hsame⟩ := X.leave (v := none) (fun _ => rfl) hlk
  subst eT
  exact ⟨_, _, X.returnOut hx hret hd hr, hrun, hended, _, _, rfl, hQ, ⟨_, rfl⟩, hW, hsame.mono hc hs⟩
theorem own_retO (X : Stand p l e R s m args below meth c T locs cells slots) (hx : p.tables.exec = Jvm.exec) (hlk : meth.locks = false) {t : FieldType} {w : Value} {i : Instr} {pc : Nat} {Ls : Array Slot} {rest : List Value} (hret : meth.sig.returnType = some t) (hn : narrow t w = w)
    (hi : (i = .ireturn ∧ (t = .int ∨ t = .boolean ∨ t = .byte ∨ t = .char ∨ t = .short) ∧ ∃ z, w = .int z) ∨ (i = .lreturn ∧ t = .long ∧ ∃ z, w = .long z) ∨ (i = .dreturn ∧ t = .double ∧ ∃ z, w = .double z) ∨ (i = .freturn ∧ t = .float ∧ ∃ z, w = .float z) ∨ (i = .areturn ∧ t.isReference = true ∧ w.isRef = true))
    (hd : decode c.code pc = .ok (i, 1)) {h : Heap} (eT : T.heap = h) (hQ : Q (some w) h locs) (hc : cells ≤ nc) (hs : slots ≤ ns) : own_Dn p e below s Q nc ns (T.setTop (mkF m pc Ls (w :: rest))) := by
  obtain ⟨fs, hr, hrun, hended, hW, hsame⟩ := X.leave (v := some w) (fun h => by rw [hret] at h; cases h) hlk
  subst eT
  exact ⟨_, _, retOut X hx hret hn hi hd hr, hrun, hended, _, _, rfl, hQ, ⟨_, rfl⟩, hW, hsame.mono hc hs⟩
theorem own_mono {cells' slots' : Nat} (X : Stand p l e R s m args below meth c T locs cells slots) (h1 : cells ≤ cells') (h2 : slots ≤ slots') : Stand p l e R s m args below meth c T locs cells' slots' :=
  ⟨X.admits, X.cas, X.clock, X.frames, X.room, X.hears, X.method, X.code, X.here, X.tail, X.warmed, X.limits, X.bytes, X.same.mono h1 h2⟩
theorem own_callS {Z : State} {a0 : Array Value} {h : Heap} {own : String} {index : Nat} {y : MethodName} {bytes : ByteArray} {maxL : Nat} {ret : Option FieldType} {rm : Room} {as : Array Value} {Q' : Option Value → Heap → List Loc → Prop}
    (X : Stand p l e R s m args below meth c T locs cells slots) (hx : p.tables.exec = Jvm.exec) (hZ : Z.Warmed39 s.vm) (hown : s.vm.findClass own = some m.cls)
    (w1 : (Cond.methodLink own index y).before a0 Z = true) (w2 : (Cond.static y).before a0 Z = true) (w3 : (Cond.initialized y.cls).before a0 Z = true) (w4 : (Cond.code y bytes maxL ret).before a0 Z = true) (hy : y.cls ≠ "java/lang/invoke/MethodHandle" ∧ y.cls ≠ "java/lang/invoke/VarHandle")
    (M : own_Met l Z y [] bytes maxL ret rm as h Q') (eT : T.heap = h) {W : Nat} (hf : rm.frames + 1 ≤ R.frames) (hl : W + (maxL + 11) + rm.locals ≤ R.locals) (hc : cells + rm.cells ≤ R.cells) (hs : slots + rm.slots ≤ R.slots)
    {g : JFrame} (hg : g.method = m) (hsize : g.locals.size = c.maxLocals) {argsL rest : List Value} (has : argsL.toArray = as) (hlen : ∀ sig, parseMethodDescriptor y.desc = some sig → argsL.length = sig.parameters.length)
    (hstack : g.stack = argsL.reverse ++ rest) (hW : 2 * g.monitorRoom + (rest.map fun v => v.category).sum ≤ W) (hd : decode c.code g.pc = .ok (.invokestatic index, 3))
    (k : ∀ v T' L, Q' v T'.heap L → Stand p l e R s m args below meth c T' (locs ++ L) (cells + rm.cells) (slots + rm.slots) → own_Dn p e below s Q nc ns (T'.setTop { g with pc := g.pc + 3, stack := v.toList ++ rest })) :
    own_Dn p e below s Q nc ns (T.setTop g) := by
  obtain ⟨v, _, ⟨T', L', k', n'⟩, -, X', ⟨Lc, hQ, l1, y1, z1⟩, st⟩ := Jvm.LawKit.callS X hx hown (mvT hZ w1) (mvT hZ w2) (mvT hZ w3) (mvT hZ w4) hy (backOf (W := W) M hZ w4 w3 hf hl) hg hsize (argsL := argsL) (rest := rest) hlen hstack hW hd (fun _ _ => ⟨has, eT, hc, hs⟩)
  dsimp only [Pt.U, Pt.locs, Pt.cells, Pt.slots] at X' l1 y1 z1 st hQ
  subst l1 y1 z1
  exact own_st (fun t q => st t q) (k v T' Lc hQ X')
theorem own_callI {Z : State} {a0 : Array Value} {h : Heap} {own : String} {index : Nat} {y : MethodName} {bytes : ByteArray} {maxL : Nat} {rm : Room} {as : Array Value} {Q' : Option Value → Heap → List Loc → Prop}
    (X : Stand p l e R s m args below meth c T locs cells slots) (hx : p.tables.exec = Jvm.exec) (hZ : Z.Warmed39 s.vm) (hown : s.vm.findClass own = some m.cls) (hy1 : y.name = "<init>")
    (w1 : (Cond.methodLink own index y).before a0 Z = true) (w2 : (Cond.instanceMethod y).before a0 Z = true) (w3 : (Cond.initialized y.cls).before a0 Z = true) (w4 : (Cond.code y bytes maxL none).before a0 Z = true) (hy : y.cls ≠ "java/lang/invoke/MethodHandle" ∧ y.cls ≠ "java/lang/invoke/VarHandle")
    (M : own_Met l Z y [] bytes maxL none rm as h Q') (eT : T.heap = h) {W : Nat} (hf : rm.frames + 1 ≤ R.frames) (hl : W + (maxL + 11) + rm.locals ≤ R.locals) (hc : cells + rm.cells ≤ R.cells) (hs : slots + rm.slots ≤ R.slots)
    {g : JFrame} (hg : g.method = m) (hsize : g.locals.size = c.maxLocals) {a : Addr} {argsL rest : List Value} (has : (.ref a :: argsL).toArray = as) (hlen : ∀ sig, parseMethodDescriptor y.desc = some sig → argsL.length = sig.parameters.length)
    (hstack : g.stack = argsL.reverse ++ .ref a :: rest) (hW : 2 * g.monitorRoom + (rest.map fun v => v.category).sum ≤ W) (hd : decode c.code g.pc = .ok (.invokespecial index, 3))
    (k : ∀ v T' L, Q' v T'.heap L → Stand p l e R s m args below meth c T' (locs ++ L) (cells + rm.cells) (slots + rm.slots) → own_Dn p e below s Q nc ns (T'.setTop { g with pc := g.pc + 3, stack := v.toList ++ rest })) :
    own_Dn p e below s Q nc ns (T.setTop g) := by
  obtain ⟨v, _, ⟨T', L', k', n'⟩, -, X', ⟨Lc, hQ, l1, y1, z1⟩, st⟩ := X.specialBack hx hy1 hown (mvT hZ w1) (mvT hZ w2) (mvT hZ w4) hy (backOf (W := W) M hZ w4 w3 hf hl) hg hsize (Steps.refl _) (a := a) (argsL := argsL) (rest := rest) hlen hstack hW hd (fun _ _ => ⟨has, eT, hc, hs⟩)
  dsimp only [Pt.U, Pt.locs, Pt.cells, Pt.slots] at X' l1 y1 z1 st hQ
  subst l1 y1 z1
  exact own_st (fun t q => st.trans q) (k v T' Lc hQ X')
theorem own_callV {Z : State} {a0 : Array Value} {h : Heap} {own C : String} {index : Nat} {y : MethodName} {bytes : ByteArray} {maxL : Nat} {ret : Option FieldType} {rm : Room} {as : Array Value} {Q' : Option Value → Heap → List Loc → Prop}
    (X : Stand p l e R s m args below meth c T locs cells slots) (hx : p.tables.exec = Jvm.exec) (hZ : Z.Warmed39 s.vm) (hown : s.vm.findClass own = some m.cls)
    (w1 : (Cond.methodLink own index y).before a0 Z = true) (w2 : (Cond.declares y).before a0 Z = true) (w5 : (Cond.selects C y y).before a0 Z = true) (w6 : (Cond.instanceMethod y).before a0 Z = true) (w3 : (Cond.initialized y.cls).before a0 Z = true) (w4 : (Cond.code y bytes maxL ret).before a0 Z = true) (hy : y.cls ≠ "java/lang/invoke/MethodHandle" ∧ y.cls ≠ "java/lang/invoke/VarHandle")
    (M : own_Met l Z y [] bytes maxL ret rm as h Q') (eT : T.heap = h) {b : Addr} (E : Exa Z h b C) {W : Nat} (hf : rm.frames + 1 ≤ R.frames) (hl : W + (maxL + 11) + rm.locals ≤ R.locals) (hc : cells + rm.cells ≤ R.cells) (hs : slots + rm.slots ≤ R.slots)
    {g : JFrame} (hg : g.method = m) (hsize : g.locals.size = c.maxLocals) {argsL rest : List Value} (has : (.ref b :: argsL).toArray = as) (hlen : ∀ sig, parseMethodDescriptor y.desc = some sig → argsL.length = sig.parameters.length)
    (hstack : g.stack = argsL.reverse ++ .ref b :: rest) (hW : 2 * g.monitorRoom + (rest.map fun v => v.category).sum ≤ W) (hd : decode c.code g.pc = .ok (.invokevirtual index, 3))
    (k : ∀ v T' L, Q' v T'.heap L → Stand p l e R s m args below meth c T' (locs ++ L) (cells + rm.cells) (slots + rm.slots) → own_Dn p e below s Q nc ns (T'.setTop { g with pc := g.pc + 3, stack := v.toList ++ rest })) :
    own_Dn p e below s Q nc ns (T.setTop g) := by
  obtain ⟨cq, kq, qa, qb, qc⟩ := isOf hZ eT E
  obtain ⟨v, _, ⟨T', L', k', n'⟩, -, X', ⟨Lc, hQ, l1, y1, z1⟩, st⟩ := X.virtualBack hx hown (mvT hZ w1) (mvT hZ w2) (notFace_of_selects (args := #[]) (mvT hZ w5)) (mvT hZ w5) (mvT hZ w6) hy (backOf (W := W) M hZ w4 w3 hf hl) qa qc hg hsize (Steps.refl _) (argsL := argsL) (rest := rest) hlen hstack hW hd (fun _ _ => ⟨has, eT, hc, hs⟩)
  dsimp only [Pt.U, Pt.locs, Pt.cells, Pt.slots] at X' l1 y1 z1 st hQ
  subst l1 y1 z1
  exact own_st (fun t q => st.trans q) (k v T' Lc hQ X')
theorem own_callF {Z : State} {a0 : Array Value} {h : Heap} {own C : String} {index count : Nat} {xi y : MethodName} {bytes : ByteArray} {maxL : Nat} {ret : Option FieldType} {rm : Room} {as : Array Value} {Q' : Option Value → Heap → List Loc → Prop}
    (X : Stand p l e R s m args below meth c T locs cells slots) (hx : p.tables.exec = Jvm.exec) (hZ : Z.Warmed39 s.vm) (hown : s.vm.findClass own = some m.cls)
    (w1 : (Cond.methodLink own index xi).before a0 Z = true) (w2 : (Cond.declares xi).before a0 Z = true) (wf : (Cond.interfaceMethod xi.cls xi.cls xi.name xi.desc).before a0 Z = true) (w5 : (Cond.selects C xi y).before a0 Z = true) (w6 : (Cond.instanceMethod y).before a0 Z = true)
    (wp : (Cond.publicMethod y).before a0 Z = true) (wu : (Cond.unhidden C xi.name xi.desc).before a0 Z = true) (wk : (Cond.castable C xi.cls).before a0 Z = true) (w3 : (Cond.initialized y.cls).before a0 Z = true) (w4 : (Cond.code y bytes maxL ret).before a0 Z = true) (hy : xi.cls ≠ "java/lang/invoke/MethodHandle" ∧ xi.cls ≠ "java/lang/invoke/VarHandle")
    (M : own_Met l Z y [] bytes maxL ret rm as h Q') (eT : T.heap = h) {b : Addr} (E : Exa Z h b C) {W : Nat} (hf : rm.frames + 1 ≤ R.frames) (hl : W + (maxL + 11) + rm.locals ≤ R.locals) (hc : cells + rm.cells ≤ R.cells) (hs : slots + rm.slots ≤ R.slots)
    {g : JFrame} (hg : g.method = m) (hsize : g.locals.size = c.maxLocals) {argsL rest : List Value} (has : (.ref b :: argsL).toArray = as) (hlen : ∀ sig, parseMethodDescriptor xi.desc = some sig → argsL.length = sig.parameters.length)
    (hstack : g.stack = argsL.reverse ++ .ref b :: rest) (hW : 2 * g.monitorRoom + (rest.map fun v => v.category).sum ≤ W) (hd : decode c.code g.pc = .ok (.invokeinterface index count, 5))
    (k : ∀ v T' L, Q' v T'.heap L → Stand p l e R s m args below meth c T' (locs ++ L) (cells + rm.cells) (slots + rm.slots) → own_Dn p e below s Q nc ns (T'.setTop { g with pc := g.pc + 5, stack := v.toList ++ rest })) :
    own_Dn p e below s Q nc ns (T.setTop g) := by
  obtain ⟨cq, kq, qa, qb, qc⟩ := isOf hZ eT E
  have hfc : ((Cond.interfaceMethod xi.cls xi.cls xi.name xi.desc).onTables && (Cond.interfaceMethod xi.cls xi.cls xi.name xi.desc).keepsFace) = true := by simp [Cond.onTables, Cond.keepsFace, Cond.keeps, Cond.steady, Cond.faceAtom, hy.1, hy.2]
  obtain ⟨v, _, ⟨T', L', k', n'⟩, -, X', ⟨Lc, hQ, l1, y1, z1⟩, st⟩ := X.interfaceBack hx hown (mvT hZ w1) (mvT hZ w2) (mvT hZ wf hfc) (mvT hZ w5) (mvT hZ w6) (mvT hZ wp) (mvT hZ wu) (mvT hZ wk) hy (backOf (W := W) M hZ w4 w3 hf hl) qa qb qc hg hsize (Steps.refl _) (argsL := argsL) (rest := rest) hlen hstack hW hd (fun _ _ => ⟨has, eT, hc, hs⟩)
  dsimp only [Pt.U, Pt.locs, Pt.cells, Pt.slots] at X' l1 y1 z1 st hQ
  subst l1 y1 z1
  exact own_st (fun t q => st.trans q) (k v T' Lc hQ X')
theorem own_lrem {tb : Tables} [Ours tb] {e : Env} {below : List Frame} {T target : State} {m : MethodId} {c : Code} {g : JFrame} (h : At T m c below) (hx : tb.exec = Jvm.exec) (hg : g.method = m) {x y : Int64} {rest : List Value} (hd : decode c.code g.pc = .ok (.lrem, 1)) (hs : g.stack = .long y :: .long x :: rest) (hy : y ≠ 0)
    (hr : Steps tb e below (T.setTop { g with pc := g.pc + 1, stack := .long (x % y) :: rest }) target) : Steps tb e below (T.setTop g) target :=
  Jvm.Free.XT.lrem h hx hg hd hs hy (by rw [lrem_mod]; exact hr)
theorem own_ltT {x y : Int32} (h : x < y) : x.toInt < y.toInt := Int32.lt_iff_toInt_lt.mp h
theorem own_ltF {x y : Int32} (h : ¬ x < y) : y.toInt ≤ x.toInt := by rw [Int32.lt_iff_toInt_lt] at h; omega
theorem own_eqT {x y : Int32} (h : x = y) : x.toInt = y.toInt := congrArg _ h
theorem own_eqF {x y : Int32} (h : ¬ x = y) : ¬ x.toInt = y.toInt := fun q => h (Int32.toInt_inj.mp q)
theorem own_lt {x y : Int32} (h : x.toInt < y.toInt) : x < y := Int32.lt_iff_toInt_lt.mpr h
theorem own_nlt {x y : Int32} (h : y.toInt ≤ x.toInt) : ¬ x < y := by rw [Int32.lt_iff_toInt_lt]; omega
theorem own_eq {x y : Int32} (h : x.toInt = y.toInt) : x = y := Int32.toInt_inj.mp h
theorem own_ne {x y : Int32} (h : ¬ x.toInt = y.toInt) : ¬ x = y := fun q => h (congrArg _ q)
theorem own_cat1 {v : Value} (h : v.isRef = true) : v.category = 1 := by cases v <;> simp_all [Value.isRef, Value.category]
theorem own_dupX2 {tb : Tables} [Ours tb] {e : Env} {below : List Frame} {T target : State} {m : MethodId} {c : Code} {g : JFrame} (h : At T m c below) (hx : tb.exec = Jvm.exec) (hg : g.method = m) {x y z : Value} {rest : List Value} (hd : decode c.code g.pc = .ok (.dup_x2, 1)) (hs : g.stack = x :: y :: z :: rest) (hc : x.category = 1) (hc' : y.category = 1) (hc'' : z.category = 1)
    (hr : Steps tb e below (T.setTop { g with pc := g.pc + 1, stack := x :: y :: z :: x :: rest }) target) : Steps tb e below (T.setTop g) target := by
  subst hg
  jvm_step h [h.top, hx, hd, hs, hc, hc', hc'']
  exact hr
end Own
section OwnArr
variable {p : Program} {l : Launch} {e : Env} {R : Room} {s : State} {m : MethodId} {args : Array Value} {below : List Frame} {meth : Method} {c : Code} {T : State} {locs : List Loc} {cells slots : Nat} {Q : Option Value → Heap → List Loc → Prop} {nc ns : Nat} {Z : State} {h h' : Heap} {a b : Addr} {xs : List Int32} {sl : Nat} {v : Value} {ws : List Addr} {ty : FieldType}
/-- in heap h an array of ints (or booleans) stands at a and holds xs -/
def own_IA (Z : State) (h : Heap) (a : Addr) (ty : FieldType) (xs : List Int32) : Prop := ∃ cl : Cell, Arr Z h a cl ty ∧ cl.slots.size = xs.length ∧ ∀ i, i < xs.length → cl.slots[i]? = some (.int (xs.getD i 0))
theorem own_IA.lt (F : own_IA Z h a ty xs) : a < h.size := by obtain ⟨_, A, -⟩ := F; exact A.lt
theorem own_IA.ext (F : own_IA Z h a ty xs) (E : Ext h h') : own_IA Z h' a ty xs := by obtain ⟨cl, A, r⟩ := F; exact ⟨cl, A.ext E, r⟩
theorem own_IA.other (F : own_IA Z h a ty xs) (W : Wr h h' b sl v) (q : a ≠ b) : own_IA Z h' a ty xs := by obtain ⟨cl, A, r⟩ := F; exact ⟨cl, A.other W q, r⟩
theorem own_IA.keep (F : own_IA Z h a ty xs) (K : Keep h h' ws) (q : a ∉ ws) : own_IA Z h' a ty xs := by obtain ⟨cl, A, r⟩ := F; exact ⟨cl, ⟨K.2.1 a cl A.1 q, A.2⟩, r⟩
theorem own_IA.set {j : Nat} {x : Int32} (F : own_IA Z h a ty xs) (W : Wr h h' a j (.int x)) : own_IA Z h' a ty (xs.set j x) := by
  obtain ⟨cl, A, S, H⟩ := F
  obtain ⟨cl', h1, h2, h3, h4, -, h6, h7⟩ := wr_at W A.1
  obtain ⟨e1, e2, -⟩ := h7 rfl
  refine ⟨cl.setSlot j (.int x), A.same W, by rw [sz_set, S, List.length_set], fun i hi => ?_⟩
  rw [List.length_set] at hi
  rw [← e1]
  by_cases q : i = j
  · subst q
    rw [e2, List.getD_eq_getElem?_getD, List.getElem?_set_self hi]; rfl
  · rw [h6 i q, H i hi, List.getD_eq_getElem?_getD, List.getD_eq_getElem?_getD, List.getElem?_set_ne (Ne.symm q)]
theorem own_IA.newI {k : ClassId} {n : Int32} (A : Arr Z h a (newA k .int n) .int) : own_IA Z h a .int (List.replicate n.toNatClampNeg 0) :=
  ⟨_, A, by rw [sz_new, List.length_replicate], fun i hi => by rw [List.length_replicate] at hi; simp [newA, hi, defaultValue]⟩
theorem own_IA.newZ {k : ClassId} {n : Int32} (A : Arr Z h a (newA k .boolean n) .boolean) : own_IA Z h a .boolean (List.replicate n.toNatClampNeg 0) :=
  ⟨_, A, by rw [sz_new, List.length_replicate], fun i hi => by rw [List.length_replicate] at hi; simp [newA, hi, defaultValue]⟩
theorem own_cl {j : Int32} (h0 : 0 ≤ j.toInt) : (j.toNatClampNeg : Int) = j.toInt := by rw [Int32.toNatClampNeg]; exact Int.toNat_of_nonneg h0
theorem own_inb {j : Int32} {cl : Cell} (S : cl.slots.size = xs.length) (h0 : 0 ≤ j.toInt) (h1 : j.toInt < xs.length) : ¬ (j < 0 ∨ cl.slots.size ≤ j.toNatClampNeg) := by
  have e1 := own_cl h0
  rintro (q | q)
  · have := own_ltT q
    have e0 : (0 : Int32).toInt = 0 := rfl
    omega
  · omega
theorem own_iaload (X : Stand p l e R s m args below meth c T locs cells slots) (hx : p.tables.exec = Jvm.exec) (hZ : Z.Warmed39 s.vm) (eT : T.heap = h) (F : own_IA Z h a .int xs) {j w : Int32} (h0 : 0 ≤ j.toInt) (h1 : j.toInt < xs.length) (hw : xs.getD j.toNatClampNeg 0 = w)
    {g : JFrame} (hg : g.method = m) {rest : List Value} (hs : g.stack = .int j :: .ref a :: rest) (hd : decode c.code g.pc = .ok (.iaload, 1)) (k : own_Dn p e below s Q nc ns (T.setTop { g with pc := g.pc + 1, stack := .int w :: rest })) : own_Dn p e below s Q nc ns (T.setTop g) := by
  obtain ⟨cl, A, S, H⟩ := F
  have e1 := own_cl h0
  subst hw
  exact own_st (fun t q => X.iaload hx (by rw [eT]; exact A.1) (State.isArrayOf_alike hZ.alike A.2.1) A.2.2 (own_inb S h0 h1) (H _ (by omega)) hg hs hd t q) k
theorem own_baloadZ (X : Stand p l e R s m args below meth c T locs cells slots) (hx : p.tables.exec = Jvm.exec) (hZ : Z.Warmed39 s.vm) (eT : T.heap = h) (F : own_IA Z h a .boolean xs) {j w : Int32} (h0 : 0 ≤ j.toInt) (h1 : j.toInt < xs.length) (hw : xs.getD j.toNatClampNeg 0 = w)
    {g : JFrame} (hg : g.method = m) {rest : List Value} (hs : g.stack = .int j :: .ref a :: rest) (hd : decode c.code g.pc = .ok (.baload, 1)) (k : own_Dn p e below s Q nc ns (T.setTop { g with pc := g.pc + 1, stack := .int w :: rest })) : own_Dn p e below s Q nc ns (T.setTop g) := by
  obtain ⟨cl, A, S, H⟩ := F
  have e1 := own_cl h0
  subst hw
  exact own_st (fun t q => X.baloadBooleans hx (by rw [eT]; exact A.1) (State.isArrayOf_alike hZ.alike A.2.1) A.2.2 (own_inb S h0 h1) (H _ (by omega)) hg hs hd t q) k
theorem own_len (X : Stand p l e R s m args below meth c T locs cells slots) (hx : p.tables.exec = Jvm.exec) (hZ : Z.Warmed39 s.vm) (eT : T.heap = h) (F : own_IA Z h a ty xs) {w : Int32} (hw : xs.length.toInt32 = w)
    {g : JFrame} (hg : g.method = m) {rest : List Value} (hs : g.stack = .ref a :: rest) (hd : decode c.code g.pc = .ok (.arraylength, 1)) (k : own_Dn p e below s Q nc ns (T.setTop { g with pc := g.pc + 1, stack := .int w :: rest })) : own_Dn p e below s Q nc ns (T.setTop g) := by
  obtain ⟨cl, A, S, H⟩ := F
  subst hw
  exact own_st (fun t q => X.arraylength hx (by rw [eT]; exact A.1) (State.isArrayOf_alike hZ.alike A.2.1) hg hs hd t (by rw [S]; exact q)) k
theorem own_iastore (X : Stand p l e R s m args below meth c T locs cells slots) (hx : p.tables.exec = Jvm.exec) (hZ : Z.Warmed39 s.vm) (eT : T.heap = h) (F : own_IA Z h a .int xs) {j x : Int32} (h0 : 0 ≤ j.toInt) (h1 : j.toInt < xs.length)
    {g : JFrame} (hg : g.method = m) {rest : List Value} (hs : g.stack = .int x :: .int j :: .ref a :: rest) (hd : decode c.code g.pc = .ok (.iastore, 1)) :
    ∃ T' h', Stand p l e R s m args below meth c T' (locs ++ [⟨a, j.toNatClampNeg⟩]) cells slots ∧ T'.heap = h' ∧ Wr h h' a j.toNatClampNeg (.int x) ∧ own_IA Z h' a .int (xs.set j.toNatClampNeg x) ∧ ∀ target, Steps p.tables e below (T'.setTop { g with pc := g.pc + 1, stack := rest }) target → Steps p.tables e below (T.setTop g) target := by
  obtain ⟨cl, A, S, H⟩ := F
  obtain ⟨T', h', X', e', W', st'⟩ := stI X hx hZ eT A (own_inb S h0 h1) hg hs hd
  exact ⟨T', h', X', e', W', own_IA.set ⟨cl, A, S, H⟩ W', st'⟩
theorem own_bastoreZ (X : Stand p l e R s m args below meth c T locs cells slots) (hx : p.tables.exec = Jvm.exec) (hZ : Z.Warmed39 s.vm) (eT : T.heap = h) (F : own_IA Z h a .boolean xs) {j x : Int32} (h0 : 0 ≤ j.toInt) (h1 : j.toInt < xs.length)
    {g : JFrame} (hg : g.method = m) {rest : List Value} (hs : g.stack = .int x :: .int j :: .ref a :: rest) (hd : decode c.code g.pc = .ok (.bastore, 1)) :
    ∃ T' h', Stand p l e R s m args below meth c T' (locs ++ [⟨a, j.toNatClampNeg⟩]) cells slots ∧ T'.heap = h' ∧ Wr h h' a j.toNatClampNeg (.int (nar .boolean x)) ∧ own_IA Z h' a .boolean (xs.set j.toNatClampNeg (nar .boolean x)) ∧ ∀ target, Steps p.tables e below (T'.setTop { g with pc := g.pc + 1, stack := rest }) target → Steps p.tables e below (T.setTop g) target := by
  obtain ⟨cl, A, S, H⟩ := F
  obtain ⟨T', h', X', e', W', st'⟩ := stZ X hx hZ eT A (own_inb S h0 h1) hg hs hd
  exact ⟨T', h', X', e', W', own_IA.set ⟨cl, A, S, H⟩ W', st'⟩
end OwnArr
def own_W (Z : State) (h : Heap) (n0 : Nat) (a wo lf : Addr) (W S nx : Int32) (ws ls : List Int32) : Prop := Exa Z h a "com/example/flowstate/flowstate/runtime/BlocksInTurn" ∧ Fld Z h a "com/example/flowstate/flowstate/runtime/BlocksInTurn" "workers" "I" (.int W) ∧ Fld Z h a "com/example/flowstate/flowstate/runtime/BlocksInTurn" "size" "I" (.int S) ∧ Fld Z h a "com/example/flowstate/flowstate/runtime/BlocksInTurn" "workerOf" "[I" (.ref wo) ∧ Fld Z h a "com/example/flowstate/flowstate/runtime/BlocksInTurn" "left" "[I" (.ref lf) ∧ Fld Z h a "com/example/flowstate/flowstate/runtime/BlocksInTurn" "next" "I" (.int nx) ∧ own_IA Z h wo .int ws ∧ own_IA Z h lf .int ls ∧ (ws.length = 3 ∧ ls.length = 3) ∧ (n0 ≤ a ∧ n0 ≤ wo ∧ n0 ≤ lf) ∧ a ≠ wo ∧ a ≠ lf ∧ wo ≠ lf
def own_max (x y : Int32) : Int32 := if x < y then y else x
theorem ef_rmM (m : MethodId) (x0 : Int32) (x1 : Int32) : entryFrame m #[(.int x0), (.int x1)] 2 = mkF m 0 #[.val (.int x0), .val (.int x1)] [] := by first | (simp [entryFrame, mkF, argsToLocals, Value.category]; done) | rfl
theorem d_rmM_0 : decode jdk_29_method_65_code 0 = .ok (.iload_n 0, 1) := by decide +kernel
theorem d_rmM_1 : decode jdk_29_method_65_code 1 = .ok (.iload_n 1, 1) := by decide +kernel
theorem d_rmM_2 : decode jdk_29_method_65_code 2 = .ok (.if_icmp .lt 7, 3) := by decide +kernel
theorem d_rmM_5 : decode jdk_29_method_65_code 5 = .ok (.iload_n 0, 1) := by decide +kernel
theorem d_rmM_6 : decode jdk_29_method_65_code 6 = .ok (.goto 4, 3) := by decide +kernel
theorem d_rmM_9 : decode jdk_29_method_65_code 9 = .ok (.iload_n 1, 1) := by decide +kernel
theorem d_rmM_10 : decode jdk_29_method_65_code 10 = .ok (.ireturn, 1) := by decide +kernel
set_option maxRecDepth 65536 in
set_option maxHeartbeats 40000000 in
theorem rmM (l : Launch) (Z : State) (a0 : Array Value) (hw : ∀ d ∈ tables_1, d.before a0 Z = true) (ws : List Jvm.Cond) (x y : Int32) (h0 : Heap) (n0 : Nat) (Z0 : n0 ≤ h0.size) :
    own_Met l Z (⟨"java/lang/Math", "max", "(II)I"⟩ : MethodName) ws jdk_29_method_65_code 2 (some .int) ({ frames := 0, cells := 0, slots := 0, locals := 0 } : Room) #[(.int x), (.int y)] h0 (fun v h L => v = some (.int (own_max x y)) ∧ Fr n0 L ∧ h = h0) := by
  refine own_body (y := (⟨"java/lang/Math", "max", "(II)I"⟩ : MethodName)) (Jvm.Free.JP.mathPlain rfl (by decide +kernel)) ?_
  intro p e s m below meth c s₁ hx hby hml hown hnm hret hlk hZ X0 e0
  have hml : c.maxLocals = 2 := hml
  have hown : s.vm.findClass "java/lang/Math" = some m.cls := hown
  have N0 := Fr.nil n0
  refine own_entry (ef_rmM m x y) ?_
  show own_Dn p e below s (fun v h L => v = some (.int (own_max x y)) ∧ Fr n0 L ∧ h = h0) ({ frames := 0, cells := 0, slots := 0, locals := 0 } : Room).cells ({ frames := 0, cells := 0, slots := 0, locals := 0 } : Room).slots (s₁.setTop (mkF m 0 #[.val (.int x), .val (.int y)] []))
  refine own_st (q' := s₁.setTop (mkF m 1 #[.val (.int x), .val (.int y)] [(.int x)])) (fun _ k => XS.iloadN X0.here hx rfl (hb hby d_rmM_0) rfl k) ?_
  refine own_st (q' := s₁.setTop (mkF m 2 #[.val (.int x), .val (.int y)] [(.int y), (.int x)])) (fun _ k => XS.iloadN X0.here hx rfl (hb hby d_rmM_1) rfl k) ?_
  by_cases hc2_101 : x < y
  · skip
    have hc2_101I : (x).toInt < (y).toInt := own_ltT hc2_101
    refine own_st (q' := s₁.setTop (mkF m 9 #[.val (.int x), .val (.int y)] [])) (fun _ k => XS.icmpYes X0.here hx rfl (pc0 := 2) (pc' := 9) rfl (hb hby d_rmM_2) rfl (tlt hc2_101).1 (by decide) (by decide) k) ?_
    refine own_st (q' := s₁.setTop (mkF m 10 #[.val (.int x), .val (.int y)] [(.int y)])) (fun _ k => XS.iloadN X0.here hx rfl (hb hby d_rmM_9) rfl k) ?_
    exact own_retI X0 hx hlk hret (hb hby d_rmM_10) e0 (by exact ⟨(by unfold own_max; rw [if_pos hc2_101]), N0, rfl⟩) (by decide) (by decide)
  · skip
    have hc2_101I : (y).toInt ≤ (x).toInt := own_ltF hc2_101
    refine own_st (q' := s₁.setTop (mkF m 5 #[.val (.int x), .val (.int y)] [])) (fun _ k => XS.icmpNo X0.here hx rfl (hb hby d_rmM_2) rfl (flt hc2_101).1 k) ?_
    refine own_st (q' := s₁.setTop (mkF m 6 #[.val (.int x), .val (.int y)] [(.int x)])) (fun _ k => XS.iloadN X0.here hx rfl (hb hby d_rmM_5) rfl k) ?_
    refine own_st (q' := s₁.setTop (mkF m 10 #[.val (.int x), .val (.int y)] [(.int x)])) (fun _ k => XS.goto X0.here hx rfl (pc0 := 6) (pc' := 10) rfl (hb hby d_rmM_6) (by decide) (by decide) k) ?_
    exact own_retI X0 hx hlk hret (hb hby d_rmM_10) e0 (by exact ⟨(by unfold own_max; rw [if_neg hc2_101]), N0, rfl⟩) (by decide) (by decide)
def own_part (x i : Int32) : Int32 := ((x.toUInt32 >>> (((2 : Int32) * i) &&& 31).toUInt32).toInt32 &&& (3 : Int32)) % (3 : Int32)
theorem own_part_r (x i : Int32) : 0 ≤ (own_part x i).toInt ∧ (own_part x i).toInt ≤ 2 := by
  have l3 : (3 : Int32).toInt = 3 := rfl
  have h := c_and (x.toUInt32 >>> (((2 : Int32) * i) &&& 31).toUInt32).toInt32 3 (by decide)
  unfold own_part
  rw [Int32.toInt_mod, l3, Int.tmod_eq_emod_of_nonneg h.1]
  omega
theorem pn_0 : plainName "com/example/flowstate/flowstate/runtime/BlocksInTurnWorkerPinLaw" = true := by first | (simp [plainName, overriddenIn]; done) | decide +kernel
theorem ef_rmP (m : MethodId) (x0 : Int32) (x1 : Int32) : entryFrame m #[(.int x0), (.int x1)] 2 = mkF m 0 #[.val (.int x0), .val (.int x1)] [] := by first | (simp [entryFrame, mkF, argsToLocals, Value.category]; done) | rfl
theorem d_rmP_0 : decode method_3_code 0 = .ok (.iload_n 0, 1) := by decide +kernel
theorem d_rmP_1 : decode method_3_code 1 = .ok (.iconst 2, 1) := by decide +kernel
theorem d_rmP_2 : decode method_3_code 2 = .ok (.iload_n 1, 1) := by decide +kernel
theorem d_rmP_3 : decode method_3_code 3 = .ok (.imul, 1) := by decide +kernel
theorem d_rmP_4 : decode method_3_code 4 = .ok (.iushr, 1) := by decide +kernel
theorem d_rmP_5 : decode method_3_code 5 = .ok (.iconst 3, 1) := by decide +kernel
theorem d_rmP_6 : decode method_3_code 6 = .ok (.iand, 1) := by decide +kernel
theorem d_rmP_7 : decode method_3_code 7 = .ok (.iconst 3, 1) := by decide +kernel
theorem d_rmP_8 : decode method_3_code 8 = .ok (.irem, 1) := by decide +kernel
theorem d_rmP_9 : decode method_3_code 9 = .ok (.ireturn, 1) := by decide +kernel
set_option maxRecDepth 65536 in
set_option maxHeartbeats 40000000 in
theorem rmP (l : Launch) (Z : State) (a0 : Array Value) (hw : ∀ d ∈ tables_1, d.before a0 Z = true) (ws : List Jvm.Cond) (x i : Int32) (h0 : Heap) (n0 : Nat) (Z0 : n0 ≤ h0.size) :
    own_Met l Z (⟨"com/example/flowstate/flowstate/runtime/BlocksInTurnWorkerPinLaw", "part", "(II)I"⟩ : MethodName) ws method_3_code 2 (some .int) ({ frames := 0, cells := 0, slots := 0, locals := 0 } : Room) #[(.int x), (.int i)] h0 (fun v h L => v = some (.int (own_part x i)) ∧ Fr n0 L ∧ h = h0) := by
  refine own_body (y := (⟨"com/example/flowstate/flowstate/runtime/BlocksInTurnWorkerPinLaw", "part", "(II)I"⟩ : MethodName)) (plainFor_of_name pn_0) ?_
  intro p e s m below meth c s₁ hx hby hml hown hnm hret hlk hZ X0 e0
  have hml : c.maxLocals = 2 := hml
  have hown : s.vm.findClass "com/example/flowstate/flowstate/runtime/BlocksInTurnWorkerPinLaw" = some m.cls := hown
  have N0 := Fr.nil n0
  refine own_entry (ef_rmP m x i) ?_
  show own_Dn p e below s (fun v h L => v = some (.int (own_part x i)) ∧ Fr n0 L ∧ h = h0) ({ frames := 0, cells := 0, slots := 0, locals := 0 } : Room).cells ({ frames := 0, cells := 0, slots := 0, locals := 0 } : Room).slots (s₁.setTop (mkF m 0 #[.val (.int x), .val (.int i)] []))
  refine own_st (q' := s₁.setTop (mkF m 1 #[.val (.int x), .val (.int i)] [(.int x)])) (fun _ k => XS.iloadN X0.here hx rfl (hb hby d_rmP_0) rfl k) ?_
  refine own_st (q' := s₁.setTop (mkF m 2 #[.val (.int x), .val (.int i)] [(.int (2 : Int32)), (.int x)])) (fun _ k => XS.iconst X0.here hx rfl (hb hby d_rmP_1) k) ?_
  refine own_st (q' := s₁.setTop (mkF m 3 #[.val (.int x), .val (.int i)] [(.int i), (.int (2 : Int32)), (.int x)])) (fun _ k => XS.iloadN X0.here hx rfl (hb hby d_rmP_2) rfl k) ?_
  refine own_st (q' := s₁.setTop (mkF m 4 #[.val (.int x), .val (.int i)] [(.int ((2 : Int32) * i)), (.int x)])) (fun _ k => XS.imul X0.here hx rfl (hb hby d_rmP_3) rfl k) ?_
  refine own_st (q' := s₁.setTop (mkF m 5 #[.val (.int x), .val (.int i)] [(.int ((x.toUInt32 >>> (((2 : Int32) * i) &&& 31).toUInt32).toInt32))])) (fun _ k => XS.iushr X0.here hx rfl (hb hby d_rmP_4) rfl k) ?_
  refine own_st (q' := s₁.setTop (mkF m 6 #[.val (.int x), .val (.int i)] [(.int (3 : Int32)), (.int ((x.toUInt32 >>> (((2 : Int32) * i) &&& 31).toUInt32).toInt32))])) (fun _ k => XS.iconst X0.here hx rfl (hb hby d_rmP_5) k) ?_
  refine own_st (q' := s₁.setTop (mkF m 7 #[.val (.int x), .val (.int i)] [(.int (((x.toUInt32 >>> (((2 : Int32) * i) &&& 31).toUInt32).toInt32) &&& (3 : Int32)))])) (fun _ k => XS.iand X0.here hx rfl (hb hby d_rmP_6) rfl k) ?_
  refine own_st (q' := s₁.setTop (mkF m 8 #[.val (.int x), .val (.int i)] [(.int (3 : Int32)), (.int (((x.toUInt32 >>> (((2 : Int32) * i) &&& 31).toUInt32).toInt32) &&& (3 : Int32)))])) (fun _ k => XS.iconst X0.here hx rfl (hb hby d_rmP_7) k) ?_
  refine own_st (q' := s₁.setTop (mkF m 9 #[.val (.int x), .val (.int i)] [(.int ((((x.toUInt32 >>> (((2 : Int32) * i) &&& 31).toUInt32).toInt32) &&& (3 : Int32)) % (3 : Int32)))])) (fun _ k => iremM X0 hx rfl (hb hby d_rmP_8) rfl (by decide) k) ?_
  exact own_retI X0 hx hlk hret (hb hby d_rmP_9) e0 (by exact ⟨rfl, N0, rfl⟩) (by decide) (by decide)
theorem pn_1 : plainName "com/example/flowstate/flowstate/runtime/BlocksInTurn" = true := by first | (simp [plainName, overriddenIn]; done) | decide +kernel
theorem ef_rmI (m : MethodId) (x0 : Addr) (x1 : Int32) (x2 : Int32) (x3 : Int32) : entryFrame m #[(.ref x0), (.int x1), (.int x2), (.int x3)] 4 = mkF m 0 #[.val (.ref x0), .val (.int x1), .val (.int x2), .val (.int x3)] [] := by first | (simp [entryFrame, mkF, argsToLocals, Value.category]; done) | rfl
theorem d_rmI_0 : decode prog_47_method_1_code 0 = .ok (.aload_n 0, 1) := by decide +kernel
theorem d_rmI_1 : decode prog_47_method_1_code 1 = .ok (.invokespecial 1, 3) := by decide +kernel
theorem d_rmI_4 : decode prog_47_method_1_code 4 = .ok (.aload_n 0, 1) := by decide +kernel
theorem d_rmI_5 : decode prog_47_method_1_code 5 = .ok (.iload_n 1, 1) := by decide +kernel
theorem d_rmI_6 : decode prog_47_method_1_code 6 = .ok (.putfield 7, 3) := by decide +kernel
theorem d_rmI_9 : decode prog_47_method_1_code 9 = .ok (.aload_n 0, 1) := by decide +kernel
theorem d_rmI_10 : decode prog_47_method_1_code 10 = .ok (.iload_n 3, 1) := by decide +kernel
theorem d_rmI_11 : decode prog_47_method_1_code 11 = .ok (.putfield 13, 3) := by decide +kernel
theorem d_rmI_14 : decode prog_47_method_1_code 14 = .ok (.aload_n 0, 1) := by decide +kernel
theorem d_rmI_15 : decode prog_47_method_1_code 15 = .ok (.iload_n 2, 1) := by decide +kernel
theorem d_rmI_16 : decode prog_47_method_1_code 16 = .ok (.newarray .int, 2) := by decide +kernel
theorem d_rmI_18 : decode prog_47_method_1_code 18 = .ok (.putfield 16, 3) := by decide +kernel
theorem d_rmI_21 : decode prog_47_method_1_code 21 = .ok (.aload_n 0, 1) := by decide +kernel
theorem d_rmI_22 : decode prog_47_method_1_code 22 = .ok (.iload_n 2, 1) := by decide +kernel
theorem d_rmI_23 : decode prog_47_method_1_code 23 = .ok (.newarray .int, 2) := by decide +kernel
theorem d_rmI_25 : decode prog_47_method_1_code 25 = .ok (.putfield 20, 3) := by decide +kernel
theorem d_rmI_28 : decode prog_47_method_1_code 28 = .ok (.return_, 1) := by decide +kernel
set_option maxRecDepth 65536 in
set_option maxHeartbeats 40000000 in
theorem rmI (l : Launch) (Z : State) (a0 : Array Value) (hw : ∀ d ∈ tables_1, d.before a0 Z = true) (ws : List Jvm.Cond) (a : Addr) (p1 p3 : Int32) (h0 : Heap) (n0 : Nat) (Z0 : n0 ≤ h0.size) (E1 : Exa Z h0 a "com/example/flowstate/flowstate/runtime/BlocksInTurn") (g1 : n0 ≤ a) (F_workers : Fld Z h0 a "com/example/flowstate/flowstate/runtime/BlocksInTurn" "workers" "I" (.int (0 : Int32))) (F_size : Fld Z h0 a "com/example/flowstate/flowstate/runtime/BlocksInTurn" "size" "I" (.int (0 : Int32))) (F_workerOf : Fld Z h0 a "com/example/flowstate/flowstate/runtime/BlocksInTurn" "workerOf" "[I" .null) (F_left : Fld Z h0 a "com/example/flowstate/flowstate/runtime/BlocksInTurn" "left" "[I" .null) (F_next : Fld Z h0 a "com/example/flowstate/flowstate/runtime/BlocksInTurn" "next" "I" (.int (0 : Int32))) :
    own_Met l Z (⟨"com/example/flowstate/flowstate/runtime/BlocksInTurn", "<init>", "(III)V"⟩ : MethodName) ws prog_47_method_1_code 4 none ({ frames := 1, cells := 2, slots := 6, locals := 12 } : Room) #[(.ref a), (.int p1), (.int (3 : Int32)), (.int p3)] h0 (fun v h L => v = none ∧ Fr n0 L ∧ Keep h0 h [a] ∧ ∃ wo lf, h0.size ≤ wo ∧ h0.size ≤ lf ∧ own_W Z h n0 a wo lf p1 p3 0 [0, 0, 0] [0, 0, 0]) := by
  refine own_body (y := (⟨"com/example/flowstate/flowstate/runtime/BlocksInTurn", "<init>", "(III)V"⟩ : MethodName)) (plainFor_of_name pn_1) ?_
  intro p e s m below meth c s₁ hx hby hml hown hnm hret hlk hZ X0 e0
  have hml : c.maxLocals = 4 := hml
  have hown : s.vm.findClass "com/example/flowstate/flowstate/runtime/BlocksInTurn" = some m.cls := hown
  have N0 := Fr.nil n0
  refine own_entry (ef_rmI m a p1 (3 : Int32) p3) ?_
  show own_Dn p e below s (fun v h L => v = none ∧ Fr n0 L ∧ Keep h0 h [a] ∧ ∃ wo lf, h0.size ≤ wo ∧ h0.size ≤ lf ∧ own_W Z h n0 a wo lf p1 p3 0 [0, 0, 0] [0, 0, 0]) ({ frames := 1, cells := 2, slots := 6, locals := 12 } : Room).cells ({ frames := 1, cells := 2, slots := 6, locals := 12 } : Room).slots (s₁.setTop (mkF m 0 #[.val (.ref a), .val (.int p1), .val (.int (3 : Int32)), .val (.int p3)] []))
  refine own_st (q' := s₁.setTop (mkF m 1 #[.val (.ref a), .val (.int p1), .val (.int (3 : Int32)), .val (.int p3)] [(.ref a)])) (fun _ k => XS.aloadN X0.here hx rfl (hb hby d_rmI_0) rfl rfl k) ?_
  obtain ⟨T101, X101, e101, st101⟩ := initO X0 hx hZ hown (hw _ (List.mem_of_getElem? (i := 8) rfl)) (hw _ (List.mem_of_getElem? (i := 9) rfl)) (hw _ (List.mem_of_getElem? (i := 10) rfl)) e0 (g := (mkF m 1 #[.val (.ref a), .val (.int p1), .val (.int (3 : Int32)), .val (.int p3)] [(.ref a)])) rfl (by rw [hml]; rfl) rfl (hb hby d_rmI_1) (by decide) (W := 0) (by show 2 * 0 + _ ≤ _; exact Nat.le_of_eq rfl) (by decide)
  refine own_st (q' := T101.setTop (mkF m 4 #[.val (.ref a), .val (.int p1), .val (.int (3 : Int32)), .val (.int p3)] [])) st101 ?_
  refine own_st (q' := T101.setTop (mkF m 5 #[.val (.ref a), .val (.int p1), .val (.int (3 : Int32)), .val (.int p3)] [(.ref a)])) (fun _ k => XS.aloadN X101.here hx rfl (hb hby d_rmI_4) rfl rfl k) ?_
  refine own_st (q' := T101.setTop (mkF m 6 #[.val (.ref a), .val (.int p1), .val (.int (3 : Int32)), .val (.int p3)] [(.int p1), (.ref a)])) (fun _ k => XS.iloadN X101.here hx rfl (hb hby d_rmI_5) rfl k) ?_
  obtain ⟨T102, h102, X102, e102, W102, st102⟩ := putF X101 hx hZ hown (host := "") (Or.inl (hw _ (List.mem_of_getElem? (i := 11) rfl))) Via.refl e101 F_workers E1 (Or.inr ⟨(hw _ (List.mem_of_getElem? (i := 12) rfl)), rfl, hnm⟩) (hw _ (List.mem_of_getElem? (i := 3) rfl)) (ty := .int) (by decide) rfl rfl (g := (mkF m 6 #[.val (.ref a), .val (.int p1), .val (.int (3 : Int32)), .val (.int p3)] [(.int p1), (.ref a)])) rfl rfl (hb hby d_rmI_6)
  have N102 := Fr.snoc X102 N0 g1
  have K103 : Keep h0 h102 [a] := ((Keep.refl h0 [a]).wr W102 (Or.inl (List.mem_of_getElem? (i := 0) rfl)))
  have F102 := F_workers.same W102
  refine own_st (q' := T102.setTop (mkF m 9 #[.val (.ref a), .val (.int p1), .val (.int (3 : Int32)), .val (.int p3)] [])) st102 ?_
  refine own_st (q' := T102.setTop (mkF m 10 #[.val (.ref a), .val (.int p1), .val (.int (3 : Int32)), .val (.int p3)] [(.ref a)])) (fun _ k => XS.aloadN X102.here hx rfl (hb hby d_rmI_9) rfl rfl k) ?_
  refine own_st (q' := T102.setTop (mkF m 11 #[.val (.ref a), .val (.int p1), .val (.int (3 : Int32)), .val (.int p3)] [(.int p3), (.ref a)])) (fun _ k => XS.iloadN X102.here hx rfl (hb hby d_rmI_10) rfl k) ?_
  have f104 := (F_size.other W102 (Or.inr (slot_ne (Or.inr (hw _ (List.mem_of_getElem? (i := 14) rfl))) (Or.inr (hw _ (List.mem_of_getElem? (i := 12) rfl))) (by decide) (t := .int) (t' := .int) (by decide) (by decide))))
  have f105 := (E1.wr W102)
  obtain ⟨T106, h106, X106, e106, W106, st106⟩ := putF X102 hx hZ hown (host := "") (Or.inl (hw _ (List.mem_of_getElem? (i := 13) rfl))) Via.refl e102 f104 f105 (Or.inr ⟨(hw _ (List.mem_of_getElem? (i := 14) rfl)), rfl, hnm⟩) (hw _ (List.mem_of_getElem? (i := 3) rfl)) (ty := .int) (by decide) rfl rfl (g := (mkF m 11 #[.val (.ref a), .val (.int p1), .val (.int (3 : Int32)), .val (.int p3)] [(.int p3), (.ref a)])) rfl rfl (hb hby d_rmI_11)
  have N106 := Fr.snoc X106 N102 g1
  have K107 : Keep h0 h106 [a] := (K103.wr W106 (Or.inl (List.mem_of_getElem? (i := 0) rfl)))
  have F106 := f104.same W106
  refine own_st (q' := T106.setTop (mkF m 14 #[.val (.ref a), .val (.int p1), .val (.int (3 : Int32)), .val (.int p3)] [])) st106 ?_
  refine own_st (q' := T106.setTop (mkF m 15 #[.val (.ref a), .val (.int p1), .val (.int (3 : Int32)), .val (.int p3)] [(.ref a)])) (fun _ k => XS.aloadN X106.here hx rfl (hb hby d_rmI_14) rfl rfl k) ?_
  refine own_st (q' := T106.setTop (mkF m 16 #[.val (.ref a), .val (.int p1), .val (.int (3 : Int32)), .val (.int p3)] [(.int (3 : Int32)), (.ref a)])) (fun _ k => XS.iloadN X106.here hx rfl (hb hby d_rmI_15) rfl k) ?_
  obtain ⟨T108, h108, k108, X108, e108, E108, A108, st108⟩ := newP X106 hx hZ (hw _ (List.mem_of_getElem? (i := 1) rfl)) e106 (g := (mkF m 16 #[.val (.ref a), .val (.int p1), .val (.int (3 : Int32)), .val (.int p3)] [(.int (3 : Int32)), (.ref a)])) rfl (hb hby d_rmI_16) rfl (by decide) (cap := 3) (by decide) (by decide) (by decide) (by decide)
  obtain ⟨b108, g108⟩ : ∃ z, z = h106.size := ⟨_, rfl⟩
  rw [← g108] at A108 st108
  have f109 := (f105.wr W106)
  have ne_a_b108 : a ≠ b108 := Nat.ne_of_lt (Nat.lt_of_lt_of_le f109.lt (Nat.le_of_eq g108.symm))
  have ge_b108 : n0 ≤ b108 := Nat.le_trans (Nat.le_trans (Nat.le_trans Z0 (Keep.of_wr W102).1) (Keep.of_wr W106).1) (Nat.le_of_eq g108.symm)
  have sz_b108 : h0.size ≤ b108 := Nat.le_trans K107.1 (Nat.le_of_eq g108.symm)
  have K110 : Keep h0 h108 [a] := (K107.ext E108)
  have V108 : own_IA Z h108 b108 .int ([0, 0, 0] : List Int32) := own_IA.newI A108
  refine own_st (q' := T108.setTop (mkF m 18 #[.val (.ref a), .val (.int p1), .val (.int (3 : Int32)), .val (.int p3)] [(.ref b108), (.ref a)])) st108 ?_
  have f111 := (((F_workerOf.other W102 (Or.inr (slot_ne (Or.inr (hw _ (List.mem_of_getElem? (i := 16) rfl))) (Or.inr (hw _ (List.mem_of_getElem? (i := 12) rfl))) (by decide) (t := (.array .int)) (t' := .int) (by decide) (by decide)))).other W106 (Or.inr (slot_ne (Or.inr (hw _ (List.mem_of_getElem? (i := 16) rfl))) (Or.inr (hw _ (List.mem_of_getElem? (i := 14) rfl))) (by decide) (t := (.array .int)) (t' := .int) (by decide) (by decide)))).ext E108)
  have f112 := (f109.ext E108)
  obtain ⟨T113, h113, X113, e113, W113, st113⟩ := putF X108 hx hZ hown (host := "") (Or.inl (hw _ (List.mem_of_getElem? (i := 15) rfl))) Via.refl e108 f111 f112 (Or.inr ⟨(hw _ (List.mem_of_getElem? (i := 16) rfl)), rfl, hnm⟩) (hw _ (List.mem_of_getElem? (i := 3) rfl)) (ty := (.array .int)) (by decide) rfl rfl (g := (mkF m 18 #[.val (.ref a), .val (.int p1), .val (.int (3 : Int32)), .val (.int p3)] [(.ref b108), (.ref a)])) rfl rfl (hb hby d_rmI_18)
  have N113 := Fr.snoc X113 N106 g1
  have K114 : Keep h0 h113 [a] := (K110.wr W113 (Or.inl (List.mem_of_getElem? (i := 0) rfl)))
  have F113 := f111.same W113
  refine own_st (q' := T113.setTop (mkF m 21 #[.val (.ref a), .val (.int p1), .val (.int (3 : Int32)), .val (.int p3)] [])) st113 ?_
  refine own_st (q' := T113.setTop (mkF m 22 #[.val (.ref a), .val (.int p1), .val (.int (3 : Int32)), .val (.int p3)] [(.ref a)])) (fun _ k => XS.aloadN X113.here hx rfl (hb hby d_rmI_21) rfl rfl k) ?_
  refine own_st (q' := T113.setTop (mkF m 23 #[.val (.ref a), .val (.int p1), .val (.int (3 : Int32)), .val (.int p3)] [(.int (3 : Int32)), (.ref a)])) (fun _ k => XS.iloadN X113.here hx rfl (hb hby d_rmI_22) rfl k) ?_
  obtain ⟨T115, h115, k115, X115, e115, E115, A115, st115⟩ := newP X113 hx hZ (hw _ (List.mem_of_getElem? (i := 1) rfl)) e113 (g := (mkF m 23 #[.val (.ref a), .val (.int p1), .val (.int (3 : Int32)), .val (.int p3)] [(.int (3 : Int32)), (.ref a)])) rfl (hb hby d_rmI_23) rfl (by decide) (cap := 3) (by decide) (by decide) (by decide) (by decide)
  obtain ⟨b115, g115⟩ : ∃ z, z = h113.size := ⟨_, rfl⟩
  rw [← g115] at A115 st115
  have f116 := (f112.wr W113)
  have ne_a_b115 : a ≠ b115 := Nat.ne_of_lt (Nat.lt_of_lt_of_le f116.lt (Nat.le_of_eq g115.symm))
  have f117 := (V108.other W113 (Ne.symm ne_a_b108))
  have ne_b108_b115 : b108 ≠ b115 := Nat.ne_of_lt (Nat.lt_of_lt_of_le f117.lt (Nat.le_of_eq g115.symm))
  have ge_b115 : n0 ≤ b115 := Nat.le_trans (Nat.le_trans (Nat.le_trans (Nat.le_trans (Nat.le_trans Z0 (Keep.of_wr W102).1) (Keep.of_wr W106).1) E108.1) (Keep.of_wr W113).1) (Nat.le_of_eq g115.symm)
  have sz_b115 : h0.size ≤ b115 := Nat.le_trans K114.1 (Nat.le_of_eq g115.symm)
  have K118 : Keep h0 h115 [a] := (K114.ext E115)
  have V115 : own_IA Z h115 b115 .int ([0, 0, 0] : List Int32) := own_IA.newI A115
  refine own_st (q' := T115.setTop (mkF m 25 #[.val (.ref a), .val (.int p1), .val (.int (3 : Int32)), .val (.int p3)] [(.ref b115), (.ref a)])) st115 ?_
  have f119 := (((((F_left.other W102 (Or.inr (slot_ne (Or.inr (hw _ (List.mem_of_getElem? (i := 18) rfl))) (Or.inr (hw _ (List.mem_of_getElem? (i := 12) rfl))) (by decide) (t := (.array .int)) (t' := .int) (by decide) (by decide)))).other W106 (Or.inr (slot_ne (Or.inr (hw _ (List.mem_of_getElem? (i := 18) rfl))) (Or.inr (hw _ (List.mem_of_getElem? (i := 14) rfl))) (by decide) (t := (.array .int)) (t' := .int) (by decide) (by decide)))).ext E108).other W113 (Or.inr (slot_ne (Or.inr (hw _ (List.mem_of_getElem? (i := 18) rfl))) (Or.inr (hw _ (List.mem_of_getElem? (i := 16) rfl))) (by decide) (t := (.array .int)) (t' := (.array .int)) (by decide) (by decide)))).ext E115)
  have f120 := (f116.ext E115)
  obtain ⟨T121, h121, X121, e121, W121, st121⟩ := putF X115 hx hZ hown (host := "") (Or.inl (hw _ (List.mem_of_getElem? (i := 17) rfl))) Via.refl e115 f119 f120 (Or.inr ⟨(hw _ (List.mem_of_getElem? (i := 18) rfl)), rfl, hnm⟩) (hw _ (List.mem_of_getElem? (i := 3) rfl)) (ty := (.array .int)) (by decide) rfl rfl (g := (mkF m 25 #[.val (.ref a), .val (.int p1), .val (.int (3 : Int32)), .val (.int p3)] [(.ref b115), (.ref a)])) rfl rfl (hb hby d_rmI_25)
  have N121 := Fr.snoc X121 N113 g1
  have K122 : Keep h0 h121 [a] := (K118.wr W121 (Or.inl (List.mem_of_getElem? (i := 0) rfl)))
  have F121 := f119.same W121
  refine own_st (q' := T121.setTop (mkF m 28 #[.val (.ref a), .val (.int p1), .val (.int (3 : Int32)), .val (.int p3)] [])) st121 ?_
  have f123 := (f120.wr W121)
  have f124 := (((((F102.other W106 (Or.inr (slot_ne (Or.inr (hw _ (List.mem_of_getElem? (i := 12) rfl))) (Or.inr (hw _ (List.mem_of_getElem? (i := 14) rfl))) (by decide) (t := .int) (t' := .int) (by decide) (by decide)))).ext E108).other W113 (Or.inr (slot_ne (Or.inr (hw _ (List.mem_of_getElem? (i := 12) rfl))) (Or.inr (hw _ (List.mem_of_getElem? (i := 16) rfl))) (by decide) (t := .int) (t' := (.array .int)) (by decide) (by decide)))).ext E115).other W121 (Or.inr (slot_ne (Or.inr (hw _ (List.mem_of_getElem? (i := 12) rfl))) (Or.inr (hw _ (List.mem_of_getElem? (i := 18) rfl))) (by decide) (t := .int) (t' := (.array .int)) (by decide) (by decide))))
  have f125 := ((((F106.ext E108).other W113 (Or.inr (slot_ne (Or.inr (hw _ (List.mem_of_getElem? (i := 14) rfl))) (Or.inr (hw _ (List.mem_of_getElem? (i := 16) rfl))) (by decide) (t := .int) (t' := (.array .int)) (by decide) (by decide)))).ext E115).other W121 (Or.inr (slot_ne (Or.inr (hw _ (List.mem_of_getElem? (i := 14) rfl))) (Or.inr (hw _ (List.mem_of_getElem? (i := 18) rfl))) (by decide) (t := .int) (t' := (.array .int)) (by decide) (by decide))))
  have f126 := ((F113.ext E115).other W121 (Or.inr (slot_ne (Or.inr (hw _ (List.mem_of_getElem? (i := 16) rfl))) (Or.inr (hw _ (List.mem_of_getElem? (i := 18) rfl))) (by decide) (t := (.array .int)) (t' := (.array .int)) (by decide) (by decide))))
  have f127 := ((((((F_next.other W102 (Or.inr (slot_ne (Or.inl (hw _ (List.mem_of_getElem? (i := 29) rfl))) (Or.inr (hw _ (List.mem_of_getElem? (i := 12) rfl))) (by decide) (t := .int) (t' := .int) (by decide) (by decide)))).other W106 (Or.inr (slot_ne (Or.inl (hw _ (List.mem_of_getElem? (i := 29) rfl))) (Or.inr (hw _ (List.mem_of_getElem? (i := 14) rfl))) (by decide) (t := .int) (t' := .int) (by decide) (by decide)))).ext E108).other W113 (Or.inr (slot_ne (Or.inl (hw _ (List.mem_of_getElem? (i := 29) rfl))) (Or.inr (hw _ (List.mem_of_getElem? (i := 16) rfl))) (by decide) (t := .int) (t' := (.array .int)) (by decide) (by decide)))).ext E115).other W121 (Or.inr (slot_ne (Or.inl (hw _ (List.mem_of_getElem? (i := 29) rfl))) (Or.inr (hw _ (List.mem_of_getElem? (i := 18) rfl))) (by decide) (t := .int) (t' := (.array .int)) (by decide) (by decide))))
  have f128 := ((f117.ext E115).other W121 (Ne.symm ne_a_b108))
  have f129 := (V115.other W121 (Ne.symm ne_a_b115))
  exact own_retV X121 hx hlk hret (hb hby d_rmI_28) e121 (by exact ⟨rfl, N121, K122, b108, b115, sz_b108, sz_b115, ⟨f123, f124, f125, f126, F121, f127, f128, f129, ⟨rfl, rfl⟩, ⟨g1, ge_b108, ge_b115⟩, ne_a_b108, ne_a_b115, ne_b108_b115⟩⟩) (by decide) (by decide)
def own_ls (ls : List Int32) (q : Nat) (S : Int32) : List Int32 := if ls.getD q 0 = (0 : Int32) then (ls.set q S).set q ((ls.set q S).getD q 0 - (1 : Int32)) else ls.set q (ls.getD q 0 - (1 : Int32))
def own_ws (ls ws : List Int32) (q : Nat) (nx : Int32) : List Int32 := if ls.getD q 0 = (0 : Int32) then ws.set q (nx + (1 : Int32)) else ws
def own_nx (ls : List Int32) (q : Nat) (nx W : Int32) : Int32 := if ls.getD q 0 = (0 : Int32) then (nx + (1 : Int32)) % W else nx
theorem ef_rmW (m : MethodId) (x0 : Addr) (x1 : Int32) : entryFrame m #[(.ref x0), (.int x1)] 2 = mkF m 0 #[.val (.ref x0), .val (.int x1)] [] := by first | (simp [entryFrame, mkF, argsToLocals, Value.category]; done) | rfl
theorem d_rmW_0 : decode prog_47_method_2_code 0 = .ok (.aload_n 0, 1) := by decide +kernel
theorem d_rmW_1 : decode prog_47_method_2_code 1 = .ok (.getfield 20, 3) := by decide +kernel
theorem d_rmW_4 : decode prog_47_method_2_code 4 = .ok (.iload_n 1, 1) := by decide +kernel
theorem d_rmW_5 : decode prog_47_method_2_code 5 = .ok (.iaload, 1) := by decide +kernel
theorem d_rmW_6 : decode prog_47_method_2_code 6 = .ok (.ifCond .ne 40, 3) := by decide +kernel
theorem d_rmW_9 : decode prog_47_method_2_code 9 = .ok (.aload_n 0, 1) := by decide +kernel
theorem d_rmW_10 : decode prog_47_method_2_code 10 = .ok (.getfield 16, 3) := by decide +kernel
theorem d_rmW_13 : decode prog_47_method_2_code 13 = .ok (.iload_n 1, 1) := by decide +kernel
theorem d_rmW_14 : decode prog_47_method_2_code 14 = .ok (.aload_n 0, 1) := by decide +kernel
theorem d_rmW_15 : decode prog_47_method_2_code 15 = .ok (.getfield 23, 3) := by decide +kernel
theorem d_rmW_18 : decode prog_47_method_2_code 18 = .ok (.iconst 1, 1) := by decide +kernel
theorem d_rmW_19 : decode prog_47_method_2_code 19 = .ok (.iadd, 1) := by decide +kernel
theorem d_rmW_20 : decode prog_47_method_2_code 20 = .ok (.iastore, 1) := by decide +kernel
theorem d_rmW_21 : decode prog_47_method_2_code 21 = .ok (.aload_n 0, 1) := by decide +kernel
theorem d_rmW_22 : decode prog_47_method_2_code 22 = .ok (.aload_n 0, 1) := by decide +kernel
theorem d_rmW_23 : decode prog_47_method_2_code 23 = .ok (.getfield 23, 3) := by decide +kernel
theorem d_rmW_26 : decode prog_47_method_2_code 26 = .ok (.iconst 1, 1) := by decide +kernel
theorem d_rmW_27 : decode prog_47_method_2_code 27 = .ok (.iadd, 1) := by decide +kernel
theorem d_rmW_28 : decode prog_47_method_2_code 28 = .ok (.aload_n 0, 1) := by decide +kernel
theorem d_rmW_29 : decode prog_47_method_2_code 29 = .ok (.getfield 7, 3) := by decide +kernel
theorem d_rmW_32 : decode prog_47_method_2_code 32 = .ok (.irem, 1) := by decide +kernel
theorem d_rmW_33 : decode prog_47_method_2_code 33 = .ok (.putfield 23, 3) := by decide +kernel
theorem d_rmW_36 : decode prog_47_method_2_code 36 = .ok (.aload_n 0, 1) := by decide +kernel
theorem d_rmW_37 : decode prog_47_method_2_code 37 = .ok (.getfield 20, 3) := by decide +kernel
theorem d_rmW_40 : decode prog_47_method_2_code 40 = .ok (.iload_n 1, 1) := by decide +kernel
theorem d_rmW_41 : decode prog_47_method_2_code 41 = .ok (.aload_n 0, 1) := by decide +kernel
theorem d_rmW_42 : decode prog_47_method_2_code 42 = .ok (.getfield 13, 3) := by decide +kernel
theorem d_rmW_45 : decode prog_47_method_2_code 45 = .ok (.iastore, 1) := by decide +kernel
theorem d_rmW_46 : decode prog_47_method_2_code 46 = .ok (.aload_n 0, 1) := by decide +kernel
theorem d_rmW_47 : decode prog_47_method_2_code 47 = .ok (.getfield 20, 3) := by decide +kernel
theorem d_rmW_50 : decode prog_47_method_2_code 50 = .ok (.iload_n 1, 1) := by decide +kernel
theorem d_rmW_51 : decode prog_47_method_2_code 51 = .ok (.dup2, 1) := by decide +kernel
theorem d_rmW_52 : decode prog_47_method_2_code 52 = .ok (.iaload, 1) := by decide +kernel
theorem d_rmW_53 : decode prog_47_method_2_code 53 = .ok (.iconst 1, 1) := by decide +kernel
theorem d_rmW_54 : decode prog_47_method_2_code 54 = .ok (.isub, 1) := by decide +kernel
theorem d_rmW_55 : decode prog_47_method_2_code 55 = .ok (.iastore, 1) := by decide +kernel
theorem d_rmW_56 : decode prog_47_method_2_code 56 = .ok (.aload_n 0, 1) := by decide +kernel
theorem d_rmW_57 : decode prog_47_method_2_code 57 = .ok (.getfield 16, 3) := by decide +kernel
theorem d_rmW_60 : decode prog_47_method_2_code 60 = .ok (.iload_n 1, 1) := by decide +kernel
theorem d_rmW_61 : decode prog_47_method_2_code 61 = .ok (.iaload, 1) := by decide +kernel
theorem d_rmW_62 : decode prog_47_method_2_code 62 = .ok (.ireturn, 1) := by decide +kernel
set_option maxRecDepth 65536 in
set_option maxHeartbeats 40000000 in
theorem rmW (l : Launch) (Z : State) (a0 : Array Value) (hw : ∀ d ∈ tables_1, d.before a0 Z = true) (ws : List Jvm.Cond) (a wo lf : Addr) (W S nx p1 : Int32) (ws' ls' : List Int32) (h0 : Heap) (n0 : Nat) (Z0 : n0 ≤ h0.size) (hB : own_W Z h0 n0 a wo lf W S nx ws' ls') (hW : W ≠ 0) (hp0 : 0 ≤ p1.toInt) (hp2 : p1.toInt ≤ 2) :
    own_Met l Z (⟨"com/example/flowstate/flowstate/runtime/BlocksInTurn", "worker", "(I)I"⟩ : MethodName) ws prog_47_method_2_code 2 (some .int) ({ frames := 0, cells := 0, slots := 0, locals := 0 } : Room) #[(.ref a), (.int p1)] h0 (fun v h L => ∃ (ws2 ls2 : List Int32) (nx2 : Int32), v = some (.int (ws2.getD p1.toNatClampNeg 0)) ∧ Fr n0 L ∧ Keep h0 h [a, wo, lf] ∧ own_W Z h n0 a wo lf W S nx2 ws2 ls2 ∧ ls2 = own_ls ls' p1.toNatClampNeg S ∧ ws2 = own_ws ls' ws' p1.toNatClampNeg nx ∧ nx2 = own_nx ls' p1.toNatClampNeg nx W) := by
  refine own_body (y := (⟨"com/example/flowstate/flowstate/runtime/BlocksInTurn", "worker", "(I)I"⟩ : MethodName)) (plainFor_of_name pn_1) ?_
  intro p e s m below meth c s₁ hx hby hml hown hnm hret hlk hZ X0 e0
  have hml : c.maxLocals = 2 := hml
  have hown : s.vm.findClass "com/example/flowstate/flowstate/runtime/BlocksInTurn" = some m.cls := hown
  have N0 := Fr.nil n0
  refine own_entry (ef_rmW m a p1) ?_
  show own_Dn p e below s (fun v h L => ∃ (ws2 ls2 : List Int32) (nx2 : Int32), v = some (.int (ws2.getD p1.toNatClampNeg 0)) ∧ Fr n0 L ∧ Keep h0 h [a, wo, lf] ∧ own_W Z h n0 a wo lf W S nx2 ws2 ls2 ∧ ls2 = own_ls ls' p1.toNatClampNeg S ∧ ws2 = own_ws ls' ws' p1.toNatClampNeg nx ∧ nx2 = own_nx ls' p1.toNatClampNeg nx W) ({ frames := 0, cells := 0, slots := 0, locals := 0 } : Room).cells ({ frames := 0, cells := 0, slots := 0, locals := 0 } : Room).slots (s₁.setTop (mkF m 0 #[.val (.ref a), .val (.int p1)] []))
  obtain ⟨o101E, o1011, o1012, o1013, o1014, o1015, o101V, o101U, ⟨o101m, o101n⟩, ⟨o101ga, o101gw, o101gl⟩, o101x, o101y, o101z⟩ := hB
  show own_Dn p e below s (fun v h L => ∃ (ws2 ls2 : List Int32) (nx2 : Int32), v = some (.int (ws2.getD p1.toNatClampNeg 0)) ∧ Fr n0 L ∧ Keep h0 h [a, wo, lf] ∧ own_W Z h n0 a wo lf W S nx2 ws2 ls2 ∧ ls2 = own_ls ls' p1.toNatClampNeg S ∧ ws2 = own_ws ls' ws' p1.toNatClampNeg nx ∧ nx2 = own_nx ls' p1.toNatClampNeg nx W) ({ frames := 0, cells := 0, slots := 0, locals := 0 } : Room).cells ({ frames := 0, cells := 0, slots := 0, locals := 0 } : Room).slots (s₁.setTop (mkF m 0 #[.val (.ref a), .val (.int p1)] []))
  refine own_st (q' := s₁.setTop (mkF m 1 #[.val (.ref a), .val (.int p1)] [(.ref a)])) (fun _ k => XS.aloadN X0.here hx rfl (hb hby d_rmW_0) rfl rfl k) ?_
  obtain ⟨T102, X102, e102, st102⟩ := getF X0 hx hZ hown (host := "") (Or.inl (hw _ (List.mem_of_getElem? (i := 17) rfl))) Via.refl e0 o1014 (g := (mkF m 1 #[.val (.ref a), .val (.int p1)] [(.ref a)])) rfl rfl (hb hby d_rmW_1)
  refine own_st (q' := T102.setTop (mkF m 4 #[.val (.ref a), .val (.int p1)] [(.ref lf)])) st102 ?_
  refine own_st (q' := T102.setTop (mkF m 5 #[.val (.ref a), .val (.int p1)] [(.int p1), (.ref lf)])) (fun _ k => XS.iloadN X102.here hx rfl (hb hby d_rmW_4) rfl k) ?_
  refine own_iaload X102 hx hZ e102 o101U (w := (ls'.getD p1.toNatClampNeg 0)) (by omega) (by first | omega | (simp only [List.length_set]; omega)) rfl (g := (mkF m 5 #[.val (.ref a), .val (.int p1)] [(.int p1), (.ref lf)])) rfl rfl (hb hby d_rmW_5) ?_
  show own_Dn p e below s (fun v h L => ∃ (ws2 ls2 : List Int32) (nx2 : Int32), v = some (.int (ws2.getD p1.toNatClampNeg 0)) ∧ Fr n0 L ∧ Keep h0 h [a, wo, lf] ∧ own_W Z h n0 a wo lf W S nx2 ws2 ls2 ∧ ls2 = own_ls ls' p1.toNatClampNeg S ∧ ws2 = own_ws ls' ws' p1.toNatClampNeg nx ∧ nx2 = own_nx ls' p1.toNatClampNeg nx W) ({ frames := 0, cells := 0, slots := 0, locals := 0 } : Room).cells ({ frames := 0, cells := 0, slots := 0, locals := 0 } : Room).slots (T102.setTop (mkF m 6 #[.val (.ref a), .val (.int p1)] [(.int (ls'.getD p1.toNatClampNeg 0))]))
  by_cases hc6_103 : (ls'.getD p1.toNatClampNeg 0) = (0 : Int32)
  · skip
    have hc6_103I : ((ls'.getD p1.toNatClampNeg 0)).toInt = (0 : Int) := own_eqT hc6_103
    refine own_st (q' := T102.setTop (mkF m 9 #[.val (.ref a), .val (.int p1)] [])) (fun _ k => XS.ifNo X102.here hx rfl (hb hby d_rmW_6) rfl ((if0 _ _).trans (teq hc6_103).2) k) ?_
    refine own_st (q' := T102.setTop (mkF m 10 #[.val (.ref a), .val (.int p1)] [(.ref a)])) (fun _ k => XS.aloadN X102.here hx rfl (hb hby d_rmW_9) rfl rfl k) ?_
    obtain ⟨T104, X104, e104, st104⟩ := getF X102 hx hZ hown (host := "") (Or.inl (hw _ (List.mem_of_getElem? (i := 15) rfl))) Via.refl e102 o1013 (g := (mkF m 10 #[.val (.ref a), .val (.int p1)] [(.ref a)])) rfl rfl (hb hby d_rmW_10)
    refine own_st (q' := T104.setTop (mkF m 13 #[.val (.ref a), .val (.int p1)] [(.ref wo)])) st104 ?_
    refine own_st (q' := T104.setTop (mkF m 14 #[.val (.ref a), .val (.int p1)] [(.int p1), (.ref wo)])) (fun _ k => XS.iloadN X104.here hx rfl (hb hby d_rmW_13) rfl k) ?_
    refine own_st (q' := T104.setTop (mkF m 15 #[.val (.ref a), .val (.int p1)] [(.ref a), (.int p1), (.ref wo)])) (fun _ k => XS.aloadN X104.here hx rfl (hb hby d_rmW_14) rfl rfl k) ?_
    obtain ⟨T105, X105, e105, st105⟩ := getF X104 hx hZ hown (host := "") (Or.inl (hw _ (List.mem_of_getElem? (i := 28) rfl))) Via.refl e104 o1015 (g := (mkF m 15 #[.val (.ref a), .val (.int p1)] [(.ref a), (.int p1), (.ref wo)])) rfl rfl (hb hby d_rmW_15)
    refine own_st (q' := T105.setTop (mkF m 18 #[.val (.ref a), .val (.int p1)] [(.int nx), (.int p1), (.ref wo)])) st105 ?_
    refine own_st (q' := T105.setTop (mkF m 19 #[.val (.ref a), .val (.int p1)] [(.int (1 : Int32)), (.int nx), (.int p1), (.ref wo)])) (fun _ k => XS.iconst X105.here hx rfl (hb hby d_rmW_18) k) ?_
    refine own_st (q' := T105.setTop (mkF m 20 #[.val (.ref a), .val (.int p1)] [(.int (nx + (1 : Int32))), (.int p1), (.ref wo)])) (fun _ k => XS.iadd X105.here hx rfl (hb hby d_rmW_19) rfl k) ?_
    obtain ⟨T106, h106, X106, e106, W106, V106, st106⟩ := own_iastore X105 hx hZ e105 o101V (by omega) (by first | omega | (simp only [List.length_set]; omega)) (g := (mkF m 20 #[.val (.ref a), .val (.int p1)] [(.int (nx + (1 : Int32))), (.int p1), (.ref wo)])) rfl rfl (hb hby d_rmW_20)
    have N106 := Fr.snoc X106 N0 o101gw
    have K107 : Keep h0 h106 [a, wo, lf] := ((Keep.refl h0 [a, wo, lf]).wr W106 (Or.inl (List.mem_of_getElem? (i := 1) rfl)))
    refine own_st (q' := T106.setTop (mkF m 21 #[.val (.ref a), .val (.int p1)] [])) st106 ?_
    refine own_st (q' := T106.setTop (mkF m 22 #[.val (.ref a), .val (.int p1)] [(.ref a)])) (fun _ k => XS.aloadN X106.here hx rfl (hb hby d_rmW_21) rfl rfl k) ?_
    refine own_st (q' := T106.setTop (mkF m 23 #[.val (.ref a), .val (.int p1)] [(.ref a), (.ref a)])) (fun _ k => XS.aloadN X106.here hx rfl (hb hby d_rmW_22) rfl rfl k) ?_
    have f108 := (o1015.other W106 (Or.inl o101x))
    obtain ⟨T109, X109, e109, st109⟩ := getF X106 hx hZ hown (host := "") (Or.inl (hw _ (List.mem_of_getElem? (i := 28) rfl))) Via.refl e106 f108 (g := (mkF m 23 #[.val (.ref a), .val (.int p1)] [(.ref a), (.ref a)])) rfl rfl (hb hby d_rmW_23)
    refine own_st (q' := T109.setTop (mkF m 26 #[.val (.ref a), .val (.int p1)] [(.int nx), (.ref a)])) st109 ?_
    refine own_st (q' := T109.setTop (mkF m 27 #[.val (.ref a), .val (.int p1)] [(.int (1 : Int32)), (.int nx), (.ref a)])) (fun _ k => XS.iconst X109.here hx rfl (hb hby d_rmW_26) k) ?_
    refine own_st (q' := T109.setTop (mkF m 28 #[.val (.ref a), .val (.int p1)] [(.int (nx + (1 : Int32))), (.ref a)])) (fun _ k => XS.iadd X109.here hx rfl (hb hby d_rmW_27) rfl k) ?_
    refine own_st (q' := T109.setTop (mkF m 29 #[.val (.ref a), .val (.int p1)] [(.ref a), (.int (nx + (1 : Int32))), (.ref a)])) (fun _ k => XS.aloadN X109.here hx rfl (hb hby d_rmW_28) rfl rfl k) ?_
    have f110 := (o1011.other W106 (Or.inl o101x))
    obtain ⟨T111, X111, e111, st111⟩ := getF X109 hx hZ hown (host := "") (Or.inl (hw _ (List.mem_of_getElem? (i := 11) rfl))) Via.refl e109 f110 (g := (mkF m 29 #[.val (.ref a), .val (.int p1)] [(.ref a), (.int (nx + (1 : Int32))), (.ref a)])) rfl rfl (hb hby d_rmW_29)
    refine own_st (q' := T111.setTop (mkF m 32 #[.val (.ref a), .val (.int p1)] [(.int W), (.int (nx + (1 : Int32))), (.ref a)])) st111 ?_
    refine own_st (q' := T111.setTop (mkF m 33 #[.val (.ref a), .val (.int p1)] [(.int ((nx + (1 : Int32)) % W)), (.ref a)])) (fun _ k => iremM X111 hx rfl (hb hby d_rmW_32) rfl hW k) ?_
    have f112 := (o101E.wr W106)
    obtain ⟨T113, h113, X113, e113, W113, st113⟩ := putF X111 hx hZ hown (host := "") (Or.inl (hw _ (List.mem_of_getElem? (i := 28) rfl))) Via.refl e111 f108 f112 (Or.inl (hw _ (List.mem_of_getElem? (i := 29) rfl))) (hw _ (List.mem_of_getElem? (i := 3) rfl)) (ty := .int) (by decide) rfl rfl (g := (mkF m 33 #[.val (.ref a), .val (.int p1)] [(.int ((nx + (1 : Int32)) % W)), (.ref a)])) rfl rfl (hb hby d_rmW_33)
    have N113 := Fr.snoc X113 N106 o101ga
    have K114 : Keep h0 h113 [a, wo, lf] := (K107.wr W113 (Or.inl (List.mem_of_getElem? (i := 0) rfl)))
    have F113 := f108.same W113
    refine own_st (q' := T113.setTop (mkF m 36 #[.val (.ref a), .val (.int p1)] [])) st113 ?_
    refine own_st (q' := T113.setTop (mkF m 37 #[.val (.ref a), .val (.int p1)] [(.ref a)])) (fun _ k => XS.aloadN X113.here hx rfl (hb hby d_rmW_36) rfl rfl k) ?_
    have f115 := ((o1014.other W106 (Or.inl o101x)).other W113 (Or.inr (slot_ne (Or.inr (hw _ (List.mem_of_getElem? (i := 18) rfl))) (Or.inl (hw _ (List.mem_of_getElem? (i := 29) rfl))) (by decide) (t := (.array .int)) (t' := .int) (by decide) (by decide))))
    obtain ⟨T116, X116, e116, st116⟩ := getF X113 hx hZ hown (host := "") (Or.inl (hw _ (List.mem_of_getElem? (i := 17) rfl))) Via.refl e113 f115 (g := (mkF m 37 #[.val (.ref a), .val (.int p1)] [(.ref a)])) rfl rfl (hb hby d_rmW_37)
    refine own_st (q' := T116.setTop (mkF m 40 #[.val (.ref a), .val (.int p1)] [(.ref lf)])) st116 ?_
    refine own_st (q' := T116.setTop (mkF m 41 #[.val (.ref a), .val (.int p1)] [(.int p1), (.ref lf)])) (fun _ k => XS.iloadN X116.here hx rfl (hb hby d_rmW_40) rfl k) ?_
    refine own_st (q' := T116.setTop (mkF m 42 #[.val (.ref a), .val (.int p1)] [(.ref a), (.int p1), (.ref lf)])) (fun _ k => XS.aloadN X116.here hx rfl (hb hby d_rmW_41) rfl rfl k) ?_
    have f117 := ((o1012.other W106 (Or.inl o101x)).other W113 (Or.inr (slot_ne (Or.inr (hw _ (List.mem_of_getElem? (i := 14) rfl))) (Or.inl (hw _ (List.mem_of_getElem? (i := 29) rfl))) (by decide) (t := .int) (t' := .int) (by decide) (by decide))))
    obtain ⟨T118, X118, e118, st118⟩ := getF X116 hx hZ hown (host := "") (Or.inl (hw _ (List.mem_of_getElem? (i := 13) rfl))) Via.refl e116 f117 (g := (mkF m 42 #[.val (.ref a), .val (.int p1)] [(.ref a), (.int p1), (.ref lf)])) rfl rfl (hb hby d_rmW_42)
    refine own_st (q' := T118.setTop (mkF m 45 #[.val (.ref a), .val (.int p1)] [(.int S), (.int p1), (.ref lf)])) st118 ?_
    have f119 := ((o101U.other W106 (Ne.symm o101z)).other W113 (Ne.symm o101y))
    obtain ⟨T120, h120, X120, e120, W120, V120, st120⟩ := own_iastore X118 hx hZ e118 f119 (by omega) (by first | omega | (simp only [List.length_set]; omega)) (g := (mkF m 45 #[.val (.ref a), .val (.int p1)] [(.int S), (.int p1), (.ref lf)])) rfl rfl (hb hby d_rmW_45)
    have N120 := Fr.snoc X120 N113 o101gl
    have K121 : Keep h0 h120 [a, wo, lf] := (K114.wr W120 (Or.inl (List.mem_of_getElem? (i := 2) rfl)))
    refine own_st (q' := T120.setTop (mkF m 46 #[.val (.ref a), .val (.int p1)] [])) st120 ?_
    refine own_st (q' := T120.setTop (mkF m 47 #[.val (.ref a), .val (.int p1)] [(.ref a)])) (fun _ k => XS.aloadN X120.here hx rfl (hb hby d_rmW_46) rfl rfl k) ?_
    have f122 := (f115.other W120 (Or.inl o101y))
    obtain ⟨T123, X123, e123, st123⟩ := getF X120 hx hZ hown (host := "") (Or.inl (hw _ (List.mem_of_getElem? (i := 17) rfl))) Via.refl e120 f122 (g := (mkF m 47 #[.val (.ref a), .val (.int p1)] [(.ref a)])) rfl rfl (hb hby d_rmW_47)
    refine own_st (q' := T123.setTop (mkF m 50 #[.val (.ref a), .val (.int p1)] [(.ref lf)])) st123 ?_
    refine own_st (q' := T123.setTop (mkF m 51 #[.val (.ref a), .val (.int p1)] [(.int p1), (.ref lf)])) (fun _ k => XS.iloadN X123.here hx rfl (hb hby d_rmW_50) rfl k) ?_
    refine own_st (q' := T123.setTop (mkF m 52 #[.val (.ref a), .val (.int p1)] [(.int p1), (.ref lf), (.int p1), (.ref lf)])) (fun _ k => Jvm.Free.XT.dup2 X123.here hx rfl (hb hby d_rmW_51) rfl rfl rfl k) ?_
    refine own_iaload X123 hx hZ e123 V120 (w := ((ls'.set p1.toNatClampNeg S).getD p1.toNatClampNeg 0)) (by omega) (by first | omega | (simp only [List.length_set]; omega)) rfl (g := (mkF m 52 #[.val (.ref a), .val (.int p1)] [(.int p1), (.ref lf), (.int p1), (.ref lf)])) rfl rfl (hb hby d_rmW_52) ?_
    show own_Dn p e below s (fun v h L => ∃ (ws2 ls2 : List Int32) (nx2 : Int32), v = some (.int (ws2.getD p1.toNatClampNeg 0)) ∧ Fr n0 L ∧ Keep h0 h [a, wo, lf] ∧ own_W Z h n0 a wo lf W S nx2 ws2 ls2 ∧ ls2 = own_ls ls' p1.toNatClampNeg S ∧ ws2 = own_ws ls' ws' p1.toNatClampNeg nx ∧ nx2 = own_nx ls' p1.toNatClampNeg nx W) ({ frames := 0, cells := 0, slots := 0, locals := 0 } : Room).cells ({ frames := 0, cells := 0, slots := 0, locals := 0 } : Room).slots (T123.setTop (mkF m 53 #[.val (.ref a), .val (.int p1)] [(.int ((ls'.set p1.toNatClampNeg S).getD p1.toNatClampNeg 0)), (.int p1), (.ref lf)]))
    refine own_st (q' := T123.setTop (mkF m 54 #[.val (.ref a), .val (.int p1)] [(.int (1 : Int32)), (.int ((ls'.set p1.toNatClampNeg S).getD p1.toNatClampNeg 0)), (.int p1), (.ref lf)])) (fun _ k => XS.iconst X123.here hx rfl (hb hby d_rmW_53) k) ?_
    refine own_st (q' := T123.setTop (mkF m 55 #[.val (.ref a), .val (.int p1)] [(.int (((ls'.set p1.toNatClampNeg S).getD p1.toNatClampNeg 0) - (1 : Int32))), (.int p1), (.ref lf)])) (fun _ k => XS.isub X123.here hx rfl (hb hby d_rmW_54) rfl k) ?_
    obtain ⟨T124, h124, X124, e124, W124, V124, st124⟩ := own_iastore X123 hx hZ e123 V120 (by omega) (by first | omega | (simp only [List.length_set]; omega)) (g := (mkF m 55 #[.val (.ref a), .val (.int p1)] [(.int (((ls'.set p1.toNatClampNeg S).getD p1.toNatClampNeg 0) - (1 : Int32))), (.int p1), (.ref lf)])) rfl rfl (hb hby d_rmW_55)
    have N124 := Fr.snoc X124 N120 o101gl
    have K125 : Keep h0 h124 [a, wo, lf] := (K121.wr W124 (Or.inl (List.mem_of_getElem? (i := 2) rfl)))
    refine own_st (q' := T124.setTop (mkF m 56 #[.val (.ref a), .val (.int p1)] [])) st124 ?_
    refine own_st (q' := T124.setTop (mkF m 57 #[.val (.ref a), .val (.int p1)] [(.ref a)])) (fun _ k => XS.aloadN X124.here hx rfl (hb hby d_rmW_56) rfl rfl k) ?_
    have f126 := ((((o1013.other W106 (Or.inl o101x)).other W113 (Or.inr (slot_ne (Or.inr (hw _ (List.mem_of_getElem? (i := 16) rfl))) (Or.inl (hw _ (List.mem_of_getElem? (i := 29) rfl))) (by decide) (t := (.array .int)) (t' := .int) (by decide) (by decide)))).other W120 (Or.inl o101y)).other W124 (Or.inl o101y))
    obtain ⟨T127, X127, e127, st127⟩ := getF X124 hx hZ hown (host := "") (Or.inl (hw _ (List.mem_of_getElem? (i := 15) rfl))) Via.refl e124 f126 (g := (mkF m 57 #[.val (.ref a), .val (.int p1)] [(.ref a)])) rfl rfl (hb hby d_rmW_57)
    refine own_st (q' := T127.setTop (mkF m 60 #[.val (.ref a), .val (.int p1)] [(.ref wo)])) st127 ?_
    refine own_st (q' := T127.setTop (mkF m 61 #[.val (.ref a), .val (.int p1)] [(.int p1), (.ref wo)])) (fun _ k => XS.iloadN X127.here hx rfl (hb hby d_rmW_60) rfl k) ?_
    have f128 := (((V106.other W113 (Ne.symm o101x)).other W120 o101z).other W124 o101z)
    refine own_iaload X127 hx hZ e127 f128 (w := ((ws'.set p1.toNatClampNeg (nx + (1 : Int32))).getD p1.toNatClampNeg 0)) (by omega) (by first | omega | (simp only [List.length_set]; omega)) rfl (g := (mkF m 61 #[.val (.ref a), .val (.int p1)] [(.int p1), (.ref wo)])) rfl rfl (hb hby d_rmW_61) ?_
    show own_Dn p e below s (fun v h L => ∃ (ws2 ls2 : List Int32) (nx2 : Int32), v = some (.int (ws2.getD p1.toNatClampNeg 0)) ∧ Fr n0 L ∧ Keep h0 h [a, wo, lf] ∧ own_W Z h n0 a wo lf W S nx2 ws2 ls2 ∧ ls2 = own_ls ls' p1.toNatClampNeg S ∧ ws2 = own_ws ls' ws' p1.toNatClampNeg nx ∧ nx2 = own_nx ls' p1.toNatClampNeg nx W) ({ frames := 0, cells := 0, slots := 0, locals := 0 } : Room).cells ({ frames := 0, cells := 0, slots := 0, locals := 0 } : Room).slots (T127.setTop (mkF m 62 #[.val (.ref a), .val (.int p1)] [(.int ((ws'.set p1.toNatClampNeg (nx + (1 : Int32))).getD p1.toNatClampNeg 0))]))
    have f129 := (((f112.wr W113).wr W120).wr W124)
    have f130 := (((f110.other W113 (Or.inr (slot_ne (Or.inr (hw _ (List.mem_of_getElem? (i := 12) rfl))) (Or.inl (hw _ (List.mem_of_getElem? (i := 29) rfl))) (by decide) (t := .int) (t' := .int) (by decide) (by decide)))).other W120 (Or.inl o101y)).other W124 (Or.inl o101y))
    have f131 := ((f117.other W120 (Or.inl o101y)).other W124 (Or.inl o101y))
    have f132 := (f122.other W124 (Or.inl o101y))
    have f133 := ((F113.other W120 (Or.inl o101y)).other W124 (Or.inl o101y))
    exact own_retI X127 hx hlk hret (hb hby d_rmW_62) e127 (by exact ⟨_, _, _, rfl, N124, K125, ⟨f129, f130, f131, f126, f132, f133, f128, V124, ⟨(by simp [o101m]), (by simp [o101n])⟩, ⟨o101ga, o101gw, o101gl⟩, o101x, o101y, o101z⟩, (by unfold own_ls; rw [if_pos hc6_103]), (by unfold own_ws; rw [if_pos hc6_103]), (by unfold own_nx; rw [if_pos hc6_103])⟩) (by decide) (by decide)
  · skip
    have hc6_103I : ¬ ((ls'.getD p1.toNatClampNeg 0)).toInt = (0 : Int) := own_eqF hc6_103
    refine own_st (q' := T102.setTop (mkF m 46 #[.val (.ref a), .val (.int p1)] [])) (fun _ k => XS.ifYes X102.here hx rfl (pc0 := 6) (pc' := 46) rfl (hb hby d_rmW_6) rfl ((if0 _ _).trans (feq hc6_103).2) (by decide) (by decide) k) ?_
    refine own_st (q' := T102.setTop (mkF m 47 #[.val (.ref a), .val (.int p1)] [(.ref a)])) (fun _ k => XS.aloadN X102.here hx rfl (hb hby d_rmW_46) rfl rfl k) ?_
    obtain ⟨T134, X134, e134, st134⟩ := getF X102 hx hZ hown (host := "") (Or.inl (hw _ (List.mem_of_getElem? (i := 17) rfl))) Via.refl e102 o1014 (g := (mkF m 47 #[.val (.ref a), .val (.int p1)] [(.ref a)])) rfl rfl (hb hby d_rmW_47)
    refine own_st (q' := T134.setTop (mkF m 50 #[.val (.ref a), .val (.int p1)] [(.ref lf)])) st134 ?_
    refine own_st (q' := T134.setTop (mkF m 51 #[.val (.ref a), .val (.int p1)] [(.int p1), (.ref lf)])) (fun _ k => XS.iloadN X134.here hx rfl (hb hby d_rmW_50) rfl k) ?_
    refine own_st (q' := T134.setTop (mkF m 52 #[.val (.ref a), .val (.int p1)] [(.int p1), (.ref lf), (.int p1), (.ref lf)])) (fun _ k => Jvm.Free.XT.dup2 X134.here hx rfl (hb hby d_rmW_51) rfl rfl rfl k) ?_
    refine own_iaload X134 hx hZ e134 o101U (w := (ls'.getD p1.toNatClampNeg 0)) (by omega) (by first | omega | (simp only [List.length_set]; omega)) rfl (g := (mkF m 52 #[.val (.ref a), .val (.int p1)] [(.int p1), (.ref lf), (.int p1), (.ref lf)])) rfl rfl (hb hby d_rmW_52) ?_
    show own_Dn p e below s (fun v h L => ∃ (ws2 ls2 : List Int32) (nx2 : Int32), v = some (.int (ws2.getD p1.toNatClampNeg 0)) ∧ Fr n0 L ∧ Keep h0 h [a, wo, lf] ∧ own_W Z h n0 a wo lf W S nx2 ws2 ls2 ∧ ls2 = own_ls ls' p1.toNatClampNeg S ∧ ws2 = own_ws ls' ws' p1.toNatClampNeg nx ∧ nx2 = own_nx ls' p1.toNatClampNeg nx W) ({ frames := 0, cells := 0, slots := 0, locals := 0 } : Room).cells ({ frames := 0, cells := 0, slots := 0, locals := 0 } : Room).slots (T134.setTop (mkF m 53 #[.val (.ref a), .val (.int p1)] [(.int (ls'.getD p1.toNatClampNeg 0)), (.int p1), (.ref lf)]))
    refine own_st (q' := T134.setTop (mkF m 54 #[.val (.ref a), .val (.int p1)] [(.int (1 : Int32)), (.int (ls'.getD p1.toNatClampNeg 0)), (.int p1), (.ref lf)])) (fun _ k => XS.iconst X134.here hx rfl (hb hby d_rmW_53) k) ?_
    refine own_st (q' := T134.setTop (mkF m 55 #[.val (.ref a), .val (.int p1)] [(.int ((ls'.getD p1.toNatClampNeg 0) - (1 : Int32))), (.int p1), (.ref lf)])) (fun _ k => XS.isub X134.here hx rfl (hb hby d_rmW_54) rfl k) ?_
    obtain ⟨T135, h135, X135, e135, W135, V135, st135⟩ := own_iastore X134 hx hZ e134 o101U (by omega) (by first | omega | (simp only [List.length_set]; omega)) (g := (mkF m 55 #[.val (.ref a), .val (.int p1)] [(.int ((ls'.getD p1.toNatClampNeg 0) - (1 : Int32))), (.int p1), (.ref lf)])) rfl rfl (hb hby d_rmW_55)
    have N135 := Fr.snoc X135 N0 o101gl
    have K136 : Keep h0 h135 [a, wo, lf] := ((Keep.refl h0 [a, wo, lf]).wr W135 (Or.inl (List.mem_of_getElem? (i := 2) rfl)))
    refine own_st (q' := T135.setTop (mkF m 56 #[.val (.ref a), .val (.int p1)] [])) st135 ?_
    refine own_st (q' := T135.setTop (mkF m 57 #[.val (.ref a), .val (.int p1)] [(.ref a)])) (fun _ k => XS.aloadN X135.here hx rfl (hb hby d_rmW_56) rfl rfl k) ?_
    have f137 := (o1013.other W135 (Or.inl o101y))
    obtain ⟨T138, X138, e138, st138⟩ := getF X135 hx hZ hown (host := "") (Or.inl (hw _ (List.mem_of_getElem? (i := 15) rfl))) Via.refl e135 f137 (g := (mkF m 57 #[.val (.ref a), .val (.int p1)] [(.ref a)])) rfl rfl (hb hby d_rmW_57)
    refine own_st (q' := T138.setTop (mkF m 60 #[.val (.ref a), .val (.int p1)] [(.ref wo)])) st138 ?_
    refine own_st (q' := T138.setTop (mkF m 61 #[.val (.ref a), .val (.int p1)] [(.int p1), (.ref wo)])) (fun _ k => XS.iloadN X138.here hx rfl (hb hby d_rmW_60) rfl k) ?_
    have f139 := (o101V.other W135 o101z)
    refine own_iaload X138 hx hZ e138 f139 (w := (ws'.getD p1.toNatClampNeg 0)) (by omega) (by first | omega | (simp only [List.length_set]; omega)) rfl (g := (mkF m 61 #[.val (.ref a), .val (.int p1)] [(.int p1), (.ref wo)])) rfl rfl (hb hby d_rmW_61) ?_
    show own_Dn p e below s (fun v h L => ∃ (ws2 ls2 : List Int32) (nx2 : Int32), v = some (.int (ws2.getD p1.toNatClampNeg 0)) ∧ Fr n0 L ∧ Keep h0 h [a, wo, lf] ∧ own_W Z h n0 a wo lf W S nx2 ws2 ls2 ∧ ls2 = own_ls ls' p1.toNatClampNeg S ∧ ws2 = own_ws ls' ws' p1.toNatClampNeg nx ∧ nx2 = own_nx ls' p1.toNatClampNeg nx W) ({ frames := 0, cells := 0, slots := 0, locals := 0 } : Room).cells ({ frames := 0, cells := 0, slots := 0, locals := 0 } : Room).slots (T138.setTop (mkF m 62 #[.val (.ref a), .val (.int p1)] [(.int (ws'.getD p1.toNatClampNeg 0))]))
    have f140 := (o101E.wr W135)
    have f141 := (o1011.other W135 (Or.inl o101y))
    have f142 := (o1012.other W135 (Or.inl o101y))
    have f143 := (o1014.other W135 (Or.inl o101y))
    have f144 := (o1015.other W135 (Or.inl o101y))
    exact own_retI X138 hx hlk hret (hb hby d_rmW_62) e138 (by exact ⟨_, _, _, rfl, N135, K136, ⟨f140, f141, f142, f137, f143, f144, f139, V135, ⟨(by simp [o101m]), (by simp [o101n])⟩, ⟨o101ga, o101gw, o101gl⟩, o101x, o101y, o101z⟩, (by unfold own_ls; rw [if_neg hc6_103]), (by unfold own_ws; rw [if_neg hc6_103]), (by unfold own_nx; rw [if_neg hc6_103])⟩) (by decide) (by decide)
def own_s1 (st : List Int32) (i0 i1 i4 : Nat) (S : Int32) : List Int32 := if st.getD i1 0 % S = (0 : Int32) then (st.set i4 (st.getD i0 0)).set i0 ((st.set i4 (st.getD i0 0)).getD i0 0 + (1 : Int32)) else st
def own_sx (st : List Int32) (i0 i1 i4 : Nat) (S : Int32) : List Int32 := (own_s1 st i0 i1 i4 S).set i1 ((own_s1 st i0 i1 i4 S).getD i1 0 + (1 : Int32))
theorem ef_rmX (m : MethodId) (x0 : Addr) (x1 : Int32) (x2 : Int32) (x3 : Int32) : entryFrame m #[(.ref x0), (.int x1), (.int x2), (.int x3)] 4 = mkF m 0 #[.val (.ref x0), .val (.int x1), .val (.int x2), .val (.int x3)] [] := by first | (simp [entryFrame, mkF, argsToLocals, Value.category]; done) | rfl
theorem d_rmX_0 : decode method_2_code 0 = .ok (.aload_n 0, 1) := by decide +kernel
theorem d_rmX_1 : decode method_2_code 1 = .ok (.iconst 1, 1) := by decide +kernel
theorem d_rmX_2 : decode method_2_code 2 = .ok (.iload_n 1, 1) := by decide +kernel
theorem d_rmX_3 : decode method_2_code 3 = .ok (.iadd, 1) := by decide +kernel
theorem d_rmX_4 : decode method_2_code 4 = .ok (.iaload, 1) := by decide +kernel
theorem d_rmX_5 : decode method_2_code 5 = .ok (.iload_n 2, 1) := by decide +kernel
theorem d_rmX_6 : decode method_2_code 6 = .ok (.irem, 1) := by decide +kernel
theorem d_rmX_7 : decode method_2_code 7 = .ok (.ifCond .ne 19, 3) := by decide +kernel
theorem d_rmX_10 : decode method_2_code 10 = .ok (.aload_n 0, 1) := by decide +kernel
theorem d_rmX_11 : decode method_2_code 11 = .ok (.iconst 4, 1) := by decide +kernel
theorem d_rmX_12 : decode method_2_code 12 = .ok (.iload_n 1, 1) := by decide +kernel
theorem d_rmX_13 : decode method_2_code 13 = .ok (.iadd, 1) := by decide +kernel
theorem d_rmX_14 : decode method_2_code 14 = .ok (.aload_n 0, 1) := by decide +kernel
theorem d_rmX_15 : decode method_2_code 15 = .ok (.iconst 0, 1) := by decide +kernel
theorem d_rmX_16 : decode method_2_code 16 = .ok (.iaload, 1) := by decide +kernel
theorem d_rmX_17 : decode method_2_code 17 = .ok (.iastore, 1) := by decide +kernel
theorem d_rmX_18 : decode method_2_code 18 = .ok (.aload_n 0, 1) := by decide +kernel
theorem d_rmX_19 : decode method_2_code 19 = .ok (.iconst 0, 1) := by decide +kernel
theorem d_rmX_20 : decode method_2_code 20 = .ok (.aload_n 0, 1) := by decide +kernel
theorem d_rmX_21 : decode method_2_code 21 = .ok (.iconst 0, 1) := by decide +kernel
theorem d_rmX_22 : decode method_2_code 22 = .ok (.iaload, 1) := by decide +kernel
theorem d_rmX_23 : decode method_2_code 23 = .ok (.iconst 1, 1) := by decide +kernel
theorem d_rmX_24 : decode method_2_code 24 = .ok (.iadd, 1) := by decide +kernel
theorem d_rmX_25 : decode method_2_code 25 = .ok (.iastore, 1) := by decide +kernel
theorem d_rmX_26 : decode method_2_code 26 = .ok (.aload_n 0, 1) := by decide +kernel
theorem d_rmX_27 : decode method_2_code 27 = .ok (.iconst 1, 1) := by decide +kernel
theorem d_rmX_28 : decode method_2_code 28 = .ok (.iload_n 1, 1) := by decide +kernel
theorem d_rmX_29 : decode method_2_code 29 = .ok (.iadd, 1) := by decide +kernel
theorem d_rmX_30 : decode method_2_code 30 = .ok (.aload_n 0, 1) := by decide +kernel
theorem d_rmX_31 : decode method_2_code 31 = .ok (.iconst 1, 1) := by decide +kernel
theorem d_rmX_32 : decode method_2_code 32 = .ok (.iload_n 1, 1) := by decide +kernel
theorem d_rmX_33 : decode method_2_code 33 = .ok (.iadd, 1) := by decide +kernel
theorem d_rmX_34 : decode method_2_code 34 = .ok (.iaload, 1) := by decide +kernel
theorem d_rmX_35 : decode method_2_code 35 = .ok (.iconst 1, 1) := by decide +kernel
theorem d_rmX_36 : decode method_2_code 36 = .ok (.iadd, 1) := by decide +kernel
theorem d_rmX_37 : decode method_2_code 37 = .ok (.iastore, 1) := by decide +kernel
theorem d_rmX_38 : decode method_2_code 38 = .ok (.aload_n 0, 1) := by decide +kernel
theorem d_rmX_39 : decode method_2_code 39 = .ok (.iconst 4, 1) := by decide +kernel
theorem d_rmX_40 : decode method_2_code 40 = .ok (.iload_n 1, 1) := by decide +kernel
theorem d_rmX_41 : decode method_2_code 41 = .ok (.iadd, 1) := by decide +kernel
theorem d_rmX_42 : decode method_2_code 42 = .ok (.iaload, 1) := by decide +kernel
theorem d_rmX_43 : decode method_2_code 43 = .ok (.iload_n 3, 1) := by decide +kernel
theorem d_rmX_44 : decode method_2_code 44 = .ok (.irem, 1) := by decide +kernel
theorem d_rmX_45 : decode method_2_code 45 = .ok (.iconst 1, 1) := by decide +kernel
theorem d_rmX_46 : decode method_2_code 46 = .ok (.iadd, 1) := by decide +kernel
theorem d_rmX_47 : decode method_2_code 47 = .ok (.ireturn, 1) := by decide +kernel
set_option maxRecDepth 65536 in
set_option maxHeartbeats 40000000 in
theorem rmX (l : Launch) (Z : State) (a0 : Array Value) (hw : ∀ d ∈ tables_1, d.before a0 Z = true) (ws : List Jvm.Cond) (a : Addr) (p1 S W : Int32) (st : List Int32) (h0 : Heap) (n0 : Nat) (Z0 : n0 ≤ h0.size) (V0 : own_IA Z h0 a .int st) (hl : st.length = 7) (g1 : n0 ≤ a) (hS : S ≠ 0) (hW : W ≠ 0) (hp0 : 0 ≤ p1.toInt) (hp2 : p1.toInt ≤ 2) :
    own_Met l Z (⟨"com/example/flowstate/flowstate/runtime/BlocksInTurnWorkerPinLaw", "expected", "([IIII)I"⟩ : MethodName) ws method_2_code 4 (some .int) ({ frames := 0, cells := 0, slots := 0, locals := 0 } : Room) #[(.ref a), (.int p1), (.int S), (.int W)] h0 (fun v h L => ∃ st2 : List Int32, v = some (.int (st2.getD ((4 : Int32) + p1).toNatClampNeg 0 % W + (1 : Int32))) ∧ Fr n0 L ∧ Keep h0 h [a] ∧ own_IA Z h a .int st2 ∧ st2.length = 7 ∧ st2 = own_sx st (0 : Int32).toNatClampNeg ((1 : Int32) + p1).toNatClampNeg ((4 : Int32) + p1).toNatClampNeg S) := by
  refine own_body (y := (⟨"com/example/flowstate/flowstate/runtime/BlocksInTurnWorkerPinLaw", "expected", "([IIII)I"⟩ : MethodName)) (plainFor_of_name pn_0) ?_
  intro p e s m below meth c s₁ hx hby hml hown hnm hret hlk hZ X0 e0
  have hml : c.maxLocals = 4 := hml
  have hown : s.vm.findClass "com/example/flowstate/flowstate/runtime/BlocksInTurnWorkerPinLaw" = some m.cls := hown
  have N0 := Fr.nil n0
  refine own_entry (ef_rmX m a p1 S W) ?_
  show own_Dn p e below s (fun v h L => ∃ st2 : List Int32, v = some (.int (st2.getD ((4 : Int32) + p1).toNatClampNeg 0 % W + (1 : Int32))) ∧ Fr n0 L ∧ Keep h0 h [a] ∧ own_IA Z h a .int st2 ∧ st2.length = 7 ∧ st2 = own_sx st (0 : Int32).toNatClampNeg ((1 : Int32) + p1).toNatClampNeg ((4 : Int32) + p1).toNatClampNeg S) ({ frames := 0, cells := 0, slots := 0, locals := 0 } : Room).cells ({ frames := 0, cells := 0, slots := 0, locals := 0 } : Room).slots (s₁.setTop (mkF m 0 #[.val (.ref a), .val (.int p1), .val (.int S), .val (.int W)] []))
  have l1 : (1 : Int32).toInt = 1 := rfl
  have l4 : (4 : Int32).toInt = 4 := rfl
  have l0 : (0 : Int32).toInt = 0 := rfl
  have h1p : ((1 : Int32) + p1).toInt = 1 + p1.toInt := by have := c_iadd 1 p1; have := rng32 (1 + p1); omega
  have h4p : ((4 : Int32) + p1).toInt = 4 + p1.toInt := by have := c_iadd 4 p1; have := rng32 (4 + p1); omega
  show own_Dn p e below s (fun v h L => ∃ st2 : List Int32, v = some (.int (st2.getD ((4 : Int32) + p1).toNatClampNeg 0 % W + (1 : Int32))) ∧ Fr n0 L ∧ Keep h0 h [a] ∧ own_IA Z h a .int st2 ∧ st2.length = 7 ∧ st2 = own_sx st (0 : Int32).toNatClampNeg ((1 : Int32) + p1).toNatClampNeg ((4 : Int32) + p1).toNatClampNeg S) ({ frames := 0, cells := 0, slots := 0, locals := 0 } : Room).cells ({ frames := 0, cells := 0, slots := 0, locals := 0 } : Room).slots (s₁.setTop (mkF m 0 #[.val (.ref a), .val (.int p1), .val (.int S), .val (.int W)] []))
  refine own_st (q' := s₁.setTop (mkF m 1 #[.val (.ref a), .val (.int p1), .val (.int S), .val (.int W)] [(.ref a)])) (fun _ k => XS.aloadN X0.here hx rfl (hb hby d_rmX_0) rfl rfl k) ?_
  refine own_st (q' := s₁.setTop (mkF m 2 #[.val (.ref a), .val (.int p1), .val (.int S), .val (.int W)] [(.int (1 : Int32)), (.ref a)])) (fun _ k => XS.iconst X0.here hx rfl (hb hby d_rmX_1) k) ?_
  refine own_st (q' := s₁.setTop (mkF m 3 #[.val (.ref a), .val (.int p1), .val (.int S), .val (.int W)] [(.int p1), (.int (1 : Int32)), (.ref a)])) (fun _ k => XS.iloadN X0.here hx rfl (hb hby d_rmX_2) rfl k) ?_
  refine own_st (q' := s₁.setTop (mkF m 4 #[.val (.ref a), .val (.int p1), .val (.int S), .val (.int W)] [(.int ((1 : Int32) + p1)), (.ref a)])) (fun _ k => XS.iadd X0.here hx rfl (hb hby d_rmX_3) rfl k) ?_
  refine own_iaload X0 hx hZ e0 V0 (w := (st.getD ((1 : Int32) + p1).toNatClampNeg 0)) (by omega) (by first | omega | (simp only [List.length_set]; omega)) rfl (g := (mkF m 4 #[.val (.ref a), .val (.int p1), .val (.int S), .val (.int W)] [(.int ((1 : Int32) + p1)), (.ref a)])) rfl rfl (hb hby d_rmX_4) ?_
  show own_Dn p e below s (fun v h L => ∃ st2 : List Int32, v = some (.int (st2.getD ((4 : Int32) + p1).toNatClampNeg 0 % W + (1 : Int32))) ∧ Fr n0 L ∧ Keep h0 h [a] ∧ own_IA Z h a .int st2 ∧ st2.length = 7 ∧ st2 = own_sx st (0 : Int32).toNatClampNeg ((1 : Int32) + p1).toNatClampNeg ((4 : Int32) + p1).toNatClampNeg S) ({ frames := 0, cells := 0, slots := 0, locals := 0 } : Room).cells ({ frames := 0, cells := 0, slots := 0, locals := 0 } : Room).slots (s₁.setTop (mkF m 5 #[.val (.ref a), .val (.int p1), .val (.int S), .val (.int W)] [(.int (st.getD ((1 : Int32) + p1).toNatClampNeg 0))]))
  refine own_st (q' := s₁.setTop (mkF m 6 #[.val (.ref a), .val (.int p1), .val (.int S), .val (.int W)] [(.int S), (.int (st.getD ((1 : Int32) + p1).toNatClampNeg 0))])) (fun _ k => XS.iloadN X0.here hx rfl (hb hby d_rmX_5) rfl k) ?_
  refine own_st (q' := s₁.setTop (mkF m 7 #[.val (.ref a), .val (.int p1), .val (.int S), .val (.int W)] [(.int ((st.getD ((1 : Int32) + p1).toNatClampNeg 0) % S))])) (fun _ k => iremM X0 hx rfl (hb hby d_rmX_6) rfl hS k) ?_
  by_cases hc7_101 : ((st.getD ((1 : Int32) + p1).toNatClampNeg 0) % S) = (0 : Int32)
  · skip
    have hc7_101I : (((st.getD ((1 : Int32) + p1).toNatClampNeg 0) % S)).toInt = (0 : Int) := own_eqT hc7_101
    refine own_st (q' := s₁.setTop (mkF m 10 #[.val (.ref a), .val (.int p1), .val (.int S), .val (.int W)] [])) (fun _ k => XS.ifNo X0.here hx rfl (hb hby d_rmX_7) rfl ((if0 _ _).trans (teq hc7_101).2) k) ?_
    refine own_st (q' := s₁.setTop (mkF m 11 #[.val (.ref a), .val (.int p1), .val (.int S), .val (.int W)] [(.ref a)])) (fun _ k => XS.aloadN X0.here hx rfl (hb hby d_rmX_10) rfl rfl k) ?_
    refine own_st (q' := s₁.setTop (mkF m 12 #[.val (.ref a), .val (.int p1), .val (.int S), .val (.int W)] [(.int (4 : Int32)), (.ref a)])) (fun _ k => XS.iconst X0.here hx rfl (hb hby d_rmX_11) k) ?_
    refine own_st (q' := s₁.setTop (mkF m 13 #[.val (.ref a), .val (.int p1), .val (.int S), .val (.int W)] [(.int p1), (.int (4 : Int32)), (.ref a)])) (fun _ k => XS.iloadN X0.here hx rfl (hb hby d_rmX_12) rfl k) ?_
    refine own_st (q' := s₁.setTop (mkF m 14 #[.val (.ref a), .val (.int p1), .val (.int S), .val (.int W)] [(.int ((4 : Int32) + p1)), (.ref a)])) (fun _ k => XS.iadd X0.here hx rfl (hb hby d_rmX_13) rfl k) ?_
    refine own_st (q' := s₁.setTop (mkF m 15 #[.val (.ref a), .val (.int p1), .val (.int S), .val (.int W)] [(.ref a), (.int ((4 : Int32) + p1)), (.ref a)])) (fun _ k => XS.aloadN X0.here hx rfl (hb hby d_rmX_14) rfl rfl k) ?_
    refine own_st (q' := s₁.setTop (mkF m 16 #[.val (.ref a), .val (.int p1), .val (.int S), .val (.int W)] [(.int (0 : Int32)), (.ref a), (.int ((4 : Int32) + p1)), (.ref a)])) (fun _ k => XS.iconst X0.here hx rfl (hb hby d_rmX_15) k) ?_
    refine own_iaload X0 hx hZ e0 V0 (w := (st.getD (0 : Int32).toNatClampNeg 0)) (by omega) (by first | omega | (simp only [List.length_set]; omega)) rfl (g := (mkF m 16 #[.val (.ref a), .val (.int p1), .val (.int S), .val (.int W)] [(.int (0 : Int32)), (.ref a), (.int ((4 : Int32) + p1)), (.ref a)])) rfl rfl (hb hby d_rmX_16) ?_
    show own_Dn p e below s (fun v h L => ∃ st2 : List Int32, v = some (.int (st2.getD ((4 : Int32) + p1).toNatClampNeg 0 % W + (1 : Int32))) ∧ Fr n0 L ∧ Keep h0 h [a] ∧ own_IA Z h a .int st2 ∧ st2.length = 7 ∧ st2 = own_sx st (0 : Int32).toNatClampNeg ((1 : Int32) + p1).toNatClampNeg ((4 : Int32) + p1).toNatClampNeg S) ({ frames := 0, cells := 0, slots := 0, locals := 0 } : Room).cells ({ frames := 0, cells := 0, slots := 0, locals := 0 } : Room).slots (s₁.setTop (mkF m 17 #[.val (.ref a), .val (.int p1), .val (.int S), .val (.int W)] [(.int (st.getD (0 : Int32).toNatClampNeg 0)), (.int ((4 : Int32) + p1)), (.ref a)]))
    obtain ⟨T102, h102, X102, e102, W102, V102, st102⟩ := own_iastore X0 hx hZ e0 V0 (by omega) (by first | omega | (simp only [List.length_set]; omega)) (g := (mkF m 17 #[.val (.ref a), .val (.int p1), .val (.int S), .val (.int W)] [(.int (st.getD (0 : Int32).toNatClampNeg 0)), (.int ((4 : Int32) + p1)), (.ref a)])) rfl rfl (hb hby d_rmX_17)
    have N102 := Fr.snoc X102 N0 g1
    have K103 : Keep h0 h102 [a] := ((Keep.refl h0 [a]).wr W102 (Or.inl (List.mem_of_getElem? (i := 0) rfl)))
    refine own_st (q' := T102.setTop (mkF m 18 #[.val (.ref a), .val (.int p1), .val (.int S), .val (.int W)] [])) st102 ?_
    refine own_st (q' := T102.setTop (mkF m 19 #[.val (.ref a), .val (.int p1), .val (.int S), .val (.int W)] [(.ref a)])) (fun _ k => XS.aloadN X102.here hx rfl (hb hby d_rmX_18) rfl rfl k) ?_
    refine own_st (q' := T102.setTop (mkF m 20 #[.val (.ref a), .val (.int p1), .val (.int S), .val (.int W)] [(.int (0 : Int32)), (.ref a)])) (fun _ k => XS.iconst X102.here hx rfl (hb hby d_rmX_19) k) ?_
    refine own_st (q' := T102.setTop (mkF m 21 #[.val (.ref a), .val (.int p1), .val (.int S), .val (.int W)] [(.ref a), (.int (0 : Int32)), (.ref a)])) (fun _ k => XS.aloadN X102.here hx rfl (hb hby d_rmX_20) rfl rfl k) ?_
    refine own_st (q' := T102.setTop (mkF m 22 #[.val (.ref a), .val (.int p1), .val (.int S), .val (.int W)] [(.int (0 : Int32)), (.ref a), (.int (0 : Int32)), (.ref a)])) (fun _ k => XS.iconst X102.here hx rfl (hb hby d_rmX_21) k) ?_
    refine own_iaload X102 hx hZ e102 V102 (w := ((st.set ((4 : Int32) + p1).toNatClampNeg (st.getD (0 : Int32).toNatClampNeg 0)).getD (0 : Int32).toNatClampNeg 0)) (by omega) (by first | omega | (simp only [List.length_set]; omega)) rfl (g := (mkF m 22 #[.val (.ref a), .val (.int p1), .val (.int S), .val (.int W)] [(.int (0 : Int32)), (.ref a), (.int (0 : Int32)), (.ref a)])) rfl rfl (hb hby d_rmX_22) ?_
    show own_Dn p e below s (fun v h L => ∃ st2 : List Int32, v = some (.int (st2.getD ((4 : Int32) + p1).toNatClampNeg 0 % W + (1 : Int32))) ∧ Fr n0 L ∧ Keep h0 h [a] ∧ own_IA Z h a .int st2 ∧ st2.length = 7 ∧ st2 = own_sx st (0 : Int32).toNatClampNeg ((1 : Int32) + p1).toNatClampNeg ((4 : Int32) + p1).toNatClampNeg S) ({ frames := 0, cells := 0, slots := 0, locals := 0 } : Room).cells ({ frames := 0, cells := 0, slots := 0, locals := 0 } : Room).slots (T102.setTop (mkF m 23 #[.val (.ref a), .val (.int p1), .val (.int S), .val (.int W)] [(.int ((st.set ((4 : Int32) + p1).toNatClampNeg (st.getD (0 : Int32).toNatClampNeg 0)).getD (0 : Int32).toNatClampNeg 0)), (.int (0 : Int32)), (.ref a)]))
    refine own_st (q' := T102.setTop (mkF m 24 #[.val (.ref a), .val (.int p1), .val (.int S), .val (.int W)] [(.int (1 : Int32)), (.int ((st.set ((4 : Int32) + p1).toNatClampNeg (st.getD (0 : Int32).toNatClampNeg 0)).getD (0 : Int32).toNatClampNeg 0)), (.int (0 : Int32)), (.ref a)])) (fun _ k => XS.iconst X102.here hx rfl (hb hby d_rmX_23) k) ?_
    refine own_st (q' := T102.setTop (mkF m 25 #[.val (.ref a), .val (.int p1), .val (.int S), .val (.int W)] [(.int (((st.set ((4 : Int32) + p1).toNatClampNeg (st.getD (0 : Int32).toNatClampNeg 0)).getD (0 : Int32).toNatClampNeg 0) + (1 : Int32))), (.int (0 : Int32)), (.ref a)])) (fun _ k => XS.iadd X102.here hx rfl (hb hby d_rmX_24) rfl k) ?_
    obtain ⟨T104, h104, X104, e104, W104, V104, st104⟩ := own_iastore X102 hx hZ e102 V102 (by omega) (by first | omega | (simp only [List.length_set]; omega)) (g := (mkF m 25 #[.val (.ref a), .val (.int p1), .val (.int S), .val (.int W)] [(.int (((st.set ((4 : Int32) + p1).toNatClampNeg (st.getD (0 : Int32).toNatClampNeg 0)).getD (0 : Int32).toNatClampNeg 0) + (1 : Int32))), (.int (0 : Int32)), (.ref a)])) rfl rfl (hb hby d_rmX_25)
    have N104 := Fr.snoc X104 N102 g1
    have K105 : Keep h0 h104 [a] := (K103.wr W104 (Or.inl (List.mem_of_getElem? (i := 0) rfl)))
    refine own_st (q' := T104.setTop (mkF m 26 #[.val (.ref a), .val (.int p1), .val (.int S), .val (.int W)] [])) st104 ?_
    refine own_st (q' := T104.setTop (mkF m 27 #[.val (.ref a), .val (.int p1), .val (.int S), .val (.int W)] [(.ref a)])) (fun _ k => XS.aloadN X104.here hx rfl (hb hby d_rmX_26) rfl rfl k) ?_
    refine own_st (q' := T104.setTop (mkF m 28 #[.val (.ref a), .val (.int p1), .val (.int S), .val (.int W)] [(.int (1 : Int32)), (.ref a)])) (fun _ k => XS.iconst X104.here hx rfl (hb hby d_rmX_27) k) ?_
    refine own_st (q' := T104.setTop (mkF m 29 #[.val (.ref a), .val (.int p1), .val (.int S), .val (.int W)] [(.int p1), (.int (1 : Int32)), (.ref a)])) (fun _ k => XS.iloadN X104.here hx rfl (hb hby d_rmX_28) rfl k) ?_
    refine own_st (q' := T104.setTop (mkF m 30 #[.val (.ref a), .val (.int p1), .val (.int S), .val (.int W)] [(.int ((1 : Int32) + p1)), (.ref a)])) (fun _ k => XS.iadd X104.here hx rfl (hb hby d_rmX_29) rfl k) ?_
    refine own_st (q' := T104.setTop (mkF m 31 #[.val (.ref a), .val (.int p1), .val (.int S), .val (.int W)] [(.ref a), (.int ((1 : Int32) + p1)), (.ref a)])) (fun _ k => XS.aloadN X104.here hx rfl (hb hby d_rmX_30) rfl rfl k) ?_
    refine own_st (q' := T104.setTop (mkF m 32 #[.val (.ref a), .val (.int p1), .val (.int S), .val (.int W)] [(.int (1 : Int32)), (.ref a), (.int ((1 : Int32) + p1)), (.ref a)])) (fun _ k => XS.iconst X104.here hx rfl (hb hby d_rmX_31) k) ?_
    refine own_st (q' := T104.setTop (mkF m 33 #[.val (.ref a), .val (.int p1), .val (.int S), .val (.int W)] [(.int p1), (.int (1 : Int32)), (.ref a), (.int ((1 : Int32) + p1)), (.ref a)])) (fun _ k => XS.iloadN X104.here hx rfl (hb hby d_rmX_32) rfl k) ?_
    refine own_st (q' := T104.setTop (mkF m 34 #[.val (.ref a), .val (.int p1), .val (.int S), .val (.int W)] [(.int ((1 : Int32) + p1)), (.ref a), (.int ((1 : Int32) + p1)), (.ref a)])) (fun _ k => XS.iadd X104.here hx rfl (hb hby d_rmX_33) rfl k) ?_
    refine own_iaload X104 hx hZ e104 V104 (w := (((st.set ((4 : Int32) + p1).toNatClampNeg (st.getD (0 : Int32).toNatClampNeg 0)).set (0 : Int32).toNatClampNeg (((st.set ((4 : Int32) + p1).toNatClampNeg (st.getD (0 : Int32).toNatClampNeg 0)).getD (0 : Int32).toNatClampNeg 0) + (1 : Int32))).getD ((1 : Int32) + p1).toNatClampNeg 0)) (by omega) (by first | omega | (simp only [List.length_set]; omega)) rfl (g := (mkF m 34 #[.val (.ref a), .val (.int p1), .val (.int S), .val (.int W)] [(.int ((1 : Int32) + p1)), (.ref a), (.int ((1 : Int32) + p1)), (.ref a)])) rfl rfl (hb hby d_rmX_34) ?_
    show own_Dn p e below s (fun v h L => ∃ st2 : List Int32, v = some (.int (st2.getD ((4 : Int32) + p1).toNatClampNeg 0 % W + (1 : Int32))) ∧ Fr n0 L ∧ Keep h0 h [a] ∧ own_IA Z h a .int st2 ∧ st2.length = 7 ∧ st2 = own_sx st (0 : Int32).toNatClampNeg ((1 : Int32) + p1).toNatClampNeg ((4 : Int32) + p1).toNatClampNeg S) ({ frames := 0, cells := 0, slots := 0, locals := 0 } : Room).cells ({ frames := 0, cells := 0, slots := 0, locals := 0 } : Room).slots (T104.setTop (mkF m 35 #[.val (.ref a), .val (.int p1), .val (.int S), .val (.int W)] [(.int (((st.set ((4 : Int32) + p1).toNatClampNeg (st.getD (0 : Int32).toNatClampNeg 0)).set (0 : Int32).toNatClampNeg (((st.set ((4 : Int32) + p1).toNatClampNeg (st.getD (0 : Int32).toNatClampNeg 0)).getD (0 : Int32).toNatClampNeg 0) + (1 : Int32))).getD ((1 : Int32) + p1).toNatClampNeg 0)), (.int ((1 : Int32) + p1)), (.ref a)]))
    refine own_st (q' := T104.setTop (mkF m 36 #[.val (.ref a), .val (.int p1), .val (.int S), .val (.int W)] [(.int (1 : Int32)), (.int (((st.set ((4 : Int32) + p1).toNatClampNeg (st.getD (0 : Int32).toNatClampNeg 0)).set (0 : Int32).toNatClampNeg (((st.set ((4 : Int32) + p1).toNatClampNeg (st.getD (0 : Int32).toNatClampNeg 0)).getD (0 : Int32).toNatClampNeg 0) + (1 : Int32))).getD ((1 : Int32) + p1).toNatClampNeg 0)), (.int ((1 : Int32) + p1)), (.ref a)])) (fun _ k => XS.iconst X104.here hx rfl (hb hby d_rmX_35) k) ?_
    refine own_st (q' := T104.setTop (mkF m 37 #[.val (.ref a), .val (.int p1), .val (.int S), .val (.int W)] [(.int ((((st.set ((4 : Int32) + p1).toNatClampNeg (st.getD (0 : Int32).toNatClampNeg 0)).set (0 : Int32).toNatClampNeg (((st.set ((4 : Int32) + p1).toNatClampNeg (st.getD (0 : Int32).toNatClampNeg 0)).getD (0 : Int32).toNatClampNeg 0) + (1 : Int32))).getD ((1 : Int32) + p1).toNatClampNeg 0) + (1 : Int32))), (.int ((1 : Int32) + p1)), (.ref a)])) (fun _ k => XS.iadd X104.here hx rfl (hb hby d_rmX_36) rfl k) ?_
    obtain ⟨T106, h106, X106, e106, W106, V106, st106⟩ := own_iastore X104 hx hZ e104 V104 (by omega) (by first | omega | (simp only [List.length_set]; omega)) (g := (mkF m 37 #[.val (.ref a), .val (.int p1), .val (.int S), .val (.int W)] [(.int ((((st.set ((4 : Int32) + p1).toNatClampNeg (st.getD (0 : Int32).toNatClampNeg 0)).set (0 : Int32).toNatClampNeg (((st.set ((4 : Int32) + p1).toNatClampNeg (st.getD (0 : Int32).toNatClampNeg 0)).getD (0 : Int32).toNatClampNeg 0) + (1 : Int32))).getD ((1 : Int32) + p1).toNatClampNeg 0) + (1 : Int32))), (.int ((1 : Int32) + p1)), (.ref a)])) rfl rfl (hb hby d_rmX_37)
    have N106 := Fr.snoc X106 N104 g1
    have K107 : Keep h0 h106 [a] := (K105.wr W106 (Or.inl (List.mem_of_getElem? (i := 0) rfl)))
    refine own_st (q' := T106.setTop (mkF m 38 #[.val (.ref a), .val (.int p1), .val (.int S), .val (.int W)] [])) st106 ?_
    refine own_st (q' := T106.setTop (mkF m 39 #[.val (.ref a), .val (.int p1), .val (.int S), .val (.int W)] [(.ref a)])) (fun _ k => XS.aloadN X106.here hx rfl (hb hby d_rmX_38) rfl rfl k) ?_
    refine own_st (q' := T106.setTop (mkF m 40 #[.val (.ref a), .val (.int p1), .val (.int S), .val (.int W)] [(.int (4 : Int32)), (.ref a)])) (fun _ k => XS.iconst X106.here hx rfl (hb hby d_rmX_39) k) ?_
    refine own_st (q' := T106.setTop (mkF m 41 #[.val (.ref a), .val (.int p1), .val (.int S), .val (.int W)] [(.int p1), (.int (4 : Int32)), (.ref a)])) (fun _ k => XS.iloadN X106.here hx rfl (hb hby d_rmX_40) rfl k) ?_
    refine own_st (q' := T106.setTop (mkF m 42 #[.val (.ref a), .val (.int p1), .val (.int S), .val (.int W)] [(.int ((4 : Int32) + p1)), (.ref a)])) (fun _ k => XS.iadd X106.here hx rfl (hb hby d_rmX_41) rfl k) ?_
    refine own_iaload X106 hx hZ e106 V106 (w := ((((st.set ((4 : Int32) + p1).toNatClampNeg (st.getD (0 : Int32).toNatClampNeg 0)).set (0 : Int32).toNatClampNeg (((st.set ((4 : Int32) + p1).toNatClampNeg (st.getD (0 : Int32).toNatClampNeg 0)).getD (0 : Int32).toNatClampNeg 0) + (1 : Int32))).set ((1 : Int32) + p1).toNatClampNeg ((((st.set ((4 : Int32) + p1).toNatClampNeg (st.getD (0 : Int32).toNatClampNeg 0)).set (0 : Int32).toNatClampNeg (((st.set ((4 : Int32) + p1).toNatClampNeg (st.getD (0 : Int32).toNatClampNeg 0)).getD (0 : Int32).toNatClampNeg 0) + (1 : Int32))).getD ((1 : Int32) + p1).toNatClampNeg 0) + (1 : Int32))).getD ((4 : Int32) + p1).toNatClampNeg 0)) (by omega) (by first | omega | (simp only [List.length_set]; omega)) rfl (g := (mkF m 42 #[.val (.ref a), .val (.int p1), .val (.int S), .val (.int W)] [(.int ((4 : Int32) + p1)), (.ref a)])) rfl rfl (hb hby d_rmX_42) ?_
    show own_Dn p e below s (fun v h L => ∃ st2 : List Int32, v = some (.int (st2.getD ((4 : Int32) + p1).toNatClampNeg 0 % W + (1 : Int32))) ∧ Fr n0 L ∧ Keep h0 h [a] ∧ own_IA Z h a .int st2 ∧ st2.length = 7 ∧ st2 = own_sx st (0 : Int32).toNatClampNeg ((1 : Int32) + p1).toNatClampNeg ((4 : Int32) + p1).toNatClampNeg S) ({ frames := 0, cells := 0, slots := 0, locals := 0 } : Room).cells ({ frames := 0, cells := 0, slots := 0, locals := 0 } : Room).slots (T106.setTop (mkF m 43 #[.val (.ref a), .val (.int p1), .val (.int S), .val (.int W)] [(.int ((((st.set ((4 : Int32) + p1).toNatClampNeg (st.getD (0 : Int32).toNatClampNeg 0)).set (0 : Int32).toNatClampNeg (((st.set ((4 : Int32) + p1).toNatClampNeg (st.getD (0 : Int32).toNatClampNeg 0)).getD (0 : Int32).toNatClampNeg 0) + (1 : Int32))).set ((1 : Int32) + p1).toNatClampNeg ((((st.set ((4 : Int32) + p1).toNatClampNeg (st.getD (0 : Int32).toNatClampNeg 0)).set (0 : Int32).toNatClampNeg (((st.set ((4 : Int32) + p1).toNatClampNeg (st.getD (0 : Int32).toNatClampNeg 0)).getD (0 : Int32).toNatClampNeg 0) + (1 : Int32))).getD ((1 : Int32) + p1).toNatClampNeg 0) + (1 : Int32))).getD ((4 : Int32) + p1).toNatClampNeg 0))]))
    refine own_st (q' := T106.setTop (mkF m 44 #[.val (.ref a), .val (.int p1), .val (.int S), .val (.int W)] [(.int W), (.int ((((st.set ((4 : Int32) + p1).toNatClampNeg (st.getD (0 : Int32).toNatClampNeg 0)).set (0 : Int32).toNatClampNeg (((st.set ((4 : Int32) + p1).toNatClampNeg (st.getD (0 : Int32).toNatClampNeg 0)).getD (0 : Int32).toNatClampNeg 0) + (1 : Int32))).set ((1 : Int32) + p1).toNatClampNeg ((((st.set ((4 : Int32) + p1).toNatClampNeg (st.getD (0 : Int32).toNatClampNeg 0)).set (0 : Int32).toNatClampNeg (((st.set ((4 : Int32) + p1).toNatClampNeg (st.getD (0 : Int32).toNatClampNeg 0)).getD (0 : Int32).toNatClampNeg 0) + (1 : Int32))).getD ((1 : Int32) + p1).toNatClampNeg 0) + (1 : Int32))).getD ((4 : Int32) + p1).toNatClampNeg 0))])) (fun _ k => XS.iloadN X106.here hx rfl (hb hby d_rmX_43) rfl k) ?_
    refine own_st (q' := T106.setTop (mkF m 45 #[.val (.ref a), .val (.int p1), .val (.int S), .val (.int W)] [(.int (((((st.set ((4 : Int32) + p1).toNatClampNeg (st.getD (0 : Int32).toNatClampNeg 0)).set (0 : Int32).toNatClampNeg (((st.set ((4 : Int32) + p1).toNatClampNeg (st.getD (0 : Int32).toNatClampNeg 0)).getD (0 : Int32).toNatClampNeg 0) + (1 : Int32))).set ((1 : Int32) + p1).toNatClampNeg ((((st.set ((4 : Int32) + p1).toNatClampNeg (st.getD (0 : Int32).toNatClampNeg 0)).set (0 : Int32).toNatClampNeg (((st.set ((4 : Int32) + p1).toNatClampNeg (st.getD (0 : Int32).toNatClampNeg 0)).getD (0 : Int32).toNatClampNeg 0) + (1 : Int32))).getD ((1 : Int32) + p1).toNatClampNeg 0) + (1 : Int32))).getD ((4 : Int32) + p1).toNatClampNeg 0) % W))])) (fun _ k => iremM X106 hx rfl (hb hby d_rmX_44) rfl hW k) ?_
    refine own_st (q' := T106.setTop (mkF m 46 #[.val (.ref a), .val (.int p1), .val (.int S), .val (.int W)] [(.int (1 : Int32)), (.int (((((st.set ((4 : Int32) + p1).toNatClampNeg (st.getD (0 : Int32).toNatClampNeg 0)).set (0 : Int32).toNatClampNeg (((st.set ((4 : Int32) + p1).toNatClampNeg (st.getD (0 : Int32).toNatClampNeg 0)).getD (0 : Int32).toNatClampNeg 0) + (1 : Int32))).set ((1 : Int32) + p1).toNatClampNeg ((((st.set ((4 : Int32) + p1).toNatClampNeg (st.getD (0 : Int32).toNatClampNeg 0)).set (0 : Int32).toNatClampNeg (((st.set ((4 : Int32) + p1).toNatClampNeg (st.getD (0 : Int32).toNatClampNeg 0)).getD (0 : Int32).toNatClampNeg 0) + (1 : Int32))).getD ((1 : Int32) + p1).toNatClampNeg 0) + (1 : Int32))).getD ((4 : Int32) + p1).toNatClampNeg 0) % W))])) (fun _ k => XS.iconst X106.here hx rfl (hb hby d_rmX_45) k) ?_
    refine own_st (q' := T106.setTop (mkF m 47 #[.val (.ref a), .val (.int p1), .val (.int S), .val (.int W)] [(.int ((((((st.set ((4 : Int32) + p1).toNatClampNeg (st.getD (0 : Int32).toNatClampNeg 0)).set (0 : Int32).toNatClampNeg (((st.set ((4 : Int32) + p1).toNatClampNeg (st.getD (0 : Int32).toNatClampNeg 0)).getD (0 : Int32).toNatClampNeg 0) + (1 : Int32))).set ((1 : Int32) + p1).toNatClampNeg ((((st.set ((4 : Int32) + p1).toNatClampNeg (st.getD (0 : Int32).toNatClampNeg 0)).set (0 : Int32).toNatClampNeg (((st.set ((4 : Int32) + p1).toNatClampNeg (st.getD (0 : Int32).toNatClampNeg 0)).getD (0 : Int32).toNatClampNeg 0) + (1 : Int32))).getD ((1 : Int32) + p1).toNatClampNeg 0) + (1 : Int32))).getD ((4 : Int32) + p1).toNatClampNeg 0) % W) + (1 : Int32)))])) (fun _ k => XS.iadd X106.here hx rfl (hb hby d_rmX_46) rfl k) ?_
    exact own_retI X106 hx hlk hret (hb hby d_rmX_47) e106 (by exact ⟨_, rfl, N106, K107, V106, (by simp only [List.length_set, hl]), (by unfold own_sx own_s1; rw [if_pos hc7_101])⟩) (by decide) (by decide)
  · skip
    have hc7_101I : ¬ (((st.getD ((1 : Int32) + p1).toNatClampNeg 0) % S)).toInt = (0 : Int) := own_eqF hc7_101
    refine own_st (q' := s₁.setTop (mkF m 26 #[.val (.ref a), .val (.int p1), .val (.int S), .val (.int W)] [])) (fun _ k => XS.ifYes X0.here hx rfl (pc0 := 7) (pc' := 26) rfl (hb hby d_rmX_7) rfl ((if0 _ _).trans (feq hc7_101).2) (by decide) (by decide) k) ?_
    refine own_st (q' := s₁.setTop (mkF m 27 #[.val (.ref a), .val (.int p1), .val (.int S), .val (.int W)] [(.ref a)])) (fun _ k => XS.aloadN X0.here hx rfl (hb hby d_rmX_26) rfl rfl k) ?_
    refine own_st (q' := s₁.setTop (mkF m 28 #[.val (.ref a), .val (.int p1), .val (.int S), .val (.int W)] [(.int (1 : Int32)), (.ref a)])) (fun _ k => XS.iconst X0.here hx rfl (hb hby d_rmX_27) k) ?_
    refine own_st (q' := s₁.setTop (mkF m 29 #[.val (.ref a), .val (.int p1), .val (.int S), .val (.int W)] [(.int p1), (.int (1 : Int32)), (.ref a)])) (fun _ k => XS.iloadN X0.here hx rfl (hb hby d_rmX_28) rfl k) ?_
    refine own_st (q' := s₁.setTop (mkF m 30 #[.val (.ref a), .val (.int p1), .val (.int S), .val (.int W)] [(.int ((1 : Int32) + p1)), (.ref a)])) (fun _ k => XS.iadd X0.here hx rfl (hb hby d_rmX_29) rfl k) ?_
    refine own_st (q' := s₁.setTop (mkF m 31 #[.val (.ref a), .val (.int p1), .val (.int S), .val (.int W)] [(.ref a), (.int ((1 : Int32) + p1)), (.ref a)])) (fun _ k => XS.aloadN X0.here hx rfl (hb hby d_rmX_30) rfl rfl k) ?_
    refine own_st (q' := s₁.setTop (mkF m 32 #[.val (.ref a), .val (.int p1), .val (.int S), .val (.int W)] [(.int (1 : Int32)), (.ref a), (.int ((1 : Int32) + p1)), (.ref a)])) (fun _ k => XS.iconst X0.here hx rfl (hb hby d_rmX_31) k) ?_
    refine own_st (q' := s₁.setTop (mkF m 33 #[.val (.ref a), .val (.int p1), .val (.int S), .val (.int W)] [(.int p1), (.int (1 : Int32)), (.ref a), (.int ((1 : Int32) + p1)), (.ref a)])) (fun _ k => XS.iloadN X0.here hx rfl (hb hby d_rmX_32) rfl k) ?_
    refine own_st (q' := s₁.setTop (mkF m 34 #[.val (.ref a), .val (.int p1), .val (.int S), .val (.int W)] [(.int ((1 : Int32) + p1)), (.ref a), (.int ((1 : Int32) + p1)), (.ref a)])) (fun _ k => XS.iadd X0.here hx rfl (hb hby d_rmX_33) rfl k) ?_
    refine own_iaload X0 hx hZ e0 V0 (w := (st.getD ((1 : Int32) + p1).toNatClampNeg 0)) (by omega) (by first | omega | (simp only [List.length_set]; omega)) rfl (g := (mkF m 34 #[.val (.ref a), .val (.int p1), .val (.int S), .val (.int W)] [(.int ((1 : Int32) + p1)), (.ref a), (.int ((1 : Int32) + p1)), (.ref a)])) rfl rfl (hb hby d_rmX_34) ?_
    show own_Dn p e below s (fun v h L => ∃ st2 : List Int32, v = some (.int (st2.getD ((4 : Int32) + p1).toNatClampNeg 0 % W + (1 : Int32))) ∧ Fr n0 L ∧ Keep h0 h [a] ∧ own_IA Z h a .int st2 ∧ st2.length = 7 ∧ st2 = own_sx st (0 : Int32).toNatClampNeg ((1 : Int32) + p1).toNatClampNeg ((4 : Int32) + p1).toNatClampNeg S) ({ frames := 0, cells := 0, slots := 0, locals := 0 } : Room).cells ({ frames := 0, cells := 0, slots := 0, locals := 0 } : Room).slots (s₁.setTop (mkF m 35 #[.val (.ref a), .val (.int p1), .val (.int S), .val (.int W)] [(.int (st.getD ((1 : Int32) + p1).toNatClampNeg 0)), (.int ((1 : Int32) + p1)), (.ref a)]))
    refine own_st (q' := s₁.setTop (mkF m 36 #[.val (.ref a), .val (.int p1), .val (.int S), .val (.int W)] [(.int (1 : Int32)), (.int (st.getD ((1 : Int32) + p1).toNatClampNeg 0)), (.int ((1 : Int32) + p1)), (.ref a)])) (fun _ k => XS.iconst X0.here hx rfl (hb hby d_rmX_35) k) ?_
    refine own_st (q' := s₁.setTop (mkF m 37 #[.val (.ref a), .val (.int p1), .val (.int S), .val (.int W)] [(.int ((st.getD ((1 : Int32) + p1).toNatClampNeg 0) + (1 : Int32))), (.int ((1 : Int32) + p1)), (.ref a)])) (fun _ k => XS.iadd X0.here hx rfl (hb hby d_rmX_36) rfl k) ?_
    obtain ⟨T108, h108, X108, e108, W108, V108, st108⟩ := own_iastore X0 hx hZ e0 V0 (by omega) (by first | omega | (simp only [List.length_set]; omega)) (g := (mkF m 37 #[.val (.ref a), .val (.int p1), .val (.int S), .val (.int W)] [(.int ((st.getD ((1 : Int32) + p1).toNatClampNeg 0) + (1 : Int32))), (.int ((1 : Int32) + p1)), (.ref a)])) rfl rfl (hb hby d_rmX_37)
    have N108 := Fr.snoc X108 N0 g1
    have K109 : Keep h0 h108 [a] := ((Keep.refl h0 [a]).wr W108 (Or.inl (List.mem_of_getElem? (i := 0) rfl)))
    refine own_st (q' := T108.setTop (mkF m 38 #[.val (.ref a), .val (.int p1), .val (.int S), .val (.int W)] [])) st108 ?_
    refine own_st (q' := T108.setTop (mkF m 39 #[.val (.ref a), .val (.int p1), .val (.int S), .val (.int W)] [(.ref a)])) (fun _ k => XS.aloadN X108.here hx rfl (hb hby d_rmX_38) rfl rfl k) ?_
    refine own_st (q' := T108.setTop (mkF m 40 #[.val (.ref a), .val (.int p1), .val (.int S), .val (.int W)] [(.int (4 : Int32)), (.ref a)])) (fun _ k => XS.iconst X108.here hx rfl (hb hby d_rmX_39) k) ?_
    refine own_st (q' := T108.setTop (mkF m 41 #[.val (.ref a), .val (.int p1), .val (.int S), .val (.int W)] [(.int p1), (.int (4 : Int32)), (.ref a)])) (fun _ k => XS.iloadN X108.here hx rfl (hb hby d_rmX_40) rfl k) ?_
    refine own_st (q' := T108.setTop (mkF m 42 #[.val (.ref a), .val (.int p1), .val (.int S), .val (.int W)] [(.int ((4 : Int32) + p1)), (.ref a)])) (fun _ k => XS.iadd X108.here hx rfl (hb hby d_rmX_41) rfl k) ?_
    refine own_iaload X108 hx hZ e108 V108 (w := ((st.set ((1 : Int32) + p1).toNatClampNeg ((st.getD ((1 : Int32) + p1).toNatClampNeg 0) + (1 : Int32))).getD ((4 : Int32) + p1).toNatClampNeg 0)) (by omega) (by first | omega | (simp only [List.length_set]; omega)) rfl (g := (mkF m 42 #[.val (.ref a), .val (.int p1), .val (.int S), .val (.int W)] [(.int ((4 : Int32) + p1)), (.ref a)])) rfl rfl (hb hby d_rmX_42) ?_
    show own_Dn p e below s (fun v h L => ∃ st2 : List Int32, v = some (.int (st2.getD ((4 : Int32) + p1).toNatClampNeg 0 % W + (1 : Int32))) ∧ Fr n0 L ∧ Keep h0 h [a] ∧ own_IA Z h a .int st2 ∧ st2.length = 7 ∧ st2 = own_sx st (0 : Int32).toNatClampNeg ((1 : Int32) + p1).toNatClampNeg ((4 : Int32) + p1).toNatClampNeg S) ({ frames := 0, cells := 0, slots := 0, locals := 0 } : Room).cells ({ frames := 0, cells := 0, slots := 0, locals := 0 } : Room).slots (T108.setTop (mkF m 43 #[.val (.ref a), .val (.int p1), .val (.int S), .val (.int W)] [(.int ((st.set ((1 : Int32) + p1).toNatClampNeg ((st.getD ((1 : Int32) + p1).toNatClampNeg 0) + (1 : Int32))).getD ((4 : Int32) + p1).toNatClampNeg 0))]))
    refine own_st (q' := T108.setTop (mkF m 44 #[.val (.ref a), .val (.int p1), .val (.int S), .val (.int W)] [(.int W), (.int ((st.set ((1 : Int32) + p1).toNatClampNeg ((st.getD ((1 : Int32) + p1).toNatClampNeg 0) + (1 : Int32))).getD ((4 : Int32) + p1).toNatClampNeg 0))])) (fun _ k => XS.iloadN X108.here hx rfl (hb hby d_rmX_43) rfl k) ?_
    refine own_st (q' := T108.setTop (mkF m 45 #[.val (.ref a), .val (.int p1), .val (.int S), .val (.int W)] [(.int (((st.set ((1 : Int32) + p1).toNatClampNeg ((st.getD ((1 : Int32) + p1).toNatClampNeg 0) + (1 : Int32))).getD ((4 : Int32) + p1).toNatClampNeg 0) % W))])) (fun _ k => iremM X108 hx rfl (hb hby d_rmX_44) rfl hW k) ?_
    refine own_st (q' := T108.setTop (mkF m 46 #[.val (.ref a), .val (.int p1), .val (.int S), .val (.int W)] [(.int (1 : Int32)), (.int (((st.set ((1 : Int32) + p1).toNatClampNeg ((st.getD ((1 : Int32) + p1).toNatClampNeg 0) + (1 : Int32))).getD ((4 : Int32) + p1).toNatClampNeg 0) % W))])) (fun _ k => XS.iconst X108.here hx rfl (hb hby d_rmX_45) k) ?_
    refine own_st (q' := T108.setTop (mkF m 47 #[.val (.ref a), .val (.int p1), .val (.int S), .val (.int W)] [(.int ((((st.set ((1 : Int32) + p1).toNatClampNeg ((st.getD ((1 : Int32) + p1).toNatClampNeg 0) + (1 : Int32))).getD ((4 : Int32) + p1).toNatClampNeg 0) % W) + (1 : Int32)))])) (fun _ k => XS.iadd X108.here hx rfl (hb hby d_rmX_46) rfl k) ?_
    exact own_retI X108 hx hlk hret (hb hby d_rmX_47) e108 (by exact ⟨_, rfl, N108, K109, V108, (by simp only [List.length_set, hl]), (by unfold own_sx own_s1; rw [if_neg hc7_101])⟩) (by decide) (by decide)
theorem own_gs (xs : List Int32) (i j : Nat) (v : Int32) (hi : i < xs.length) : (xs.set i v).getD j 0 = if i = j then v else xs.getD j 0 := by
  rw [List.getD_eq_getElem?_getD, List.getElem?_set]
  by_cases q : i = j
  · rw [if_pos q, if_pos hi, if_pos q]; rfl
  · rw [if_neg q, if_neg q, List.getD_eq_getElem?_getD]
/-- one partition: cnt tuples so far, left, its worker, its block's number -/
def own_R (k : Int) (W S : Int32) (cnt lf w g : Int32) : Prop := (0 ≤ cnt.toInt ∧ cnt.toInt ≤ k) ∧ (0 ≤ lf.toInt ∧ lf.toInt < S.toInt) ∧ S.toInt ∣ lf.toInt + cnt.toInt ∧ (cnt.toInt = 0 ∨ w = g % W + (1 : Int32))
def own_Inv (k : Int) (W S nx : Int32) (ws ls st : List Int32) : Prop := st.length = 7 ∧ (0 ≤ (st.getD 0 0).toInt ∧ (st.getD 0 0).toInt ≤ k) ∧ nx = st.getD 0 0 % W ∧ ∀ q, q < 3 → own_R k W S (st.getD (1 + q) 0) (ls.getD q 0) (ws.getD q 0) (st.getD (4 + q) 0)
theorem own_mod {x y : Int32} (hx : 0 ≤ x.toInt) : (x % y).toInt = x.toInt % y.toInt := by rw [Int32.toInt_mod, Int.tmod_eq_emod_of_nonneg hx]
theorem own_zero {S cnt lf : Int32} (hS : 0 < S.toInt) (h0 : 0 ≤ cnt.toInt) (h1 : 0 ≤ lf.toInt) (h2 : lf.toInt < S.toInt) (h3 : S.toInt ∣ lf.toInt + cnt.toInt) : lf = (0 : Int32) ↔ cnt % S = (0 : Int32) := by
  have l0 : (0 : Int32).toInt = 0 := rfl
  constructor
  · intro q
    apply own_eq
    rw [own_mod h0, l0]
    rw [q, l0, Int.zero_add] at h3
    exact Int.emod_eq_zero_of_dvd h3
  · intro q
    have q' := own_eqT q
    rw [own_mod h0, l0] at q'
    have d1 : S.toInt ∣ cnt.toInt := Int.dvd_of_emod_eq_zero q'
    have d2 : S.toInt ∣ lf.toInt := (Int.dvd_add_left d1).mp h3
    apply own_eq
    rw [l0]
    exact (Int.emod_eq_of_lt h1 h2).symm.trans (Int.emod_eq_zero_of_dvd d2)
theorem own_step {k : Int} (hk0 : 0 ≤ k) (hk : k ≤ 100) {W S nx nx2 : Int32} {ws ls st ws2 ls2 st2 : List Int32} (hW : 0 < W.toInt) (hS : 0 < S.toInt) (lw : ws.length = 3) (ll : ls.length = 3) (I : own_Inv k W S nx ws ls st) {p1 : Int32} (hp0 : 0 ≤ p1.toInt) (hp2 : p1.toInt ≤ 2)
    (e1 : ls2 = own_ls ls p1.toNatClampNeg S) (e2 : ws2 = own_ws ls ws p1.toNatClampNeg nx) (e3 : nx2 = own_nx ls p1.toNatClampNeg nx W) (e4 : st2 = own_sx st (0 : Int32).toNatClampNeg ((1 : Int32) + p1).toNatClampNeg ((4 : Int32) + p1).toNatClampNeg S) :
    own_Inv (k + 1) W S nx2 ws2 ls2 st2 ∧ ws2.getD p1.toNatClampNeg 0 = st2.getD ((4 : Int32) + p1).toNatClampNeg 0 % W + (1 : Int32) := by
  obtain ⟨ls7, hs0, hnx, hR⟩ := I
  have l1 : (1 : Int32).toInt = 1 := rfl
  have l4 : (4 : Int32).toInt = 4 := rfl
  have h1p : ((1 : Int32) + p1).toInt = 1 + p1.toInt := by have := c_iadd 1 p1; have := rng32 (1 + p1); omega
  have h4p : ((4 : Int32) + p1).toInt = 4 + p1.toInt := by have := c_iadd 4 p1; have := rng32 (4 + p1); omega
  have n0 : (0 : Int32).toNatClampNeg = 0 := rfl
  have np := own_cl hp0
  have n1 : ((1 : Int32) + p1).toNatClampNeg = 1 + p1.toNatClampNeg := by have := own_cl (j := 1 + p1) (by omega); omega
  have n4 : ((4 : Int32) + p1).toNatClampNeg = 4 + p1.toNatClampNeg := by have := own_cl (j := 4 + p1) (by omega); omega
  rw [n0, n1, n4] at e4
  rw [n4]
  generalize p1.toNatClampNeg = q at *
  have hq : q < 3 := by omega
  have Rq := hR q hq
  obtain ⟨⟨c0, c1⟩, ⟨f0, f1⟩, dv, cw⟩ := Rq
  have iff := own_zero hS c0 f0 f1 dv
  have rS := rng32 S
  have rW := rng32 W
  by_cases z : ls.getD q 0 = (0 : Int32)
  · have z' := iff.mp z
    rw [own_ls, if_pos z] at e1
    rw [own_ws, if_pos z] at e2
    rw [own_nx, if_pos z] at e3
    rw [own_sx, own_s1, if_pos z'] at e4
    have g1 : ∀ j, ls2.getD j 0 = if q = j then S - (1 : Int32) else ls.getD j 0 := fun j => by
      rw [e1, own_gs _ _ _ _ (by rw [List.length_set]; omega), own_gs _ _ _ _ (by omega), own_gs _ _ _ _ (by omega), if_pos rfl]
      split <;> rfl
    have g2 : ∀ j, ws2.getD j 0 = if q = j then nx + (1 : Int32) else ws.getD j 0 := fun j => by rw [e2, own_gs _ _ _ _ (by omega)]
    have a1 : ∀ j, (st.set (4 + q) (st.getD 0 0)).getD j 0 = if 4 + q = j then st.getD 0 0 else st.getD j 0 := fun j => own_gs _ _ _ _ (by omega)
    have a2 : ∀ j, ((st.set (4 + q) (st.getD 0 0)).set 0 ((st.set (4 + q) (st.getD 0 0)).getD 0 0 + (1 : Int32))).getD j 0 = if 0 = j then st.getD 0 0 + (1 : Int32) else if 4 + q = j then st.getD 0 0 else st.getD j 0 := fun j => by
      rw [own_gs _ _ _ _ (by rw [List.length_set]; omega), a1, a1, if_neg (by omega : ¬ 4 + q = 0)]
    have g4 : ∀ j, st2.getD j 0 = if 1 + q = j then st.getD (1 + q) 0 + (1 : Int32) else if 0 = j then st.getD 0 0 + (1 : Int32) else if 4 + q = j then st.getD 0 0 else st.getD j 0 := fun j => by
      rw [e4, own_gs _ _ _ _ (by simp only [List.length_set]; omega), a2, a2, if_neg (by omega : ¬ 0 = 1 + q), if_neg (by omega : ¬ 4 + q = 1 + q)]
    have ez := own_eqT z
    have l0 : (0 : Int32).toInt = 0 := rfl
    rw [l0] at ez
    have s0' : (st.getD 0 0 + (1 : Int32)).toInt = (st.getD 0 0).toInt + 1 := by have := c_iadd (st.getD 0 0) 1; have := rng32 (st.getD 0 0 + 1); omega
    have c0' : (st.getD (1 + q) 0 + (1 : Int32)).toInt = (st.getD (1 + q) 0).toInt + 1 := by have := c_iadd (st.getD (1 + q) 0) 1; have := rng32 (st.getD (1 + q) 0 + 1); omega
    have S' : (S - (1 : Int32)).toInt = S.toInt - 1 := by have := c_isub S 1; have := rng32 (S - 1); omega
    have nx0 : nx.toInt = (st.getD 0 0).toInt % W.toInt := by rw [hnx, own_mod hs0.1]
    have nx1 := Int.emod_nonneg (st.getD 0 0).toInt (by omega : W.toInt ≠ 0)
    have nx2' := Int.emod_lt_of_pos (st.getD 0 0).toInt hW
    have nxa : (nx + (1 : Int32)).toInt = nx.toInt + 1 := by have := c_iadd nx 1; have := rng32 (nx + 1); omega
    refine ⟨⟨by rw [e4]; simp only [List.length_set]; exact ls7, ?_, ?_, ?_⟩, ?_⟩
    · rw [g4, if_neg (by omega), if_pos rfl, s0']; omega
    · rw [g4, if_neg (by omega), if_pos rfl, e3]
      apply own_eq
      rw [own_mod (by omega), own_mod (by omega), nxa, s0', nx0, Int.emod_add_emod]
    · intro j hj
      by_cases qj : q = j
      · subst qj
        rw [g4, if_pos rfl, g1, if_pos rfl, g2, if_pos rfl, g4, if_neg (by omega), if_neg (by omega), if_pos rfl]
        refine ⟨⟨by omega, by omega⟩, ⟨by omega, by omega⟩, ?_, Or.inr (by rw [hnx])⟩
        rw [S', c0', show S.toInt - 1 + ((st.getD (1 + q) 0).toInt + 1) = S.toInt + (st.getD (1 + q) 0).toInt by omega]
        rw [ez, Int.zero_add] at dv
        exact Int.dvd_add (Int.dvd_refl _) dv
      · obtain ⟨⟨a0, a1⟩, a2, a3, a4⟩ := hR j hj
        rw [g4, if_neg (by omega), if_neg (by omega), if_neg (by omega), g1, if_neg qj, g2, if_neg qj, g4, if_neg (by omega), if_neg (by omega), if_neg (by omega)]
        exact ⟨⟨a0, by omega⟩, a2, a3, a4⟩
    · rw [g2, if_pos rfl, g4, if_neg (by omega), if_neg (by omega), if_pos rfl, hnx]
  · have z' : ¬ st.getD (1 + q) 0 % S = (0 : Int32) := fun y => z (iff.mpr y)
    rw [own_ls, if_neg z] at e1
    rw [own_ws, if_neg z] at e2
    rw [own_nx, if_neg z] at e3
    rw [own_sx, own_s1, if_neg z'] at e4
    have g1 : ∀ j, ls2.getD j 0 = if q = j then ls.getD q 0 - (1 : Int32) else ls.getD j 0 := fun j => by rw [e1, own_gs _ _ _ _ (by omega)]
    have g4 : ∀ j, st2.getD j 0 = if 1 + q = j then st.getD (1 + q) 0 + (1 : Int32) else st.getD j 0 := fun j => by rw [e4, own_gs _ _ _ _ (by omega)]
    have ez := own_eqF z
    have l0 : (0 : Int32).toInt = 0 := rfl
    rw [l0] at ez
    have c0' : (st.getD (1 + q) 0 + (1 : Int32)).toInt = (st.getD (1 + q) 0).toInt + 1 := by have := c_iadd (st.getD (1 + q) 0) 1; have := rng32 (st.getD (1 + q) 0 + 1); omega
    have f' : (ls.getD q 0 - (1 : Int32)).toInt = (ls.getD q 0).toInt - 1 := by have := c_isub (ls.getD q 0) 1; have := rng32 (ls.getD q 0 - 1); omega
    have cnz : ¬ (st.getD (1 + q) 0).toInt = 0 := fun y => by
      have d2 : S.toInt ∣ (ls.getD q 0).toInt := by rw [y, Int.add_zero] at dv; exact dv
      exact ez ((Int.emod_eq_of_lt f0 f1).symm.trans (Int.emod_eq_zero_of_dvd d2))
    have cw' := cw.resolve_left cnz
    subst e2 e3
    refine ⟨⟨by rw [e4]; simp only [List.length_set]; exact ls7, ?_, ?_, ?_⟩, ?_⟩
    · rw [g4, if_neg (by omega)]; omega
    · rw [g4, if_neg (by omega)]; exact hnx
    · intro j hj
      by_cases qj : q = j
      · subst qj
        rw [g4, if_pos rfl, g1, if_pos rfl, g4, if_neg (by omega)]
        refine ⟨⟨by omega, by omega⟩, ⟨by omega, by omega⟩, ?_, Or.inr cw'⟩
        rw [f', c0', show (ls.getD q 0).toInt - 1 + ((st.getD (1 + q) 0).toInt + 1) = (ls.getD q 0).toInt + (st.getD (1 + q) 0).toInt by omega]
        exact dv
      · obtain ⟨⟨a0, a1⟩, a2, a3, a4⟩ := hR j hj
        rw [g4, if_neg (by omega), g1, if_neg qj, g4, if_neg (by omega)]
        exact ⟨⟨a0, by omega⟩, a2, a3, a4⟩
    · rw [g4, if_neg (by omega)]; exact cw'
theorem own_start (W S : Int32) (hW : 0 < W.toInt) (hS : 0 < S.toInt) : own_Inv 0 W S 0 [0, 0, 0] [0, 0, 0] [0, 0, 0, 0, 0, 0, 0] := by
  have l0 : (0 : Int32).toInt = 0 := rfl
  refine ⟨rfl, ⟨by decide, by decide⟩, ?_, fun q hq => ?_⟩
  · apply own_eq
    show (0 : Int32).toInt = ((0 : Int32) % W).toInt
    rw [own_mod (by decide), l0, Int.zero_emod]
  · have : (q = 0 ∨ q = 1) ∨ q = 2 := by omega
    rcases this with (rfl | rfl) | rfl <;> exact ⟨⟨by decide, by decide⟩, ⟨by decide, by rw [show (List.getD [(0 : Int32), 0, 0] _ 0).toInt = 0 from rfl]; exact hS⟩, by rw [show (List.getD [(0 : Int32), 0, 0] _ 0).toInt = 0 from rfl]; exact Int.dvd_zero _, Or.inl rfl⟩
/-- what the law takes as workers and size -/
def own_sel (w : Int32) : Int32 := if w &&& (1073741824 : Int32) = (0 : Int32) then (1 : Int32) + (w &&& (3 : Int32)) else own_max (1 : Int32) (w &&& (2147483647 : Int32))
theorem own_sel_pos (w : Int32) : 0 < (own_sel w).toInt := by
  have l1 : (1 : Int32).toInt = 1 := rfl
  have l3 : (3 : Int32).toInt = 3 := rfl
  unfold own_sel
  split
  · have h := c_and w 3 (by decide)
    have := c_iadd 1 (w &&& 3)
    have := rng32 (1 + (w &&& 3))
    omega
  · unfold own_max
    split
    · rename_i q; have := own_ltT q; omega
    · omega
theorem ef_rm0 (m : MethodId) (x0 : Int32) (x1 : Int32) (x2 : Int32) : entryFrame m #[(.int x0), (.int x1), (.int x2)] maxLocals = mkF m 0 #[.val (.int x0), .val (.int x1), .val (.int x2), .unset, .unset, .unset, .unset, .unset, .unset] [] := by first | (simp [entryFrame, mkF, argsToLocals, Value.category, maxLocals]; done) | rfl
theorem pd_0 : parseMethodDescriptor "(III)V" = some ⟨[.int, .int, .int], none⟩ := by decide +kernel
theorem pd_1 : parseMethodDescriptor "(II)I" = some ⟨[.int, .int], some .int⟩ := by decide +kernel
theorem pd_2 : parseMethodDescriptor "(I)I" = some ⟨[.int], some .int⟩ := by decide +kernel
theorem pd_3 : parseMethodDescriptor "([IIII)I" = some ⟨[(.array .int), .int, .int, .int], some .int⟩ := by decide +kernel
set_option maxRecDepth 65536 in
set_option maxHeartbeats 40000000 in
theorem rm0 (l : Launch) (Z : State) (a0 : Array Value) (hw : ∀ d ∈ tables_1, d.before a0 Z = true) (ws : List Jvm.Cond) (x0 x1 x2 : Int32) (h0 : Heap) (n0 : Nat) (Z0 : n0 ≤ h0.size) :
    own_Met l Z x ws code maxLocals ret room_1 #[(.int x0), (.int x1), (.int x2)] h0 (fun v h L => v = some (.int 1) ∧ Fr n0 L) := by
  refine own_body (y := x) (plainFor_of_name pn_0) ?_
  intro p e s m below meth c s₁ hx hby hml hown hnm hret hlk hZ X0 e0
  have hml : c.maxLocals = 9 := hml
  have hown : s.vm.findClass "com/example/flowstate/flowstate/runtime/BlocksInTurnWorkerPinLaw" = some m.cls := hown
  have N0 := Fr.nil n0
  refine own_entry (ef_rm0 m x0 x1 x2) ?_
  show own_Dn p e below s (fun v h L => v = some (.int 1) ∧ Fr n0 L) room_1.cells room_1.slots (s₁.setTop (mkF m 0 #[.val (.int x0), .val (.int x1), .val (.int x2), .unset, .unset, .unset, .unset, .unset, .unset] []))
  refine own_st (q' := s₁.setTop (mkF m 1 #[.val (.int x0), .val (.int x1), .val (.int x2), .unset, .unset, .unset, .unset, .unset, .unset] [(.int x0)])) (fun _ k => XS.iloadN X0.here hx rfl (hb hby at_0) rfl k) ?_
  refine own_st (q' := s₁.setTop (mkF m 3 #[.val (.int x0), .val (.int x1), .val (.int x2), .unset, .unset, .unset, .unset, .unset, .unset] [(.int (1073741824 : Int32)), (.int x0)])) (fun _ k => X0.ldcInt hx hown (mvT hZ (hw _ (List.mem_of_getElem? (i := 0) rfl))) (g := (mkF m 1 #[.val (.int x0), .val (.int x1), .val (.int x2), .unset, .unset, .unset, .unset, .unset, .unset] [(.int x0)])) rfl (hb hby at_1) _ k) ?_
  refine own_st (q' := s₁.setTop (mkF m 4 #[.val (.int x0), .val (.int x1), .val (.int x2), .unset, .unset, .unset, .unset, .unset, .unset] [(.int (x0 &&& (1073741824 : Int32)))])) (fun _ k => XS.iand X0.here hx rfl (hb hby at_3) rfl k) ?_
  have jj1 : ∀ (Tj1 : State) (hj1 : Heap) (locsj1 : List Loc) (Xj1 : Stand p l e room_1 s m #[(.int x0), (.int x1), (.int x2)] below meth c Tj1 locsj1 0 0) (ej1 : Tj1.heap = hj1) (Nj1 : Fr n0 locsj1) (Zj1 : n0 ≤ hj1.size) (zW : Int32) (eqW : own_sel x0 = zW), own_Dn p e below s (fun v h L => v = some (.int 1) ∧ Fr n0 L) room_1.cells room_1.slots (Tj1.setTop (mkF m 23 #[.val (.int x0), .val (.int x1), .val (.int x2), .unset, .unset, .unset, .unset, .unset, .unset] [(.int zW)])) := by
    intro Tj1 hj1 locsj1 Xj1 ej1 Nj1 Zj1 zW eqW
    refine own_st (q' := Tj1.setTop (mkF m 24 #[.val (.int x0), .val (.int x1), .val (.int x2), .val (.int zW), .unset, .unset, .unset, .unset, .unset] [])) (fun _ k => XS.istoreN Xj1.here hx rfl (hb hby at_23) rfl (l' := #[.val (.int x0), .val (.int x1), .val (.int x2), .val (.int zW), .unset, .unset, .unset, .unset, .unset]) rfl k) ?_
    refine own_st (q' := Tj1.setTop (mkF m 25 #[.val (.int x0), .val (.int x1), .val (.int x2), .val (.int zW), .unset, .unset, .unset, .unset, .unset] [(.int x1)])) (fun _ k => XS.iloadN Xj1.here hx rfl (hb hby at_24) rfl k) ?_
    refine own_st (q' := Tj1.setTop (mkF m 27 #[.val (.int x0), .val (.int x1), .val (.int x2), .val (.int zW), .unset, .unset, .unset, .unset, .unset] [(.int (1073741824 : Int32)), (.int x1)])) (fun _ k => Xj1.ldcInt hx hown (mvT hZ (hw _ (List.mem_of_getElem? (i := 0) rfl))) (g := (mkF m 25 #[.val (.int x0), .val (.int x1), .val (.int x2), .val (.int zW), .unset, .unset, .unset, .unset, .unset] [(.int x1)])) rfl (hb hby at_25) _ k) ?_
    refine own_st (q' := Tj1.setTop (mkF m 28 #[.val (.int x0), .val (.int x1), .val (.int x2), .val (.int zW), .unset, .unset, .unset, .unset, .unset] [(.int (x1 &&& (1073741824 : Int32)))])) (fun _ k => XS.iand Xj1.here hx rfl (hb hby at_27) rfl k) ?_
    have jj2 : ∀ (Tj2 : State) (hj2 : Heap) (locsj2 : List Loc) (Xj2 : Stand p l e room_1 s m #[(.int x0), (.int x1), (.int x2)] below meth c Tj2 locsj2 0 0) (ej2 : Tj2.heap = hj2) (Nj2 : Fr n0 locsj2) (Zj2 : n0 ≤ hj2.size) (zS : Int32) (eqS : own_sel x1 = zS), own_Dn p e below s (fun v h L => v = some (.int 1) ∧ Fr n0 L) room_1.cells room_1.slots (Tj2.setTop (mkF m 47 #[.val (.int x0), .val (.int x1), .val (.int x2), .val (.int zW), .unset, .unset, .unset, .unset, .unset] [(.int zS)])) := by
      intro Tj2 hj2 locsj2 Xj2 ej2 Nj2 Zj2 zS eqS
      refine own_st (q' := Tj2.setTop (mkF m 49 #[.val (.int x0), .val (.int x1), .val (.int x2), .val (.int zW), .val (.int zS), .unset, .unset, .unset, .unset] [])) (fun _ k => XS.istore Xj2.here hx rfl (hb hby at_47) rfl (l' := #[.val (.int x0), .val (.int x1), .val (.int x2), .val (.int zW), .val (.int zS), .unset, .unset, .unset, .unset]) rfl k) ?_
      have hzW : 0 < zW.toInt := by rw [← eqW]; exact own_sel_pos x0
      have hzS : 0 < zS.toInt := by rw [← eqS]; exact own_sel_pos x1
      have hnW : zW ≠ 0 := own_ne (by have l0 : (0 : Int32).toInt = 0 := rfl; omega)
      have hnS : zS ≠ 0 := own_ne (by have l0 : (0 : Int32).toInt = 0 := rfl; omega)
      show own_Dn p e below s (fun v h L => v = some (.int 1) ∧ Fr n0 L) room_1.cells room_1.slots (Tj2.setTop (mkF m 49 #[.val (.int x0), .val (.int x1), .val (.int x2), .val (.int zW), .val (.int zS), .unset, .unset, .unset, .unset] []))
      refine own_st (q' := Tj2.setTop (mkF m 51 #[.val (.int x0), .val (.int x1), .val (.int x2), .val (.int zW), .val (.int zS), .unset, .unset, .unset, .unset] [(.int (7 : Int32))])) (fun _ k => XS.bipush Xj2.here hx rfl (hb hby at_49) k) ?_
      obtain ⟨T101, h101, k101, X101, e101, E101, A101, st101⟩ := newP Xj2 hx hZ (hw _ (List.mem_of_getElem? (i := 1) rfl)) ej2 (g := (mkF m 51 #[.val (.int x0), .val (.int x1), .val (.int x2), .val (.int zW), .val (.int zS), .unset, .unset, .unset, .unset] [(.int (7 : Int32))])) rfl (hb hby at_51) rfl (by decide) (cap := 7) (by decide) (by decide) (by decide) (by decide)
      obtain ⟨b101, g101⟩ : ∃ z, z = hj2.size := ⟨_, rfl⟩
      rw [← g101] at A101 st101
      have ge_b101 : n0 ≤ b101 := Nat.le_trans Zj2 (Nat.le_of_eq g101.symm)
      have V101 : own_IA Z h101 b101 .int ([0, 0, 0, 0, 0, 0, 0] : List Int32) := own_IA.newI A101
      refine own_st (q' := T101.setTop (mkF m 53 #[.val (.int x0), .val (.int x1), .val (.int x2), .val (.int zW), .val (.int zS), .unset, .unset, .unset, .unset] [(.ref b101)])) st101 ?_
      refine own_st (q' := T101.setTop (mkF m 55 #[.val (.int x0), .val (.int x1), .val (.int x2), .val (.int zW), .val (.int zS), .val (.ref b101), .unset, .unset, .unset] [])) (fun _ k => XS.astore X101.here hx rfl (hb hby at_53) rfl rfl (l' := #[.val (.int x0), .val (.int x1), .val (.int x2), .val (.int zW), .val (.int zS), .val (.ref b101), .unset, .unset, .unset]) rfl k) ?_
      obtain ⟨T102, h102, X102, e102, E102, A102, D102, -, st102⟩ := newO X101 hx hZ hown (hw _ (List.mem_of_getElem? (i := 2) rfl)) (hw _ (List.mem_of_getElem? (i := 3) rfl)) (hw _ (List.mem_of_getElem? (i := 4) rfl)) e101 (g := (mkF m 55 #[.val (.int x0), .val (.int x1), .val (.int x2), .val (.int zW), .val (.int zS), .val (.ref b101), .unset, .unset, .unset] [])) rfl (hb hby at_55) (by decide) (by decide)
      obtain ⟨b102, g102⟩ : ∃ z, z = h101.size := ⟨_, rfl⟩
      rw [← g102] at A102 D102 st102
      have ne_b101_b102 : b101 ≠ b102 := Nat.ne_of_lt (Nat.lt_of_lt_of_le V101.lt (Nat.le_of_eq g102.symm))
      have ge_b102 : n0 ≤ b102 := Nat.le_trans (Nat.le_trans Zj2 E101.1) (Nat.le_of_eq g102.symm)
      have F_workers_b102 : Fld Z h102 b102 "com/example/flowstate/flowstate/runtime/BlocksInTurn" "workers" "I" (.int (0 : Int32)) := D102 (Or.inr (hw _ (List.mem_of_getElem? (i := 12) rfl))) (ty := .int) (by decide)
      have F_size_b102 : Fld Z h102 b102 "com/example/flowstate/flowstate/runtime/BlocksInTurn" "size" "I" (.int (0 : Int32)) := D102 (Or.inr (hw _ (List.mem_of_getElem? (i := 14) rfl))) (ty := .int) (by decide)
      have F_workerOf_b102 : Fld Z h102 b102 "com/example/flowstate/flowstate/runtime/BlocksInTurn" "workerOf" "[I" .null := D102 (Or.inr (hw _ (List.mem_of_getElem? (i := 16) rfl))) (ty := (.array .int)) (by decide)
      have F_left_b102 : Fld Z h102 b102 "com/example/flowstate/flowstate/runtime/BlocksInTurn" "left" "[I" .null := D102 (Or.inr (hw _ (List.mem_of_getElem? (i := 18) rfl))) (ty := (.array .int)) (by decide)
      have F_next_b102 : Fld Z h102 b102 "com/example/flowstate/flowstate/runtime/BlocksInTurn" "next" "I" (.int (0 : Int32)) := D102 (Or.inl (hw _ (List.mem_of_getElem? (i := 29) rfl))) (ty := .int) (by decide)
      refine own_st (q' := T102.setTop (mkF m 58 #[.val (.int x0), .val (.int x1), .val (.int x2), .val (.int zW), .val (.int zS), .val (.ref b101), .unset, .unset, .unset] [(.ref b102)])) st102 ?_
      refine own_st (q' := T102.setTop (mkF m 59 #[.val (.int x0), .val (.int x1), .val (.int x2), .val (.int zW), .val (.int zS), .val (.ref b101), .unset, .unset, .unset] [(.ref b102), (.ref b102)])) (fun _ k => XS.dup X102.here hx rfl (hb hby at_58) rfl rfl k) ?_
      refine own_st (q' := T102.setTop (mkF m 60 #[.val (.int x0), .val (.int x1), .val (.int x2), .val (.int zW), .val (.int zS), .val (.ref b101), .unset, .unset, .unset] [(.int zW), (.ref b102), (.ref b102)])) (fun _ k => XS.iloadN X102.here hx rfl (hb hby at_59) rfl k) ?_
      refine own_st (q' := T102.setTop (mkF m 61 #[.val (.int x0), .val (.int x1), .val (.int x2), .val (.int zW), .val (.int zS), .val (.ref b101), .unset, .unset, .unset] [(.int (3 : Int32)), (.int zW), (.ref b102), (.ref b102)])) (fun _ k => XS.iconst X102.here hx rfl (hb hby at_60) k) ?_
      refine own_st (q' := T102.setTop (mkF m 63 #[.val (.int x0), .val (.int x1), .val (.int x2), .val (.int zW), .val (.int zS), .val (.ref b101), .unset, .unset, .unset] [(.int zS), (.int (3 : Int32)), (.int zW), (.ref b102), (.ref b102)])) (fun _ k => XS.iload X102.here hx rfl (hb hby at_61) rfl k) ?_
      have f103 := (V101.ext E102)
      refine own_callI (y := (⟨"com/example/flowstate/flowstate/runtime/BlocksInTurn", "<init>", "(III)V"⟩ : MethodName)) X102 hx hZ hown rfl (hw _ (List.mem_of_getElem? (i := 5) rfl)) (hw _ (List.mem_of_getElem? (i := 6) rfl)) (hw _ (List.mem_of_getElem? (i := 4) rfl)) (hw _ (List.mem_of_getElem? (i := 7) rfl)) (by decide) (rmI l Z a0 hw [] b102 zW zS h102 n0 (Nat.le_trans (Nat.le_trans Zj2 E101.1) E102.1) A102 ge_b102 F_workers_b102 F_size_b102 F_workerOf_b102 F_left_b102 F_next_b102) e102 (W := 1) (by decide) (by decide) (by decide) (by decide) (g := (mkF m 63 #[.val (.int x0), .val (.int x1), .val (.int x2), .val (.int zW), .val (.int zS), .val (.ref b101), .unset, .unset, .unset] [(.int zS), (.int (3 : Int32)), (.int zW), (.ref b102), (.ref b102)])) rfl (by rw [hml]; rfl) (a := b102) (argsL := [(.int zW), (.int (3 : Int32)), (.int zS)]) (rest := [(.ref b102)]) rfl (lenOf pd_0 rfl) rfl (by show 2 * 0 + _ ≤ _; exact Nat.le_of_eq rfl) (hb hby at_63) ?_
      intro v104 T104 L104 hQ104 X104
      obtain ⟨rfl, NN104, KK104, wo, lf, swo, slf, hB104⟩ := hQ104
      have N104 := Fr.app Nj2 NN104
      have ne_s_wo : b101 ≠ wo := Nat.ne_of_lt (Nat.lt_of_lt_of_le f103.lt swo)
      have ne_s_lf : b101 ≠ lf := Nat.ne_of_lt (Nat.lt_of_lt_of_le f103.lt slf)
      obtain ⟨o105E, o1051, o1052, o1053, o1054, o1055, o105V, o105U, ⟨o105m, o105n⟩, ⟨o105ga, o105gw, o105gl⟩, o105x, o105y, o105z⟩ := hB104
      have Iv0 := own_start zW zS hzW hzS
      show own_Dn p e below s (fun v h L => v = some (.int 1) ∧ Fr n0 L) room_1.cells room_1.slots (T104.setTop (mkF m 66 #[.val (.int x0), .val (.int x1), .val (.int x2), .val (.int zW), .val (.int zS), .val (.ref b101), .unset, .unset, .unset] [(.ref b102)]))
      refine own_st (q' := T104.setTop (mkF m 68 #[.val (.int x0), .val (.int x1), .val (.int x2), .val (.int zW), .val (.int zS), .val (.ref b101), .val (.ref b102), .unset, .unset] [])) (fun _ k => XS.astore X104.here hx rfl (hb hby at_66) rfl rfl (l' := #[.val (.int x0), .val (.int x1), .val (.int x2), .val (.int zW), .val (.int zS), .val (.ref b101), .val (.ref b102), .unset, .unset]) rfl k) ?_
      refine own_st (q' := T104.setTop (mkF m 69 #[.val (.int x0), .val (.int x1), .val (.int x2), .val (.int zW), .val (.int zS), .val (.ref b101), .val (.ref b102), .unset, .unset] [(.int (1 : Int32))])) (fun _ k => XS.iconst X104.here hx rfl (hb hby at_68) k) ?_
      refine own_st (q' := T104.setTop (mkF m 71 #[.val (.int x0), .val (.int x1), .val (.int x2), .val (.int zW), .val (.int zS), .val (.ref b101), .val (.ref b102), .val (.int (1 : Int32)), .unset] [])) (fun _ k => XS.istore X104.here hx rfl (hb hby at_69) rfl (l' := #[.val (.int x0), .val (.int x1), .val (.int x2), .val (.int zW), .val (.int zS), .val (.ref b101), .val (.ref b102), .val (.int (1 : Int32)), .unset]) rfl k) ?_
      refine own_st (q' := T104.setTop (mkF m 72 #[.val (.int x0), .val (.int x1), .val (.int x2), .val (.int zW), .val (.int zS), .val (.ref b101), .val (.ref b102), .val (.int (1 : Int32)), .unset] [(.int x2)])) (fun _ k => XS.iloadN X104.here hx rfl (hb hby at_71) rfl k) ?_
      refine own_st (q' := T104.setTop (mkF m 73 #[.val (.int x0), .val (.int x1), .val (.int x2), .val (.int zW), .val (.int zS), .val (.ref b101), .val (.ref b102), .val (.int (1 : Int32)), .unset] [(.int (0 : Int32)), (.int x2)])) (fun _ k => XS.iconst X104.here hx rfl (hb hby at_72) k) ?_
      refine own_callS (y := (⟨"com/example/flowstate/flowstate/runtime/BlocksInTurnWorkerPinLaw", "part", "(II)I"⟩ : MethodName)) X104 hx hZ hown (hw _ (List.mem_of_getElem? (i := 19) rfl)) (hw _ (List.mem_of_getElem? (i := 20) rfl)) (hw _ (List.mem_of_getElem? (i := 21) rfl)) (hw _ (List.mem_of_getElem? (i := 22) rfl)) (by decide) (rmP l Z a0 hw [] x2 (0 : Int32) T104.heap n0 (Nat.le_trans (Nat.le_trans (Nat.le_trans Zj2 E101.1) E102.1) KK104.1)) (rfl : T104.heap = T104.heap) (W := 0) (by decide) (by decide) (by decide) (by decide) (g := (mkF m 73 #[.val (.int x0), .val (.int x1), .val (.int x2), .val (.int zW), .val (.int zS), .val (.ref b101), .val (.ref b102), .val (.int (1 : Int32)), .unset] [(.int (0 : Int32)), (.int x2)])) rfl (by rw [hml]; rfl) (argsL := [(.int x2), (.int (0 : Int32))]) (rest := []) rfl (lenOf pd_1 rfl) rfl (by show 2 * 0 + _ ≤ _; exact Nat.le_of_eq rfl) (hb hby at_73) ?_
      intro v106 T106 L106 hQ106 X106
      obtain ⟨rfl, NN106, e106⟩ := hQ106
      have N106 := Fr.app N104 NN106
      have rp106 := own_part_r x2 (0 : Int32)
      generalize own_part x2 (0 : Int32) = p106 at rp106 ⊢
      show own_Dn p e below s (fun v h L => v = some (.int 1) ∧ Fr n0 L) room_1.cells room_1.slots (T106.setTop (mkF m 76 #[.val (.int x0), .val (.int x1), .val (.int x2), .val (.int zW), .val (.int zS), .val (.ref b101), .val (.ref b102), .val (.int (1 : Int32)), .unset] [(.int p106)]))
      refine own_st (q' := T106.setTop (mkF m 78 #[.val (.int x0), .val (.int x1), .val (.int x2), .val (.int zW), .val (.int zS), .val (.ref b101), .val (.ref b102), .val (.int (1 : Int32)), .val (.int p106)] [])) (fun _ k => XS.istore X106.here hx rfl (hb hby at_76) rfl (l' := #[.val (.int x0), .val (.int x1), .val (.int x2), .val (.int zW), .val (.int zS), .val (.ref b101), .val (.ref b102), .val (.int (1 : Int32)), .val (.int p106)]) rfl k) ?_
      refine own_st (q' := T106.setTop (mkF m 80 #[.val (.int x0), .val (.int x1), .val (.int x2), .val (.int zW), .val (.int zS), .val (.ref b101), .val (.ref b102), .val (.int (1 : Int32)), .val (.int p106)] [(.int (1 : Int32))])) (fun _ k => XS.iload X106.here hx rfl (hb hby at_78) rfl k) ?_
      refine own_st (q' := T106.setTop (mkF m 82 #[.val (.int x0), .val (.int x1), .val (.int x2), .val (.int zW), .val (.int zS), .val (.ref b101), .val (.ref b102), .val (.int (1 : Int32)), .val (.int p106)] [(.ref b102), (.int (1 : Int32))])) (fun _ k => XS.aload X106.here hx rfl (hb hby at_80) rfl rfl k) ?_
      refine own_st (q' := T106.setTop (mkF m 84 #[.val (.int x0), .val (.int x1), .val (.int x2), .val (.int zW), .val (.int zS), .val (.ref b101), .val (.ref b102), .val (.int (1 : Int32)), .val (.int p106)] [(.int p106), (.ref b102), (.int (1 : Int32))])) (fun _ k => XS.iload X106.here hx rfl (hb hby at_82) rfl k) ?_
      refine own_callV (y := (⟨"com/example/flowstate/flowstate/runtime/BlocksInTurn", "worker", "(I)I"⟩ : MethodName)) X106 hx hZ hown (hw _ (List.mem_of_getElem? (i := 23) rfl)) (hw _ (List.mem_of_getElem? (i := 24) rfl)) (hw _ (List.mem_of_getElem? (i := 26) rfl)) (hw _ (List.mem_of_getElem? (i := 25) rfl)) (hw _ (List.mem_of_getElem? (i := 4) rfl)) (hw _ (List.mem_of_getElem? (i := 27) rfl)) (by decide) (rmW l Z a0 hw [] b102 wo lf zW zS (0 : Int32) p106 ([0, 0, 0] : List Int32) ([0, 0, 0] : List Int32) T104.heap n0 (Nat.le_trans (Nat.le_trans (Nat.le_trans Zj2 E101.1) E102.1) KK104.1) ⟨o105E, o1051, o1052, o1053, o1054, o1055, o105V, o105U, ⟨(by simp [o105m]), (by simp [o105n])⟩, ⟨o105ga, o105gw, o105gl⟩, o105x, o105y, o105z⟩ hnW rp106.1 rp106.2) e106 o105E (W := 1) (by decide) (by decide) (by decide) (by decide) (g := (mkF m 84 #[.val (.int x0), .val (.int x1), .val (.int x2), .val (.int zW), .val (.int zS), .val (.ref b101), .val (.ref b102), .val (.int (1 : Int32)), .val (.int p106)] [(.int p106), (.ref b102), (.int (1 : Int32))])) rfl (by rw [hml]; rfl) (argsL := [(.int p106)]) (rest := [(.int (1 : Int32))]) rfl (lenOf pd_2 rfl) rfl (by show 2 * 0 + _ ≤ _; exact Nat.le_of_eq rfl) (hb hby at_84) ?_
      intro v107 T107 L107 hQ107 X107
      obtain ⟨ws107, ls107, nx107, rfl, NN107, KK107, hB107, el107, ew107, en107⟩ := hQ107
      have N107 := Fr.app N106 NN107
      obtain ⟨o108E, o1081, o1082, o1083, o1084, o1085, o108V, o108U, ⟨o108m, o108n⟩, ⟨o108ga, o108gw, o108gl⟩, o108x, o108y, o108z⟩ := hB107
      show own_Dn p e below s (fun v h L => v = some (.int 1) ∧ Fr n0 L) room_1.cells room_1.slots (T107.setTop (mkF m 87 #[.val (.int x0), .val (.int x1), .val (.int x2), .val (.int zW), .val (.int zS), .val (.ref b101), .val (.ref b102), .val (.int (1 : Int32)), .val (.int p106)] [(.int (ws107.getD p106.toNatClampNeg 0)), (.int (1 : Int32))]))
      refine own_st (q' := T107.setTop (mkF m 89 #[.val (.int x0), .val (.int x1), .val (.int x2), .val (.int zW), .val (.int zS), .val (.ref b101), .val (.ref b102), .val (.int (1 : Int32)), .val (.int p106)] [(.ref b101), (.int (ws107.getD p106.toNatClampNeg 0)), (.int (1 : Int32))])) (fun _ k => XS.aload X107.here hx rfl (hb hby at_87) rfl rfl k) ?_
      refine own_st (q' := T107.setTop (mkF m 91 #[.val (.int x0), .val (.int x1), .val (.int x2), .val (.int zW), .val (.int zS), .val (.ref b101), .val (.ref b102), .val (.int (1 : Int32)), .val (.int p106)] [(.int p106), (.ref b101), (.int (ws107.getD p106.toNatClampNeg 0)), (.int (1 : Int32))])) (fun _ k => XS.iload X107.here hx rfl (hb hby at_89) rfl k) ?_
      refine own_st (q' := T107.setTop (mkF m 93 #[.val (.int x0), .val (.int x1), .val (.int x2), .val (.int zW), .val (.int zS), .val (.ref b101), .val (.ref b102), .val (.int (1 : Int32)), .val (.int p106)] [(.int zS), (.int p106), (.ref b101), (.int (ws107.getD p106.toNatClampNeg 0)), (.int (1 : Int32))])) (fun _ k => XS.iload X107.here hx rfl (hb hby at_91) rfl k) ?_
      refine own_st (q' := T107.setTop (mkF m 94 #[.val (.int x0), .val (.int x1), .val (.int x2), .val (.int zW), .val (.int zS), .val (.ref b101), .val (.ref b102), .val (.int (1 : Int32)), .val (.int p106)] [(.int zW), (.int zS), (.int p106), (.ref b101), (.int (ws107.getD p106.toNatClampNeg 0)), (.int (1 : Int32))])) (fun _ k => XS.iloadN X107.here hx rfl (hb hby at_93) rfl k) ?_
      have f109 := ((f103.keep KK104 (ninS ne_b101_b102 nin0)).keep KK107 (ninS ne_b101_b102 (ninS ne_s_wo (ninS ne_s_lf nin0))))
      refine own_callS (y := (⟨"com/example/flowstate/flowstate/runtime/BlocksInTurnWorkerPinLaw", "expected", "([IIII)I"⟩ : MethodName)) X107 hx hZ hown (hw _ (List.mem_of_getElem? (i := 30) rfl)) (hw _ (List.mem_of_getElem? (i := 31) rfl)) (hw _ (List.mem_of_getElem? (i := 21) rfl)) (hw _ (List.mem_of_getElem? (i := 32) rfl)) (by decide) (rmX l Z a0 hw [] b101 p106 zS zW ([0, 0, 0, 0, 0, 0, 0] : List Int32) T107.heap n0 (Nat.le_trans (Nat.le_trans (Nat.le_trans (Nat.le_trans Zj2 E101.1) E102.1) KK104.1) KK107.1) f109 (rfl : ([0, 0, 0, 0, 0, 0, 0] : List Int32).length = 7) ge_b101 hnS hnW rp106.1 rp106.2) (rfl : T107.heap = T107.heap) (W := 2) (by decide) (by decide) (by decide) (by decide) (g := (mkF m 94 #[.val (.int x0), .val (.int x1), .val (.int x2), .val (.int zW), .val (.int zS), .val (.ref b101), .val (.ref b102), .val (.int (1 : Int32)), .val (.int p106)] [(.int zW), (.int zS), (.int p106), (.ref b101), (.int (ws107.getD p106.toNatClampNeg 0)), (.int (1 : Int32))])) rfl (by rw [hml]; rfl) (argsL := [(.ref b101), (.int p106), (.int zS), (.int zW)]) (rest := [(.int (ws107.getD p106.toNatClampNeg 0)), (.int (1 : Int32))]) rfl (lenOf pd_3 rfl) rfl (by show 2 * 0 + _ ≤ _; exact Nat.le_of_eq rfl) (hb hby at_94) ?_
      intro v110 T110 L110 hQ110 X110
      obtain ⟨st110, rfl, NN110, KK110, V110, sl110, es110⟩ := hQ110
      have N110 := Fr.app N107 NN110
      obtain ⟨Iv1, eq110⟩ := own_step (k := 0) (by decide) (by decide) hzW hzS o105m o105n Iv0 rp106.1 rp106.2 el107 ew107 en107 es110
      show own_Dn p e below s (fun v h L => v = some (.int 1) ∧ Fr n0 L) room_1.cells room_1.slots (T110.setTop (mkF m 97 #[.val (.int x0), .val (.int x1), .val (.int x2), .val (.int zW), .val (.int zS), .val (.ref b101), .val (.ref b102), .val (.int (1 : Int32)), .val (.int p106)] [(.int (st110.getD ((4 : Int32) + p106).toNatClampNeg 0 % zW + (1 : Int32))), (.int (ws107.getD p106.toNatClampNeg 0)), (.int (1 : Int32))]))
      refine own_st (q' := T110.setTop (mkF m 100 #[.val (.int x0), .val (.int x1), .val (.int x2), .val (.int zW), .val (.int zS), .val (.ref b101), .val (.ref b102), .val (.int (1 : Int32)), .val (.int p106)] [(.int (1 : Int32))])) (fun _ k => XS.icmpNo X110.here hx rfl (hb hby at_97) rfl (teq eq110).2 k) ?_
      refine own_st (q' := T110.setTop (mkF m 101 #[.val (.int x0), .val (.int x1), .val (.int x2), .val (.int zW), .val (.int zS), .val (.ref b101), .val (.ref b102), .val (.int (1 : Int32)), .val (.int p106)] [(.int (1 : Int32)), (.int (1 : Int32))])) (fun _ k => XS.iconst X110.here hx rfl (hb hby at_100) k) ?_
      refine own_st (q' := T110.setTop (mkF m 105 #[.val (.int x0), .val (.int x1), .val (.int x2), .val (.int zW), .val (.int zS), .val (.ref b101), .val (.ref b102), .val (.int (1 : Int32)), .val (.int p106)] [(.int (1 : Int32)), (.int (1 : Int32))])) (fun _ k => XS.goto X110.here hx rfl (pc0 := 101) (pc' := 105) rfl (hb hby at_101) (by decide) (by decide) k) ?_
      refine own_st (q' := T110.setTop (mkF m 106 #[.val (.int x0), .val (.int x1), .val (.int x2), .val (.int zW), .val (.int zS), .val (.ref b101), .val (.ref b102), .val (.int (1 : Int32)), .val (.int p106)] [(.int (1 : Int32))])) (fun _ k => XS.iand X110.here hx rfl (hb hby at_105) rfl k) ?_
      refine own_st (q' := T110.setTop (mkF m 108 #[.val (.int x0), .val (.int x1), .val (.int x2), .val (.int zW), .val (.int zS), .val (.ref b101), .val (.ref b102), .val (.int (1 : Int32)), .val (.int p106)] [])) (fun _ k => XS.istore X110.here hx rfl (hb hby at_106) rfl (l' := #[.val (.int x0), .val (.int x1), .val (.int x2), .val (.int zW), .val (.int zS), .val (.ref b101), .val (.ref b102), .val (.int (1 : Int32)), .val (.int p106)]) rfl k) ?_
      refine own_st (q' := T110.setTop (mkF m 109 #[.val (.int x0), .val (.int x1), .val (.int x2), .val (.int zW), .val (.int zS), .val (.ref b101), .val (.ref b102), .val (.int (1 : Int32)), .val (.int p106)] [(.int x2)])) (fun _ k => XS.iloadN X110.here hx rfl (hb hby at_108) rfl k) ?_
      refine own_st (q' := T110.setTop (mkF m 110 #[.val (.int x0), .val (.int x1), .val (.int x2), .val (.int zW), .val (.int zS), .val (.ref b101), .val (.ref b102), .val (.int (1 : Int32)), .val (.int p106)] [(.int (1 : Int32)), (.int x2)])) (fun _ k => XS.iconst X110.here hx rfl (hb hby at_109) k) ?_
      refine own_callS (y := (⟨"com/example/flowstate/flowstate/runtime/BlocksInTurnWorkerPinLaw", "part", "(II)I"⟩ : MethodName)) X110 hx hZ hown (hw _ (List.mem_of_getElem? (i := 19) rfl)) (hw _ (List.mem_of_getElem? (i := 20) rfl)) (hw _ (List.mem_of_getElem? (i := 21) rfl)) (hw _ (List.mem_of_getElem? (i := 22) rfl)) (by decide) (rmP l Z a0 hw [] x2 (1 : Int32) T110.heap n0 (Nat.le_trans (Nat.le_trans (Nat.le_trans (Nat.le_trans (Nat.le_trans Zj2 E101.1) E102.1) KK104.1) KK107.1) KK110.1)) (rfl : T110.heap = T110.heap) (W := 0) (by decide) (by decide) (by decide) (by decide) (g := (mkF m 110 #[.val (.int x0), .val (.int x1), .val (.int x2), .val (.int zW), .val (.int zS), .val (.ref b101), .val (.ref b102), .val (.int (1 : Int32)), .val (.int p106)] [(.int (1 : Int32)), (.int x2)])) rfl (by rw [hml]; rfl) (argsL := [(.int x2), (.int (1 : Int32))]) (rest := []) rfl (lenOf pd_1 rfl) rfl (by show 2 * 0 + _ ≤ _; exact Nat.le_of_eq rfl) (hb hby at_110) ?_
      intro v111 T111 L111 hQ111 X111
      obtain ⟨rfl, NN111, e111⟩ := hQ111
      have N111 := Fr.app N110 NN111
      have rp111 := own_part_r x2 (1 : Int32)
      generalize own_part x2 (1 : Int32) = p111 at rp111 ⊢
      show own_Dn p e below s (fun v h L => v = some (.int 1) ∧ Fr n0 L) room_1.cells room_1.slots (T111.setTop (mkF m 113 #[.val (.int x0), .val (.int x1), .val (.int x2), .val (.int zW), .val (.int zS), .val (.ref b101), .val (.ref b102), .val (.int (1 : Int32)), .val (.int p106)] [(.int p111)]))
      refine own_st (q' := T111.setTop (mkF m 115 #[.val (.int x0), .val (.int x1), .val (.int x2), .val (.int zW), .val (.int zS), .val (.ref b101), .val (.ref b102), .val (.int (1 : Int32)), .val (.int p111)] [])) (fun _ k => XS.istore X111.here hx rfl (hb hby at_113) rfl (l' := #[.val (.int x0), .val (.int x1), .val (.int x2), .val (.int zW), .val (.int zS), .val (.ref b101), .val (.ref b102), .val (.int (1 : Int32)), .val (.int p111)]) rfl k) ?_
      refine own_st (q' := T111.setTop (mkF m 117 #[.val (.int x0), .val (.int x1), .val (.int x2), .val (.int zW), .val (.int zS), .val (.ref b101), .val (.ref b102), .val (.int (1 : Int32)), .val (.int p111)] [(.int (1 : Int32))])) (fun _ k => XS.iload X111.here hx rfl (hb hby at_115) rfl k) ?_
      refine own_st (q' := T111.setTop (mkF m 119 #[.val (.int x0), .val (.int x1), .val (.int x2), .val (.int zW), .val (.int zS), .val (.ref b101), .val (.ref b102), .val (.int (1 : Int32)), .val (.int p111)] [(.ref b102), (.int (1 : Int32))])) (fun _ k => XS.aload X111.here hx rfl (hb hby at_117) rfl rfl k) ?_
      refine own_st (q' := T111.setTop (mkF m 121 #[.val (.int x0), .val (.int x1), .val (.int x2), .val (.int zW), .val (.int zS), .val (.ref b101), .val (.ref b102), .val (.int (1 : Int32)), .val (.int p111)] [(.int p111), (.ref b102), (.int (1 : Int32))])) (fun _ k => XS.iload X111.here hx rfl (hb hby at_119) rfl k) ?_
      have f112 := (o108E.keep KK110)
      have f113 := (o1081.keep KK110 (ninS (Ne.symm ne_b101_b102) nin0))
      have f114 := (o1082.keep KK110 (ninS (Ne.symm ne_b101_b102) nin0))
      have f115 := (o1083.keep KK110 (ninS (Ne.symm ne_b101_b102) nin0))
      have f116 := (o1084.keep KK110 (ninS (Ne.symm ne_b101_b102) nin0))
      have f117 := (o1085.keep KK110 (ninS (Ne.symm ne_b101_b102) nin0))
      have f118 := (o108V.keep KK110 (ninS (Ne.symm ne_s_wo) nin0))
      have f119 := (o108U.keep KK110 (ninS (Ne.symm ne_s_lf) nin0))
      refine own_callV (y := (⟨"com/example/flowstate/flowstate/runtime/BlocksInTurn", "worker", "(I)I"⟩ : MethodName)) X111 hx hZ hown (hw _ (List.mem_of_getElem? (i := 23) rfl)) (hw _ (List.mem_of_getElem? (i := 24) rfl)) (hw _ (List.mem_of_getElem? (i := 26) rfl)) (hw _ (List.mem_of_getElem? (i := 25) rfl)) (hw _ (List.mem_of_getElem? (i := 4) rfl)) (hw _ (List.mem_of_getElem? (i := 27) rfl)) (by decide) (rmW l Z a0 hw [] b102 wo lf zW zS nx107 p111 ws107 ls107 T110.heap n0 (Nat.le_trans (Nat.le_trans (Nat.le_trans (Nat.le_trans (Nat.le_trans Zj2 E101.1) E102.1) KK104.1) KK107.1) KK110.1) ⟨f112, f113, f114, f115, f116, f117, f118, f119, ⟨(by simp [o108m]), (by simp [o108n])⟩, ⟨o108ga, o108gw, o108gl⟩, o108x, o108y, o108z⟩ hnW rp111.1 rp111.2) e111 f112 (W := 1) (by decide) (by decide) (by decide) (by decide) (g := (mkF m 121 #[.val (.int x0), .val (.int x1), .val (.int x2), .val (.int zW), .val (.int zS), .val (.ref b101), .val (.ref b102), .val (.int (1 : Int32)), .val (.int p111)] [(.int p111), (.ref b102), (.int (1 : Int32))])) rfl (by rw [hml]; rfl) (argsL := [(.int p111)]) (rest := [(.int (1 : Int32))]) rfl (lenOf pd_2 rfl) rfl (by show 2 * 0 + _ ≤ _; exact Nat.le_of_eq rfl) (hb hby at_121) ?_
      intro v120 T120 L120 hQ120 X120
      obtain ⟨ws120, ls120, nx120, rfl, NN120, KK120, hB120, el120, ew120, en120⟩ := hQ120
      have N120 := Fr.app N111 NN120
      obtain ⟨o121E, o1211, o1212, o1213, o1214, o1215, o121V, o121U, ⟨o121m, o121n⟩, ⟨o121ga, o121gw, o121gl⟩, o121x, o121y, o121z⟩ := hB120
      show own_Dn p e below s (fun v h L => v = some (.int 1) ∧ Fr n0 L) room_1.cells room_1.slots (T120.setTop (mkF m 124 #[.val (.int x0), .val (.int x1), .val (.int x2), .val (.int zW), .val (.int zS), .val (.ref b101), .val (.ref b102), .val (.int (1 : Int32)), .val (.int p111)] [(.int (ws120.getD p111.toNatClampNeg 0)), (.int (1 : Int32))]))
      refine own_st (q' := T120.setTop (mkF m 126 #[.val (.int x0), .val (.int x1), .val (.int x2), .val (.int zW), .val (.int zS), .val (.ref b101), .val (.ref b102), .val (.int (1 : Int32)), .val (.int p111)] [(.ref b101), (.int (ws120.getD p111.toNatClampNeg 0)), (.int (1 : Int32))])) (fun _ k => XS.aload X120.here hx rfl (hb hby at_124) rfl rfl k) ?_
      refine own_st (q' := T120.setTop (mkF m 128 #[.val (.int x0), .val (.int x1), .val (.int x2), .val (.int zW), .val (.int zS), .val (.ref b101), .val (.ref b102), .val (.int (1 : Int32)), .val (.int p111)] [(.int p111), (.ref b101), (.int (ws120.getD p111.toNatClampNeg 0)), (.int (1 : Int32))])) (fun _ k => XS.iload X120.here hx rfl (hb hby at_126) rfl k) ?_
      refine own_st (q' := T120.setTop (mkF m 130 #[.val (.int x0), .val (.int x1), .val (.int x2), .val (.int zW), .val (.int zS), .val (.ref b101), .val (.ref b102), .val (.int (1 : Int32)), .val (.int p111)] [(.int zS), (.int p111), (.ref b101), (.int (ws120.getD p111.toNatClampNeg 0)), (.int (1 : Int32))])) (fun _ k => XS.iload X120.here hx rfl (hb hby at_128) rfl k) ?_
      refine own_st (q' := T120.setTop (mkF m 131 #[.val (.int x0), .val (.int x1), .val (.int x2), .val (.int zW), .val (.int zS), .val (.ref b101), .val (.ref b102), .val (.int (1 : Int32)), .val (.int p111)] [(.int zW), (.int zS), (.int p111), (.ref b101), (.int (ws120.getD p111.toNatClampNeg 0)), (.int (1 : Int32))])) (fun _ k => XS.iloadN X120.here hx rfl (hb hby at_130) rfl k) ?_
      have f122 := (V110.keep KK120 (ninS ne_b101_b102 (ninS ne_s_wo (ninS ne_s_lf nin0))))
      refine own_callS (y := (⟨"com/example/flowstate/flowstate/runtime/BlocksInTurnWorkerPinLaw", "expected", "([IIII)I"⟩ : MethodName)) X120 hx hZ hown (hw _ (List.mem_of_getElem? (i := 30) rfl)) (hw _ (List.mem_of_getElem? (i := 31) rfl)) (hw _ (List.mem_of_getElem? (i := 21) rfl)) (hw _ (List.mem_of_getElem? (i := 32) rfl)) (by decide) (rmX l Z a0 hw [] b101 p111 zS zW st110 T120.heap n0 (Nat.le_trans (Nat.le_trans (Nat.le_trans (Nat.le_trans (Nat.le_trans (Nat.le_trans Zj2 E101.1) E102.1) KK104.1) KK107.1) KK110.1) KK120.1) f122 sl110 ge_b101 hnS hnW rp111.1 rp111.2) (rfl : T120.heap = T120.heap) (W := 2) (by decide) (by decide) (by decide) (by decide) (g := (mkF m 131 #[.val (.int x0), .val (.int x1), .val (.int x2), .val (.int zW), .val (.int zS), .val (.ref b101), .val (.ref b102), .val (.int (1 : Int32)), .val (.int p111)] [(.int zW), (.int zS), (.int p111), (.ref b101), (.int (ws120.getD p111.toNatClampNeg 0)), (.int (1 : Int32))])) rfl (by rw [hml]; rfl) (argsL := [(.ref b101), (.int p111), (.int zS), (.int zW)]) (rest := [(.int (ws120.getD p111.toNatClampNeg 0)), (.int (1 : Int32))]) rfl (lenOf pd_3 rfl) rfl (by show 2 * 0 + _ ≤ _; exact Nat.le_of_eq rfl) (hb hby at_131) ?_
      intro v123 T123 L123 hQ123 X123
      obtain ⟨st123, rfl, NN123, KK123, V123, sl123, es123⟩ := hQ123
      have N123 := Fr.app N120 NN123
      obtain ⟨Iv2, eq123⟩ := own_step (k := 1) (by decide) (by decide) hzW hzS o108m o108n Iv1 rp111.1 rp111.2 el120 ew120 en120 es123
      show own_Dn p e below s (fun v h L => v = some (.int 1) ∧ Fr n0 L) room_1.cells room_1.slots (T123.setTop (mkF m 134 #[.val (.int x0), .val (.int x1), .val (.int x2), .val (.int zW), .val (.int zS), .val (.ref b101), .val (.ref b102), .val (.int (1 : Int32)), .val (.int p111)] [(.int (st123.getD ((4 : Int32) + p111).toNatClampNeg 0 % zW + (1 : Int32))), (.int (ws120.getD p111.toNatClampNeg 0)), (.int (1 : Int32))]))
      refine own_st (q' := T123.setTop (mkF m 137 #[.val (.int x0), .val (.int x1), .val (.int x2), .val (.int zW), .val (.int zS), .val (.ref b101), .val (.ref b102), .val (.int (1 : Int32)), .val (.int p111)] [(.int (1 : Int32))])) (fun _ k => XS.icmpNo X123.here hx rfl (hb hby at_134) rfl (teq eq123).2 k) ?_
      refine own_st (q' := T123.setTop (mkF m 138 #[.val (.int x0), .val (.int x1), .val (.int x2), .val (.int zW), .val (.int zS), .val (.ref b101), .val (.ref b102), .val (.int (1 : Int32)), .val (.int p111)] [(.int (1 : Int32)), (.int (1 : Int32))])) (fun _ k => XS.iconst X123.here hx rfl (hb hby at_137) k) ?_
      refine own_st (q' := T123.setTop (mkF m 142 #[.val (.int x0), .val (.int x1), .val (.int x2), .val (.int zW), .val (.int zS), .val (.ref b101), .val (.ref b102), .val (.int (1 : Int32)), .val (.int p111)] [(.int (1 : Int32)), (.int (1 : Int32))])) (fun _ k => XS.goto X123.here hx rfl (pc0 := 138) (pc' := 142) rfl (hb hby at_138) (by decide) (by decide) k) ?_
      refine own_st (q' := T123.setTop (mkF m 143 #[.val (.int x0), .val (.int x1), .val (.int x2), .val (.int zW), .val (.int zS), .val (.ref b101), .val (.ref b102), .val (.int (1 : Int32)), .val (.int p111)] [(.int (1 : Int32))])) (fun _ k => XS.iand X123.here hx rfl (hb hby at_142) rfl k) ?_
      refine own_st (q' := T123.setTop (mkF m 145 #[.val (.int x0), .val (.int x1), .val (.int x2), .val (.int zW), .val (.int zS), .val (.ref b101), .val (.ref b102), .val (.int (1 : Int32)), .val (.int p111)] [])) (fun _ k => XS.istore X123.here hx rfl (hb hby at_143) rfl (l' := #[.val (.int x0), .val (.int x1), .val (.int x2), .val (.int zW), .val (.int zS), .val (.ref b101), .val (.ref b102), .val (.int (1 : Int32)), .val (.int p111)]) rfl k) ?_
      refine own_st (q' := T123.setTop (mkF m 146 #[.val (.int x0), .val (.int x1), .val (.int x2), .val (.int zW), .val (.int zS), .val (.ref b101), .val (.ref b102), .val (.int (1 : Int32)), .val (.int p111)] [(.int x2)])) (fun _ k => XS.iloadN X123.here hx rfl (hb hby at_145) rfl k) ?_
      refine own_st (q' := T123.setTop (mkF m 147 #[.val (.int x0), .val (.int x1), .val (.int x2), .val (.int zW), .val (.int zS), .val (.ref b101), .val (.ref b102), .val (.int (1 : Int32)), .val (.int p111)] [(.int (2 : Int32)), (.int x2)])) (fun _ k => XS.iconst X123.here hx rfl (hb hby at_146) k) ?_
      refine own_callS (y := (⟨"com/example/flowstate/flowstate/runtime/BlocksInTurnWorkerPinLaw", "part", "(II)I"⟩ : MethodName)) X123 hx hZ hown (hw _ (List.mem_of_getElem? (i := 19) rfl)) (hw _ (List.mem_of_getElem? (i := 20) rfl)) (hw _ (List.mem_of_getElem? (i := 21) rfl)) (hw _ (List.mem_of_getElem? (i := 22) rfl)) (by decide) (rmP l Z a0 hw [] x2 (2 : Int32) T123.heap n0 (Nat.le_trans (Nat.le_trans (Nat.le_trans (Nat.le_trans (Nat.le_trans (Nat.le_trans (Nat.le_trans Zj2 E101.1) E102.1) KK104.1) KK107.1) KK110.1) KK120.1) KK123.1)) (rfl : T123.heap = T123.heap) (W := 0) (by decide) (by decide) (by decide) (by decide) (g := (mkF m 147 #[.val (.int x0), .val (.int x1), .val (.int x2), .val (.int zW), .val (.int zS), .val (.ref b101), .val (.ref b102), .val (.int (1 : Int32)), .val (.int p111)] [(.int (2 : Int32)), (.int x2)])) rfl (by rw [hml]; rfl) (argsL := [(.int x2), (.int (2 : Int32))]) (rest := []) rfl (lenOf pd_1 rfl) rfl (by show 2 * 0 + _ ≤ _; exact Nat.le_of_eq rfl) (hb hby at_147) ?_
      intro v124 T124 L124 hQ124 X124
      obtain ⟨rfl, NN124, e124⟩ := hQ124
      have N124 := Fr.app N123 NN124
      have rp124 := own_part_r x2 (2 : Int32)
      generalize own_part x2 (2 : Int32) = p124 at rp124 ⊢
      show own_Dn p e below s (fun v h L => v = some (.int 1) ∧ Fr n0 L) room_1.cells room_1.slots (T124.setTop (mkF m 150 #[.val (.int x0), .val (.int x1), .val (.int x2), .val (.int zW), .val (.int zS), .val (.ref b101), .val (.ref b102), .val (.int (1 : Int32)), .val (.int p111)] [(.int p124)]))
      refine own_st (q' := T124.setTop (mkF m 152 #[.val (.int x0), .val (.int x1), .val (.int x2), .val (.int zW), .val (.int zS), .val (.ref b101), .val (.ref b102), .val (.int (1 : Int32)), .val (.int p124)] [])) (fun _ k => XS.istore X124.here hx rfl (hb hby at_150) rfl (l' := #[.val (.int x0), .val (.int x1), .val (.int x2), .val (.int zW), .val (.int zS), .val (.ref b101), .val (.ref b102), .val (.int (1 : Int32)), .val (.int p124)]) rfl k) ?_
      refine own_st (q' := T124.setTop (mkF m 154 #[.val (.int x0), .val (.int x1), .val (.int x2), .val (.int zW), .val (.int zS), .val (.ref b101), .val (.ref b102), .val (.int (1 : Int32)), .val (.int p124)] [(.int (1 : Int32))])) (fun _ k => XS.iload X124.here hx rfl (hb hby at_152) rfl k) ?_
      refine own_st (q' := T124.setTop (mkF m 156 #[.val (.int x0), .val (.int x1), .val (.int x2), .val (.int zW), .val (.int zS), .val (.ref b101), .val (.ref b102), .val (.int (1 : Int32)), .val (.int p124)] [(.ref b102), (.int (1 : Int32))])) (fun _ k => XS.aload X124.here hx rfl (hb hby at_154) rfl rfl k) ?_
      refine own_st (q' := T124.setTop (mkF m 158 #[.val (.int x0), .val (.int x1), .val (.int x2), .val (.int zW), .val (.int zS), .val (.ref b101), .val (.ref b102), .val (.int (1 : Int32)), .val (.int p124)] [(.int p124), (.ref b102), (.int (1 : Int32))])) (fun _ k => XS.iload X124.here hx rfl (hb hby at_156) rfl k) ?_
      have f125 := (o121E.keep KK123)
      have f126 := (o1211.keep KK123 (ninS (Ne.symm ne_b101_b102) nin0))
      have f127 := (o1212.keep KK123 (ninS (Ne.symm ne_b101_b102) nin0))
      have f128 := (o1213.keep KK123 (ninS (Ne.symm ne_b101_b102) nin0))
      have f129 := (o1214.keep KK123 (ninS (Ne.symm ne_b101_b102) nin0))
      have f130 := (o1215.keep KK123 (ninS (Ne.symm ne_b101_b102) nin0))
      have f131 := (o121V.keep KK123 (ninS (Ne.symm ne_s_wo) nin0))
      have f132 := (o121U.keep KK123 (ninS (Ne.symm ne_s_lf) nin0))
      refine own_callV (y := (⟨"com/example/flowstate/flowstate/runtime/BlocksInTurn", "worker", "(I)I"⟩ : MethodName)) X124 hx hZ hown (hw _ (List.mem_of_getElem? (i := 23) rfl)) (hw _ (List.mem_of_getElem? (i := 24) rfl)) (hw _ (List.mem_of_getElem? (i := 26) rfl)) (hw _ (List.mem_of_getElem? (i := 25) rfl)) (hw _ (List.mem_of_getElem? (i := 4) rfl)) (hw _ (List.mem_of_getElem? (i := 27) rfl)) (by decide) (rmW l Z a0 hw [] b102 wo lf zW zS nx120 p124 ws120 ls120 T123.heap n0 (Nat.le_trans (Nat.le_trans (Nat.le_trans (Nat.le_trans (Nat.le_trans (Nat.le_trans (Nat.le_trans Zj2 E101.1) E102.1) KK104.1) KK107.1) KK110.1) KK120.1) KK123.1) ⟨f125, f126, f127, f128, f129, f130, f131, f132, ⟨(by simp [o121m]), (by simp [o121n])⟩, ⟨o121ga, o121gw, o121gl⟩, o121x, o121y, o121z⟩ hnW rp124.1 rp124.2) e124 f125 (W := 1) (by decide) (by decide) (by decide) (by decide) (g := (mkF m 158 #[.val (.int x0), .val (.int x1), .val (.int x2), .val (.int zW), .val (.int zS), .val (.ref b101), .val (.ref b102), .val (.int (1 : Int32)), .val (.int p124)] [(.int p124), (.ref b102), (.int (1 : Int32))])) rfl (by rw [hml]; rfl) (argsL := [(.int p124)]) (rest := [(.int (1 : Int32))]) rfl (lenOf pd_2 rfl) rfl (by show 2 * 0 + _ ≤ _; exact Nat.le_of_eq rfl) (hb hby at_158) ?_
      intro v133 T133 L133 hQ133 X133
      obtain ⟨ws133, ls133, nx133, rfl, NN133, KK133, hB133, el133, ew133, en133⟩ := hQ133
      have N133 := Fr.app N124 NN133
      obtain ⟨o134E, o1341, o1342, o1343, o1344, o1345, o134V, o134U, ⟨o134m, o134n⟩, ⟨o134ga, o134gw, o134gl⟩, o134x, o134y, o134z⟩ := hB133
      show own_Dn p e below s (fun v h L => v = some (.int 1) ∧ Fr n0 L) room_1.cells room_1.slots (T133.setTop (mkF m 161 #[.val (.int x0), .val (.int x1), .val (.int x2), .val (.int zW), .val (.int zS), .val (.ref b101), .val (.ref b102), .val (.int (1 : Int32)), .val (.int p124)] [(.int (ws133.getD p124.toNatClampNeg 0)), (.int (1 : Int32))]))
      refine own_st (q' := T133.setTop (mkF m 163 #[.val (.int x0), .val (.int x1), .val (.int x2), .val (.int zW), .val (.int zS), .val (.ref b101), .val (.ref b102), .val (.int (1 : Int32)), .val (.int p124)] [(.ref b101), (.int (ws133.getD p124.toNatClampNeg 0)), (.int (1 : Int32))])) (fun _ k => XS.aload X133.here hx rfl (hb hby at_161) rfl rfl k) ?_
      refine own_st (q' := T133.setTop (mkF m 165 #[.val (.int x0), .val (.int x1), .val (.int x2), .val (.int zW), .val (.int zS), .val (.ref b101), .val (.ref b102), .val (.int (1 : Int32)), .val (.int p124)] [(.int p124), (.ref b101), (.int (ws133.getD p124.toNatClampNeg 0)), (.int (1 : Int32))])) (fun _ k => XS.iload X133.here hx rfl (hb hby at_163) rfl k) ?_
      refine own_st (q' := T133.setTop (mkF m 167 #[.val (.int x0), .val (.int x1), .val (.int x2), .val (.int zW), .val (.int zS), .val (.ref b101), .val (.ref b102), .val (.int (1 : Int32)), .val (.int p124)] [(.int zS), (.int p124), (.ref b101), (.int (ws133.getD p124.toNatClampNeg 0)), (.int (1 : Int32))])) (fun _ k => XS.iload X133.here hx rfl (hb hby at_165) rfl k) ?_
      refine own_st (q' := T133.setTop (mkF m 168 #[.val (.int x0), .val (.int x1), .val (.int x2), .val (.int zW), .val (.int zS), .val (.ref b101), .val (.ref b102), .val (.int (1 : Int32)), .val (.int p124)] [(.int zW), (.int zS), (.int p124), (.ref b101), (.int (ws133.getD p124.toNatClampNeg 0)), (.int (1 : Int32))])) (fun _ k => XS.iloadN X133.here hx rfl (hb hby at_167) rfl k) ?_
      have f135 := (V123.keep KK133 (ninS ne_b101_b102 (ninS ne_s_wo (ninS ne_s_lf nin0))))
      refine own_callS (y := (⟨"com/example/flowstate/flowstate/runtime/BlocksInTurnWorkerPinLaw", "expected", "([IIII)I"⟩ : MethodName)) X133 hx hZ hown (hw _ (List.mem_of_getElem? (i := 30) rfl)) (hw _ (List.mem_of_getElem? (i := 31) rfl)) (hw _ (List.mem_of_getElem? (i := 21) rfl)) (hw _ (List.mem_of_getElem? (i := 32) rfl)) (by decide) (rmX l Z a0 hw [] b101 p124 zS zW st123 T133.heap n0 (Nat.le_trans (Nat.le_trans (Nat.le_trans (Nat.le_trans (Nat.le_trans (Nat.le_trans (Nat.le_trans (Nat.le_trans Zj2 E101.1) E102.1) KK104.1) KK107.1) KK110.1) KK120.1) KK123.1) KK133.1) f135 sl123 ge_b101 hnS hnW rp124.1 rp124.2) (rfl : T133.heap = T133.heap) (W := 2) (by decide) (by decide) (by decide) (by decide) (g := (mkF m 168 #[.val (.int x0), .val (.int x1), .val (.int x2), .val (.int zW), .val (.int zS), .val (.ref b101), .val (.ref b102), .val (.int (1 : Int32)), .val (.int p124)] [(.int zW), (.int zS), (.int p124), (.ref b101), (.int (ws133.getD p124.toNatClampNeg 0)), (.int (1 : Int32))])) rfl (by rw [hml]; rfl) (argsL := [(.ref b101), (.int p124), (.int zS), (.int zW)]) (rest := [(.int (ws133.getD p124.toNatClampNeg 0)), (.int (1 : Int32))]) rfl (lenOf pd_3 rfl) rfl (by show 2 * 0 + _ ≤ _; exact Nat.le_of_eq rfl) (hb hby at_168) ?_
      intro v136 T136 L136 hQ136 X136
      obtain ⟨st136, rfl, NN136, KK136, V136, sl136, es136⟩ := hQ136
      have N136 := Fr.app N133 NN136
      obtain ⟨Iv3, eq136⟩ := own_step (k := 2) (by decide) (by decide) hzW hzS o121m o121n Iv2 rp124.1 rp124.2 el133 ew133 en133 es136
      show own_Dn p e below s (fun v h L => v = some (.int 1) ∧ Fr n0 L) room_1.cells room_1.slots (T136.setTop (mkF m 171 #[.val (.int x0), .val (.int x1), .val (.int x2), .val (.int zW), .val (.int zS), .val (.ref b101), .val (.ref b102), .val (.int (1 : Int32)), .val (.int p124)] [(.int (st136.getD ((4 : Int32) + p124).toNatClampNeg 0 % zW + (1 : Int32))), (.int (ws133.getD p124.toNatClampNeg 0)), (.int (1 : Int32))]))
      refine own_st (q' := T136.setTop (mkF m 174 #[.val (.int x0), .val (.int x1), .val (.int x2), .val (.int zW), .val (.int zS), .val (.ref b101), .val (.ref b102), .val (.int (1 : Int32)), .val (.int p124)] [(.int (1 : Int32))])) (fun _ k => XS.icmpNo X136.here hx rfl (hb hby at_171) rfl (teq eq136).2 k) ?_
      refine own_st (q' := T136.setTop (mkF m 175 #[.val (.int x0), .val (.int x1), .val (.int x2), .val (.int zW), .val (.int zS), .val (.ref b101), .val (.ref b102), .val (.int (1 : Int32)), .val (.int p124)] [(.int (1 : Int32)), (.int (1 : Int32))])) (fun _ k => XS.iconst X136.here hx rfl (hb hby at_174) k) ?_
      refine own_st (q' := T136.setTop (mkF m 179 #[.val (.int x0), .val (.int x1), .val (.int x2), .val (.int zW), .val (.int zS), .val (.ref b101), .val (.ref b102), .val (.int (1 : Int32)), .val (.int p124)] [(.int (1 : Int32)), (.int (1 : Int32))])) (fun _ k => XS.goto X136.here hx rfl (pc0 := 175) (pc' := 179) rfl (hb hby at_175) (by decide) (by decide) k) ?_
      refine own_st (q' := T136.setTop (mkF m 180 #[.val (.int x0), .val (.int x1), .val (.int x2), .val (.int zW), .val (.int zS), .val (.ref b101), .val (.ref b102), .val (.int (1 : Int32)), .val (.int p124)] [(.int (1 : Int32))])) (fun _ k => XS.iand X136.here hx rfl (hb hby at_179) rfl k) ?_
      refine own_st (q' := T136.setTop (mkF m 182 #[.val (.int x0), .val (.int x1), .val (.int x2), .val (.int zW), .val (.int zS), .val (.ref b101), .val (.ref b102), .val (.int (1 : Int32)), .val (.int p124)] [])) (fun _ k => XS.istore X136.here hx rfl (hb hby at_180) rfl (l' := #[.val (.int x0), .val (.int x1), .val (.int x2), .val (.int zW), .val (.int zS), .val (.ref b101), .val (.ref b102), .val (.int (1 : Int32)), .val (.int p124)]) rfl k) ?_
      refine own_st (q' := T136.setTop (mkF m 183 #[.val (.int x0), .val (.int x1), .val (.int x2), .val (.int zW), .val (.int zS), .val (.ref b101), .val (.ref b102), .val (.int (1 : Int32)), .val (.int p124)] [(.int x2)])) (fun _ k => XS.iloadN X136.here hx rfl (hb hby at_182) rfl k) ?_
      refine own_st (q' := T136.setTop (mkF m 184 #[.val (.int x0), .val (.int x1), .val (.int x2), .val (.int zW), .val (.int zS), .val (.ref b101), .val (.ref b102), .val (.int (1 : Int32)), .val (.int p124)] [(.int (3 : Int32)), (.int x2)])) (fun _ k => XS.iconst X136.here hx rfl (hb hby at_183) k) ?_
      refine own_callS (y := (⟨"com/example/flowstate/flowstate/runtime/BlocksInTurnWorkerPinLaw", "part", "(II)I"⟩ : MethodName)) X136 hx hZ hown (hw _ (List.mem_of_getElem? (i := 19) rfl)) (hw _ (List.mem_of_getElem? (i := 20) rfl)) (hw _ (List.mem_of_getElem? (i := 21) rfl)) (hw _ (List.mem_of_getElem? (i := 22) rfl)) (by decide) (rmP l Z a0 hw [] x2 (3 : Int32) T136.heap n0 (Nat.le_trans (Nat.le_trans (Nat.le_trans (Nat.le_trans (Nat.le_trans (Nat.le_trans (Nat.le_trans (Nat.le_trans (Nat.le_trans Zj2 E101.1) E102.1) KK104.1) KK107.1) KK110.1) KK120.1) KK123.1) KK133.1) KK136.1)) (rfl : T136.heap = T136.heap) (W := 0) (by decide) (by decide) (by decide) (by decide) (g := (mkF m 184 #[.val (.int x0), .val (.int x1), .val (.int x2), .val (.int zW), .val (.int zS), .val (.ref b101), .val (.ref b102), .val (.int (1 : Int32)), .val (.int p124)] [(.int (3 : Int32)), (.int x2)])) rfl (by rw [hml]; rfl) (argsL := [(.int x2), (.int (3 : Int32))]) (rest := []) rfl (lenOf pd_1 rfl) rfl (by show 2 * 0 + _ ≤ _; exact Nat.le_of_eq rfl) (hb hby at_184) ?_
      intro v137 T137 L137 hQ137 X137
      obtain ⟨rfl, NN137, e137⟩ := hQ137
      have N137 := Fr.app N136 NN137
      have rp137 := own_part_r x2 (3 : Int32)
      generalize own_part x2 (3 : Int32) = p137 at rp137 ⊢
      show own_Dn p e below s (fun v h L => v = some (.int 1) ∧ Fr n0 L) room_1.cells room_1.slots (T137.setTop (mkF m 187 #[.val (.int x0), .val (.int x1), .val (.int x2), .val (.int zW), .val (.int zS), .val (.ref b101), .val (.ref b102), .val (.int (1 : Int32)), .val (.int p124)] [(.int p137)]))
      refine own_st (q' := T137.setTop (mkF m 189 #[.val (.int x0), .val (.int x1), .val (.int x2), .val (.int zW), .val (.int zS), .val (.ref b101), .val (.ref b102), .val (.int (1 : Int32)), .val (.int p137)] [])) (fun _ k => XS.istore X137.here hx rfl (hb hby at_187) rfl (l' := #[.val (.int x0), .val (.int x1), .val (.int x2), .val (.int zW), .val (.int zS), .val (.ref b101), .val (.ref b102), .val (.int (1 : Int32)), .val (.int p137)]) rfl k) ?_
      refine own_st (q' := T137.setTop (mkF m 191 #[.val (.int x0), .val (.int x1), .val (.int x2), .val (.int zW), .val (.int zS), .val (.ref b101), .val (.ref b102), .val (.int (1 : Int32)), .val (.int p137)] [(.int (1 : Int32))])) (fun _ k => XS.iload X137.here hx rfl (hb hby at_189) rfl k) ?_
      refine own_st (q' := T137.setTop (mkF m 193 #[.val (.int x0), .val (.int x1), .val (.int x2), .val (.int zW), .val (.int zS), .val (.ref b101), .val (.ref b102), .val (.int (1 : Int32)), .val (.int p137)] [(.ref b102), (.int (1 : Int32))])) (fun _ k => XS.aload X137.here hx rfl (hb hby at_191) rfl rfl k) ?_
      refine own_st (q' := T137.setTop (mkF m 195 #[.val (.int x0), .val (.int x1), .val (.int x2), .val (.int zW), .val (.int zS), .val (.ref b101), .val (.ref b102), .val (.int (1 : Int32)), .val (.int p137)] [(.int p137), (.ref b102), (.int (1 : Int32))])) (fun _ k => XS.iload X137.here hx rfl (hb hby at_193) rfl k) ?_
      have f138 := (o134E.keep KK136)
      have f139 := (o1341.keep KK136 (ninS (Ne.symm ne_b101_b102) nin0))
      have f140 := (o1342.keep KK136 (ninS (Ne.symm ne_b101_b102) nin0))
      have f141 := (o1343.keep KK136 (ninS (Ne.symm ne_b101_b102) nin0))
      have f142 := (o1344.keep KK136 (ninS (Ne.symm ne_b101_b102) nin0))
      have f143 := (o1345.keep KK136 (ninS (Ne.symm ne_b101_b102) nin0))
      have f144 := (o134V.keep KK136 (ninS (Ne.symm ne_s_wo) nin0))
      have f145 := (o134U.keep KK136 (ninS (Ne.symm ne_s_lf) nin0))
      refine own_callV (y := (⟨"com/example/flowstate/flowstate/runtime/BlocksInTurn", "worker", "(I)I"⟩ : MethodName)) X137 hx hZ hown (hw _ (List.mem_of_getElem? (i := 23) rfl)) (hw _ (List.mem_of_getElem? (i := 24) rfl)) (hw _ (List.mem_of_getElem? (i := 26) rfl)) (hw _ (List.mem_of_getElem? (i := 25) rfl)) (hw _ (List.mem_of_getElem? (i := 4) rfl)) (hw _ (List.mem_of_getElem? (i := 27) rfl)) (by decide) (rmW l Z a0 hw [] b102 wo lf zW zS nx133 p137 ws133 ls133 T136.heap n0 (Nat.le_trans (Nat.le_trans (Nat.le_trans (Nat.le_trans (Nat.le_trans (Nat.le_trans (Nat.le_trans (Nat.le_trans (Nat.le_trans Zj2 E101.1) E102.1) KK104.1) KK107.1) KK110.1) KK120.1) KK123.1) KK133.1) KK136.1) ⟨f138, f139, f140, f141, f142, f143, f144, f145, ⟨(by simp [o134m]), (by simp [o134n])⟩, ⟨o134ga, o134gw, o134gl⟩, o134x, o134y, o134z⟩ hnW rp137.1 rp137.2) e137 f138 (W := 1) (by decide) (by decide) (by decide) (by decide) (g := (mkF m 195 #[.val (.int x0), .val (.int x1), .val (.int x2), .val (.int zW), .val (.int zS), .val (.ref b101), .val (.ref b102), .val (.int (1 : Int32)), .val (.int p137)] [(.int p137), (.ref b102), (.int (1 : Int32))])) rfl (by rw [hml]; rfl) (argsL := [(.int p137)]) (rest := [(.int (1 : Int32))]) rfl (lenOf pd_2 rfl) rfl (by show 2 * 0 + _ ≤ _; exact Nat.le_of_eq rfl) (hb hby at_195) ?_
      intro v146 T146 L146 hQ146 X146
      obtain ⟨ws146, ls146, nx146, rfl, NN146, KK146, hB146, el146, ew146, en146⟩ := hQ146
      have N146 := Fr.app N137 NN146
      obtain ⟨o147E, o1471, o1472, o1473, o1474, o1475, o147V, o147U, ⟨o147m, o147n⟩, ⟨o147ga, o147gw, o147gl⟩, o147x, o147y, o147z⟩ := hB146
      show own_Dn p e below s (fun v h L => v = some (.int 1) ∧ Fr n0 L) room_1.cells room_1.slots (T146.setTop (mkF m 198 #[.val (.int x0), .val (.int x1), .val (.int x2), .val (.int zW), .val (.int zS), .val (.ref b101), .val (.ref b102), .val (.int (1 : Int32)), .val (.int p137)] [(.int (ws146.getD p137.toNatClampNeg 0)), (.int (1 : Int32))]))
      refine own_st (q' := T146.setTop (mkF m 200 #[.val (.int x0), .val (.int x1), .val (.int x2), .val (.int zW), .val (.int zS), .val (.ref b101), .val (.ref b102), .val (.int (1 : Int32)), .val (.int p137)] [(.ref b101), (.int (ws146.getD p137.toNatClampNeg 0)), (.int (1 : Int32))])) (fun _ k => XS.aload X146.here hx rfl (hb hby at_198) rfl rfl k) ?_
      refine own_st (q' := T146.setTop (mkF m 202 #[.val (.int x0), .val (.int x1), .val (.int x2), .val (.int zW), .val (.int zS), .val (.ref b101), .val (.ref b102), .val (.int (1 : Int32)), .val (.int p137)] [(.int p137), (.ref b101), (.int (ws146.getD p137.toNatClampNeg 0)), (.int (1 : Int32))])) (fun _ k => XS.iload X146.here hx rfl (hb hby at_200) rfl k) ?_
      refine own_st (q' := T146.setTop (mkF m 204 #[.val (.int x0), .val (.int x1), .val (.int x2), .val (.int zW), .val (.int zS), .val (.ref b101), .val (.ref b102), .val (.int (1 : Int32)), .val (.int p137)] [(.int zS), (.int p137), (.ref b101), (.int (ws146.getD p137.toNatClampNeg 0)), (.int (1 : Int32))])) (fun _ k => XS.iload X146.here hx rfl (hb hby at_202) rfl k) ?_
      refine own_st (q' := T146.setTop (mkF m 205 #[.val (.int x0), .val (.int x1), .val (.int x2), .val (.int zW), .val (.int zS), .val (.ref b101), .val (.ref b102), .val (.int (1 : Int32)), .val (.int p137)] [(.int zW), (.int zS), (.int p137), (.ref b101), (.int (ws146.getD p137.toNatClampNeg 0)), (.int (1 : Int32))])) (fun _ k => XS.iloadN X146.here hx rfl (hb hby at_204) rfl k) ?_
      have f148 := (V136.keep KK146 (ninS ne_b101_b102 (ninS ne_s_wo (ninS ne_s_lf nin0))))
      refine own_callS (y := (⟨"com/example/flowstate/flowstate/runtime/BlocksInTurnWorkerPinLaw", "expected", "([IIII)I"⟩ : MethodName)) X146 hx hZ hown (hw _ (List.mem_of_getElem? (i := 30) rfl)) (hw _ (List.mem_of_getElem? (i := 31) rfl)) (hw _ (List.mem_of_getElem? (i := 21) rfl)) (hw _ (List.mem_of_getElem? (i := 32) rfl)) (by decide) (rmX l Z a0 hw [] b101 p137 zS zW st136 T146.heap n0 (Nat.le_trans (Nat.le_trans (Nat.le_trans (Nat.le_trans (Nat.le_trans (Nat.le_trans (Nat.le_trans (Nat.le_trans (Nat.le_trans (Nat.le_trans Zj2 E101.1) E102.1) KK104.1) KK107.1) KK110.1) KK120.1) KK123.1) KK133.1) KK136.1) KK146.1) f148 sl136 ge_b101 hnS hnW rp137.1 rp137.2) (rfl : T146.heap = T146.heap) (W := 2) (by decide) (by decide) (by decide) (by decide) (g := (mkF m 205 #[.val (.int x0), .val (.int x1), .val (.int x2), .val (.int zW), .val (.int zS), .val (.ref b101), .val (.ref b102), .val (.int (1 : Int32)), .val (.int p137)] [(.int zW), (.int zS), (.int p137), (.ref b101), (.int (ws146.getD p137.toNatClampNeg 0)), (.int (1 : Int32))])) rfl (by rw [hml]; rfl) (argsL := [(.ref b101), (.int p137), (.int zS), (.int zW)]) (rest := [(.int (ws146.getD p137.toNatClampNeg 0)), (.int (1 : Int32))]) rfl (lenOf pd_3 rfl) rfl (by show 2 * 0 + _ ≤ _; exact Nat.le_of_eq rfl) (hb hby at_205) ?_
      intro v149 T149 L149 hQ149 X149
      obtain ⟨st149, rfl, NN149, KK149, V149, sl149, es149⟩ := hQ149
      have N149 := Fr.app N146 NN149
      obtain ⟨Iv4, eq149⟩ := own_step (k := 3) (by decide) (by decide) hzW hzS o134m o134n Iv3 rp137.1 rp137.2 el146 ew146 en146 es149
      show own_Dn p e below s (fun v h L => v = some (.int 1) ∧ Fr n0 L) room_1.cells room_1.slots (T149.setTop (mkF m 208 #[.val (.int x0), .val (.int x1), .val (.int x2), .val (.int zW), .val (.int zS), .val (.ref b101), .val (.ref b102), .val (.int (1 : Int32)), .val (.int p137)] [(.int (st149.getD ((4 : Int32) + p137).toNatClampNeg 0 % zW + (1 : Int32))), (.int (ws146.getD p137.toNatClampNeg 0)), (.int (1 : Int32))]))
      refine own_st (q' := T149.setTop (mkF m 211 #[.val (.int x0), .val (.int x1), .val (.int x2), .val (.int zW), .val (.int zS), .val (.ref b101), .val (.ref b102), .val (.int (1 : Int32)), .val (.int p137)] [(.int (1 : Int32))])) (fun _ k => XS.icmpNo X149.here hx rfl (hb hby at_208) rfl (teq eq149).2 k) ?_
      refine own_st (q' := T149.setTop (mkF m 212 #[.val (.int x0), .val (.int x1), .val (.int x2), .val (.int zW), .val (.int zS), .val (.ref b101), .val (.ref b102), .val (.int (1 : Int32)), .val (.int p137)] [(.int (1 : Int32)), (.int (1 : Int32))])) (fun _ k => XS.iconst X149.here hx rfl (hb hby at_211) k) ?_
      refine own_st (q' := T149.setTop (mkF m 216 #[.val (.int x0), .val (.int x1), .val (.int x2), .val (.int zW), .val (.int zS), .val (.ref b101), .val (.ref b102), .val (.int (1 : Int32)), .val (.int p137)] [(.int (1 : Int32)), (.int (1 : Int32))])) (fun _ k => XS.goto X149.here hx rfl (pc0 := 212) (pc' := 216) rfl (hb hby at_212) (by decide) (by decide) k) ?_
      refine own_st (q' := T149.setTop (mkF m 217 #[.val (.int x0), .val (.int x1), .val (.int x2), .val (.int zW), .val (.int zS), .val (.ref b101), .val (.ref b102), .val (.int (1 : Int32)), .val (.int p137)] [(.int (1 : Int32))])) (fun _ k => XS.iand X149.here hx rfl (hb hby at_216) rfl k) ?_
      refine own_st (q' := T149.setTop (mkF m 219 #[.val (.int x0), .val (.int x1), .val (.int x2), .val (.int zW), .val (.int zS), .val (.ref b101), .val (.ref b102), .val (.int (1 : Int32)), .val (.int p137)] [])) (fun _ k => XS.istore X149.here hx rfl (hb hby at_217) rfl (l' := #[.val (.int x0), .val (.int x1), .val (.int x2), .val (.int zW), .val (.int zS), .val (.ref b101), .val (.ref b102), .val (.int (1 : Int32)), .val (.int p137)]) rfl k) ?_
      refine own_st (q' := T149.setTop (mkF m 220 #[.val (.int x0), .val (.int x1), .val (.int x2), .val (.int zW), .val (.int zS), .val (.ref b101), .val (.ref b102), .val (.int (1 : Int32)), .val (.int p137)] [(.int x2)])) (fun _ k => XS.iloadN X149.here hx rfl (hb hby at_219) rfl k) ?_
      refine own_st (q' := T149.setTop (mkF m 221 #[.val (.int x0), .val (.int x1), .val (.int x2), .val (.int zW), .val (.int zS), .val (.ref b101), .val (.ref b102), .val (.int (1 : Int32)), .val (.int p137)] [(.int (4 : Int32)), (.int x2)])) (fun _ k => XS.iconst X149.here hx rfl (hb hby at_220) k) ?_
      refine own_callS (y := (⟨"com/example/flowstate/flowstate/runtime/BlocksInTurnWorkerPinLaw", "part", "(II)I"⟩ : MethodName)) X149 hx hZ hown (hw _ (List.mem_of_getElem? (i := 19) rfl)) (hw _ (List.mem_of_getElem? (i := 20) rfl)) (hw _ (List.mem_of_getElem? (i := 21) rfl)) (hw _ (List.mem_of_getElem? (i := 22) rfl)) (by decide) (rmP l Z a0 hw [] x2 (4 : Int32) T149.heap n0 (Nat.le_trans (Nat.le_trans (Nat.le_trans (Nat.le_trans (Nat.le_trans (Nat.le_trans (Nat.le_trans (Nat.le_trans (Nat.le_trans (Nat.le_trans (Nat.le_trans Zj2 E101.1) E102.1) KK104.1) KK107.1) KK110.1) KK120.1) KK123.1) KK133.1) KK136.1) KK146.1) KK149.1)) (rfl : T149.heap = T149.heap) (W := 0) (by decide) (by decide) (by decide) (by decide) (g := (mkF m 221 #[.val (.int x0), .val (.int x1), .val (.int x2), .val (.int zW), .val (.int zS), .val (.ref b101), .val (.ref b102), .val (.int (1 : Int32)), .val (.int p137)] [(.int (4 : Int32)), (.int x2)])) rfl (by rw [hml]; rfl) (argsL := [(.int x2), (.int (4 : Int32))]) (rest := []) rfl (lenOf pd_1 rfl) rfl (by show 2 * 0 + _ ≤ _; exact Nat.le_of_eq rfl) (hb hby at_221) ?_
      intro v150 T150 L150 hQ150 X150
      obtain ⟨rfl, NN150, e150⟩ := hQ150
      have N150 := Fr.app N149 NN150
      have rp150 := own_part_r x2 (4 : Int32)
      generalize own_part x2 (4 : Int32) = p150 at rp150 ⊢
      show own_Dn p e below s (fun v h L => v = some (.int 1) ∧ Fr n0 L) room_1.cells room_1.slots (T150.setTop (mkF m 224 #[.val (.int x0), .val (.int x1), .val (.int x2), .val (.int zW), .val (.int zS), .val (.ref b101), .val (.ref b102), .val (.int (1 : Int32)), .val (.int p137)] [(.int p150)]))
      refine own_st (q' := T150.setTop (mkF m 226 #[.val (.int x0), .val (.int x1), .val (.int x2), .val (.int zW), .val (.int zS), .val (.ref b101), .val (.ref b102), .val (.int (1 : Int32)), .val (.int p150)] [])) (fun _ k => XS.istore X150.here hx rfl (hb hby at_224) rfl (l' := #[.val (.int x0), .val (.int x1), .val (.int x2), .val (.int zW), .val (.int zS), .val (.ref b101), .val (.ref b102), .val (.int (1 : Int32)), .val (.int p150)]) rfl k) ?_
      refine own_st (q' := T150.setTop (mkF m 228 #[.val (.int x0), .val (.int x1), .val (.int x2), .val (.int zW), .val (.int zS), .val (.ref b101), .val (.ref b102), .val (.int (1 : Int32)), .val (.int p150)] [(.int (1 : Int32))])) (fun _ k => XS.iload X150.here hx rfl (hb hby at_226) rfl k) ?_
      refine own_st (q' := T150.setTop (mkF m 230 #[.val (.int x0), .val (.int x1), .val (.int x2), .val (.int zW), .val (.int zS), .val (.ref b101), .val (.ref b102), .val (.int (1 : Int32)), .val (.int p150)] [(.ref b102), (.int (1 : Int32))])) (fun _ k => XS.aload X150.here hx rfl (hb hby at_228) rfl rfl k) ?_
      refine own_st (q' := T150.setTop (mkF m 232 #[.val (.int x0), .val (.int x1), .val (.int x2), .val (.int zW), .val (.int zS), .val (.ref b101), .val (.ref b102), .val (.int (1 : Int32)), .val (.int p150)] [(.int p150), (.ref b102), (.int (1 : Int32))])) (fun _ k => XS.iload X150.here hx rfl (hb hby at_230) rfl k) ?_
      have f151 := (o147E.keep KK149)
      have f152 := (o1471.keep KK149 (ninS (Ne.symm ne_b101_b102) nin0))
      have f153 := (o1472.keep KK149 (ninS (Ne.symm ne_b101_b102) nin0))
      have f154 := (o1473.keep KK149 (ninS (Ne.symm ne_b101_b102) nin0))
      have f155 := (o1474.keep KK149 (ninS (Ne.symm ne_b101_b102) nin0))
      have f156 := (o1475.keep KK149 (ninS (Ne.symm ne_b101_b102) nin0))
      have f157 := (o147V.keep KK149 (ninS (Ne.symm ne_s_wo) nin0))
      have f158 := (o147U.keep KK149 (ninS (Ne.symm ne_s_lf) nin0))
      refine own_callV (y := (⟨"com/example/flowstate/flowstate/runtime/BlocksInTurn", "worker", "(I)I"⟩ : MethodName)) X150 hx hZ hown (hw _ (List.mem_of_getElem? (i := 23) rfl)) (hw _ (List.mem_of_getElem? (i := 24) rfl)) (hw _ (List.mem_of_getElem? (i := 26) rfl)) (hw _ (List.mem_of_getElem? (i := 25) rfl)) (hw _ (List.mem_of_getElem? (i := 4) rfl)) (hw _ (List.mem_of_getElem? (i := 27) rfl)) (by decide) (rmW l Z a0 hw [] b102 wo lf zW zS nx146 p150 ws146 ls146 T149.heap n0 (Nat.le_trans (Nat.le_trans (Nat.le_trans (Nat.le_trans (Nat.le_trans (Nat.le_trans (Nat.le_trans (Nat.le_trans (Nat.le_trans (Nat.le_trans (Nat.le_trans Zj2 E101.1) E102.1) KK104.1) KK107.1) KK110.1) KK120.1) KK123.1) KK133.1) KK136.1) KK146.1) KK149.1) ⟨f151, f152, f153, f154, f155, f156, f157, f158, ⟨(by simp [o147m]), (by simp [o147n])⟩, ⟨o147ga, o147gw, o147gl⟩, o147x, o147y, o147z⟩ hnW rp150.1 rp150.2) e150 f151 (W := 1) (by decide) (by decide) (by decide) (by decide) (g := (mkF m 232 #[.val (.int x0), .val (.int x1), .val (.int x2), .val (.int zW), .val (.int zS), .val (.ref b101), .val (.ref b102), .val (.int (1 : Int32)), .val (.int p150)] [(.int p150), (.ref b102), (.int (1 : Int32))])) rfl (by rw [hml]; rfl) (argsL := [(.int p150)]) (rest := [(.int (1 : Int32))]) rfl (lenOf pd_2 rfl) rfl (by show 2 * 0 + _ ≤ _; exact Nat.le_of_eq rfl) (hb hby at_232) ?_
      intro v159 T159 L159 hQ159 X159
      obtain ⟨ws159, ls159, nx159, rfl, NN159, KK159, hB159, el159, ew159, en159⟩ := hQ159
      have N159 := Fr.app N150 NN159
      obtain ⟨o160E, o1601, o1602, o1603, o1604, o1605, o160V, o160U, ⟨o160m, o160n⟩, ⟨o160ga, o160gw, o160gl⟩, o160x, o160y, o160z⟩ := hB159
      show own_Dn p e below s (fun v h L => v = some (.int 1) ∧ Fr n0 L) room_1.cells room_1.slots (T159.setTop (mkF m 235 #[.val (.int x0), .val (.int x1), .val (.int x2), .val (.int zW), .val (.int zS), .val (.ref b101), .val (.ref b102), .val (.int (1 : Int32)), .val (.int p150)] [(.int (ws159.getD p150.toNatClampNeg 0)), (.int (1 : Int32))]))
      refine own_st (q' := T159.setTop (mkF m 237 #[.val (.int x0), .val (.int x1), .val (.int x2), .val (.int zW), .val (.int zS), .val (.ref b101), .val (.ref b102), .val (.int (1 : Int32)), .val (.int p150)] [(.ref b101), (.int (ws159.getD p150.toNatClampNeg 0)), (.int (1 : Int32))])) (fun _ k => XS.aload X159.here hx rfl (hb hby at_235) rfl rfl k) ?_
      refine own_st (q' := T159.setTop (mkF m 239 #[.val (.int x0), .val (.int x1), .val (.int x2), .val (.int zW), .val (.int zS), .val (.ref b101), .val (.ref b102), .val (.int (1 : Int32)), .val (.int p150)] [(.int p150), (.ref b101), (.int (ws159.getD p150.toNatClampNeg 0)), (.int (1 : Int32))])) (fun _ k => XS.iload X159.here hx rfl (hb hby at_237) rfl k) ?_
      refine own_st (q' := T159.setTop (mkF m 241 #[.val (.int x0), .val (.int x1), .val (.int x2), .val (.int zW), .val (.int zS), .val (.ref b101), .val (.ref b102), .val (.int (1 : Int32)), .val (.int p150)] [(.int zS), (.int p150), (.ref b101), (.int (ws159.getD p150.toNatClampNeg 0)), (.int (1 : Int32))])) (fun _ k => XS.iload X159.here hx rfl (hb hby at_239) rfl k) ?_
      refine own_st (q' := T159.setTop (mkF m 242 #[.val (.int x0), .val (.int x1), .val (.int x2), .val (.int zW), .val (.int zS), .val (.ref b101), .val (.ref b102), .val (.int (1 : Int32)), .val (.int p150)] [(.int zW), (.int zS), (.int p150), (.ref b101), (.int (ws159.getD p150.toNatClampNeg 0)), (.int (1 : Int32))])) (fun _ k => XS.iloadN X159.here hx rfl (hb hby at_241) rfl k) ?_
      have f161 := (V149.keep KK159 (ninS ne_b101_b102 (ninS ne_s_wo (ninS ne_s_lf nin0))))
      refine own_callS (y := (⟨"com/example/flowstate/flowstate/runtime/BlocksInTurnWorkerPinLaw", "expected", "([IIII)I"⟩ : MethodName)) X159 hx hZ hown (hw _ (List.mem_of_getElem? (i := 30) rfl)) (hw _ (List.mem_of_getElem? (i := 31) rfl)) (hw _ (List.mem_of_getElem? (i := 21) rfl)) (hw _ (List.mem_of_getElem? (i := 32) rfl)) (by decide) (rmX l Z a0 hw [] b101 p150 zS zW st149 T159.heap n0 (Nat.le_trans (Nat.le_trans (Nat.le_trans (Nat.le_trans (Nat.le_trans (Nat.le_trans (Nat.le_trans (Nat.le_trans (Nat.le_trans (Nat.le_trans (Nat.le_trans (Nat.le_trans Zj2 E101.1) E102.1) KK104.1) KK107.1) KK110.1) KK120.1) KK123.1) KK133.1) KK136.1) KK146.1) KK149.1) KK159.1) f161 sl149 ge_b101 hnS hnW rp150.1 rp150.2) (rfl : T159.heap = T159.heap) (W := 2) (by decide) (by decide) (by decide) (by decide) (g := (mkF m 242 #[.val (.int x0), .val (.int x1), .val (.int x2), .val (.int zW), .val (.int zS), .val (.ref b101), .val (.ref b102), .val (.int (1 : Int32)), .val (.int p150)] [(.int zW), (.int zS), (.int p150), (.ref b101), (.int (ws159.getD p150.toNatClampNeg 0)), (.int (1 : Int32))])) rfl (by rw [hml]; rfl) (argsL := [(.ref b101), (.int p150), (.int zS), (.int zW)]) (rest := [(.int (ws159.getD p150.toNatClampNeg 0)), (.int (1 : Int32))]) rfl (lenOf pd_3 rfl) rfl (by show 2 * 0 + _ ≤ _; exact Nat.le_of_eq rfl) (hb hby at_242) ?_
      intro v162 T162 L162 hQ162 X162
      obtain ⟨st162, rfl, NN162, KK162, V162, sl162, es162⟩ := hQ162
      have N162 := Fr.app N159 NN162
      obtain ⟨Iv5, eq162⟩ := own_step (k := 4) (by decide) (by decide) hzW hzS o147m o147n Iv4 rp150.1 rp150.2 el159 ew159 en159 es162
      show own_Dn p e below s (fun v h L => v = some (.int 1) ∧ Fr n0 L) room_1.cells room_1.slots (T162.setTop (mkF m 245 #[.val (.int x0), .val (.int x1), .val (.int x2), .val (.int zW), .val (.int zS), .val (.ref b101), .val (.ref b102), .val (.int (1 : Int32)), .val (.int p150)] [(.int (st162.getD ((4 : Int32) + p150).toNatClampNeg 0 % zW + (1 : Int32))), (.int (ws159.getD p150.toNatClampNeg 0)), (.int (1 : Int32))]))
      refine own_st (q' := T162.setTop (mkF m 248 #[.val (.int x0), .val (.int x1), .val (.int x2), .val (.int zW), .val (.int zS), .val (.ref b101), .val (.ref b102), .val (.int (1 : Int32)), .val (.int p150)] [(.int (1 : Int32))])) (fun _ k => XS.icmpNo X162.here hx rfl (hb hby at_245) rfl (teq eq162).2 k) ?_
      refine own_st (q' := T162.setTop (mkF m 249 #[.val (.int x0), .val (.int x1), .val (.int x2), .val (.int zW), .val (.int zS), .val (.ref b101), .val (.ref b102), .val (.int (1 : Int32)), .val (.int p150)] [(.int (1 : Int32)), (.int (1 : Int32))])) (fun _ k => XS.iconst X162.here hx rfl (hb hby at_248) k) ?_
      refine own_st (q' := T162.setTop (mkF m 253 #[.val (.int x0), .val (.int x1), .val (.int x2), .val (.int zW), .val (.int zS), .val (.ref b101), .val (.ref b102), .val (.int (1 : Int32)), .val (.int p150)] [(.int (1 : Int32)), (.int (1 : Int32))])) (fun _ k => XS.goto X162.here hx rfl (pc0 := 249) (pc' := 253) rfl (hb hby at_249) (by decide) (by decide) k) ?_
      refine own_st (q' := T162.setTop (mkF m 254 #[.val (.int x0), .val (.int x1), .val (.int x2), .val (.int zW), .val (.int zS), .val (.ref b101), .val (.ref b102), .val (.int (1 : Int32)), .val (.int p150)] [(.int (1 : Int32))])) (fun _ k => XS.iand X162.here hx rfl (hb hby at_253) rfl k) ?_
      refine own_st (q' := T162.setTop (mkF m 256 #[.val (.int x0), .val (.int x1), .val (.int x2), .val (.int zW), .val (.int zS), .val (.ref b101), .val (.ref b102), .val (.int (1 : Int32)), .val (.int p150)] [])) (fun _ k => XS.istore X162.here hx rfl (hb hby at_254) rfl (l' := #[.val (.int x0), .val (.int x1), .val (.int x2), .val (.int zW), .val (.int zS), .val (.ref b101), .val (.ref b102), .val (.int (1 : Int32)), .val (.int p150)]) rfl k) ?_
      refine own_st (q' := T162.setTop (mkF m 257 #[.val (.int x0), .val (.int x1), .val (.int x2), .val (.int zW), .val (.int zS), .val (.ref b101), .val (.ref b102), .val (.int (1 : Int32)), .val (.int p150)] [(.int x2)])) (fun _ k => XS.iloadN X162.here hx rfl (hb hby at_256) rfl k) ?_
      refine own_st (q' := T162.setTop (mkF m 258 #[.val (.int x0), .val (.int x1), .val (.int x2), .val (.int zW), .val (.int zS), .val (.ref b101), .val (.ref b102), .val (.int (1 : Int32)), .val (.int p150)] [(.int (5 : Int32)), (.int x2)])) (fun _ k => XS.iconst X162.here hx rfl (hb hby at_257) k) ?_
      refine own_callS (y := (⟨"com/example/flowstate/flowstate/runtime/BlocksInTurnWorkerPinLaw", "part", "(II)I"⟩ : MethodName)) X162 hx hZ hown (hw _ (List.mem_of_getElem? (i := 19) rfl)) (hw _ (List.mem_of_getElem? (i := 20) rfl)) (hw _ (List.mem_of_getElem? (i := 21) rfl)) (hw _ (List.mem_of_getElem? (i := 22) rfl)) (by decide) (rmP l Z a0 hw [] x2 (5 : Int32) T162.heap n0 (Nat.le_trans (Nat.le_trans (Nat.le_trans (Nat.le_trans (Nat.le_trans (Nat.le_trans (Nat.le_trans (Nat.le_trans (Nat.le_trans (Nat.le_trans (Nat.le_trans (Nat.le_trans (Nat.le_trans Zj2 E101.1) E102.1) KK104.1) KK107.1) KK110.1) KK120.1) KK123.1) KK133.1) KK136.1) KK146.1) KK149.1) KK159.1) KK162.1)) (rfl : T162.heap = T162.heap) (W := 0) (by decide) (by decide) (by decide) (by decide) (g := (mkF m 258 #[.val (.int x0), .val (.int x1), .val (.int x2), .val (.int zW), .val (.int zS), .val (.ref b101), .val (.ref b102), .val (.int (1 : Int32)), .val (.int p150)] [(.int (5 : Int32)), (.int x2)])) rfl (by rw [hml]; rfl) (argsL := [(.int x2), (.int (5 : Int32))]) (rest := []) rfl (lenOf pd_1 rfl) rfl (by show 2 * 0 + _ ≤ _; exact Nat.le_of_eq rfl) (hb hby at_258) ?_
      intro v163 T163 L163 hQ163 X163
      obtain ⟨rfl, NN163, e163⟩ := hQ163
      have N163 := Fr.app N162 NN163
      have rp163 := own_part_r x2 (5 : Int32)
      generalize own_part x2 (5 : Int32) = p163 at rp163 ⊢
      show own_Dn p e below s (fun v h L => v = some (.int 1) ∧ Fr n0 L) room_1.cells room_1.slots (T163.setTop (mkF m 261 #[.val (.int x0), .val (.int x1), .val (.int x2), .val (.int zW), .val (.int zS), .val (.ref b101), .val (.ref b102), .val (.int (1 : Int32)), .val (.int p150)] [(.int p163)]))
      refine own_st (q' := T163.setTop (mkF m 263 #[.val (.int x0), .val (.int x1), .val (.int x2), .val (.int zW), .val (.int zS), .val (.ref b101), .val (.ref b102), .val (.int (1 : Int32)), .val (.int p163)] [])) (fun _ k => XS.istore X163.here hx rfl (hb hby at_261) rfl (l' := #[.val (.int x0), .val (.int x1), .val (.int x2), .val (.int zW), .val (.int zS), .val (.ref b101), .val (.ref b102), .val (.int (1 : Int32)), .val (.int p163)]) rfl k) ?_
      refine own_st (q' := T163.setTop (mkF m 265 #[.val (.int x0), .val (.int x1), .val (.int x2), .val (.int zW), .val (.int zS), .val (.ref b101), .val (.ref b102), .val (.int (1 : Int32)), .val (.int p163)] [(.int (1 : Int32))])) (fun _ k => XS.iload X163.here hx rfl (hb hby at_263) rfl k) ?_
      refine own_st (q' := T163.setTop (mkF m 267 #[.val (.int x0), .val (.int x1), .val (.int x2), .val (.int zW), .val (.int zS), .val (.ref b101), .val (.ref b102), .val (.int (1 : Int32)), .val (.int p163)] [(.ref b102), (.int (1 : Int32))])) (fun _ k => XS.aload X163.here hx rfl (hb hby at_265) rfl rfl k) ?_
      refine own_st (q' := T163.setTop (mkF m 269 #[.val (.int x0), .val (.int x1), .val (.int x2), .val (.int zW), .val (.int zS), .val (.ref b101), .val (.ref b102), .val (.int (1 : Int32)), .val (.int p163)] [(.int p163), (.ref b102), (.int (1 : Int32))])) (fun _ k => XS.iload X163.here hx rfl (hb hby at_267) rfl k) ?_
      have f164 := (o160E.keep KK162)
      have f165 := (o1601.keep KK162 (ninS (Ne.symm ne_b101_b102) nin0))
      have f166 := (o1602.keep KK162 (ninS (Ne.symm ne_b101_b102) nin0))
      have f167 := (o1603.keep KK162 (ninS (Ne.symm ne_b101_b102) nin0))
      have f168 := (o1604.keep KK162 (ninS (Ne.symm ne_b101_b102) nin0))
      have f169 := (o1605.keep KK162 (ninS (Ne.symm ne_b101_b102) nin0))
      have f170 := (o160V.keep KK162 (ninS (Ne.symm ne_s_wo) nin0))
      have f171 := (o160U.keep KK162 (ninS (Ne.symm ne_s_lf) nin0))
      refine own_callV (y := (⟨"com/example/flowstate/flowstate/runtime/BlocksInTurn", "worker", "(I)I"⟩ : MethodName)) X163 hx hZ hown (hw _ (List.mem_of_getElem? (i := 23) rfl)) (hw _ (List.mem_of_getElem? (i := 24) rfl)) (hw _ (List.mem_of_getElem? (i := 26) rfl)) (hw _ (List.mem_of_getElem? (i := 25) rfl)) (hw _ (List.mem_of_getElem? (i := 4) rfl)) (hw _ (List.mem_of_getElem? (i := 27) rfl)) (by decide) (rmW l Z a0 hw [] b102 wo lf zW zS nx159 p163 ws159 ls159 T162.heap n0 (Nat.le_trans (Nat.le_trans (Nat.le_trans (Nat.le_trans (Nat.le_trans (Nat.le_trans (Nat.le_trans (Nat.le_trans (Nat.le_trans (Nat.le_trans (Nat.le_trans (Nat.le_trans (Nat.le_trans Zj2 E101.1) E102.1) KK104.1) KK107.1) KK110.1) KK120.1) KK123.1) KK133.1) KK136.1) KK146.1) KK149.1) KK159.1) KK162.1) ⟨f164, f165, f166, f167, f168, f169, f170, f171, ⟨(by simp [o160m]), (by simp [o160n])⟩, ⟨o160ga, o160gw, o160gl⟩, o160x, o160y, o160z⟩ hnW rp163.1 rp163.2) e163 f164 (W := 1) (by decide) (by decide) (by decide) (by decide) (g := (mkF m 269 #[.val (.int x0), .val (.int x1), .val (.int x2), .val (.int zW), .val (.int zS), .val (.ref b101), .val (.ref b102), .val (.int (1 : Int32)), .val (.int p163)] [(.int p163), (.ref b102), (.int (1 : Int32))])) rfl (by rw [hml]; rfl) (argsL := [(.int p163)]) (rest := [(.int (1 : Int32))]) rfl (lenOf pd_2 rfl) rfl (by show 2 * 0 + _ ≤ _; exact Nat.le_of_eq rfl) (hb hby at_269) ?_
      intro v172 T172 L172 hQ172 X172
      obtain ⟨ws172, ls172, nx172, rfl, NN172, KK172, hB172, el172, ew172, en172⟩ := hQ172
      have N172 := Fr.app N163 NN172
      obtain ⟨o173E, o1731, o1732, o1733, o1734, o1735, o173V, o173U, ⟨o173m, o173n⟩, ⟨o173ga, o173gw, o173gl⟩, o173x, o173y, o173z⟩ := hB172
      show own_Dn p e below s (fun v h L => v = some (.int 1) ∧ Fr n0 L) room_1.cells room_1.slots (T172.setTop (mkF m 272 #[.val (.int x0), .val (.int x1), .val (.int x2), .val (.int zW), .val (.int zS), .val (.ref b101), .val (.ref b102), .val (.int (1 : Int32)), .val (.int p163)] [(.int (ws172.getD p163.toNatClampNeg 0)), (.int (1 : Int32))]))
      refine own_st (q' := T172.setTop (mkF m 274 #[.val (.int x0), .val (.int x1), .val (.int x2), .val (.int zW), .val (.int zS), .val (.ref b101), .val (.ref b102), .val (.int (1 : Int32)), .val (.int p163)] [(.ref b101), (.int (ws172.getD p163.toNatClampNeg 0)), (.int (1 : Int32))])) (fun _ k => XS.aload X172.here hx rfl (hb hby at_272) rfl rfl k) ?_
      refine own_st (q' := T172.setTop (mkF m 276 #[.val (.int x0), .val (.int x1), .val (.int x2), .val (.int zW), .val (.int zS), .val (.ref b101), .val (.ref b102), .val (.int (1 : Int32)), .val (.int p163)] [(.int p163), (.ref b101), (.int (ws172.getD p163.toNatClampNeg 0)), (.int (1 : Int32))])) (fun _ k => XS.iload X172.here hx rfl (hb hby at_274) rfl k) ?_
      refine own_st (q' := T172.setTop (mkF m 278 #[.val (.int x0), .val (.int x1), .val (.int x2), .val (.int zW), .val (.int zS), .val (.ref b101), .val (.ref b102), .val (.int (1 : Int32)), .val (.int p163)] [(.int zS), (.int p163), (.ref b101), (.int (ws172.getD p163.toNatClampNeg 0)), (.int (1 : Int32))])) (fun _ k => XS.iload X172.here hx rfl (hb hby at_276) rfl k) ?_
      refine own_st (q' := T172.setTop (mkF m 279 #[.val (.int x0), .val (.int x1), .val (.int x2), .val (.int zW), .val (.int zS), .val (.ref b101), .val (.ref b102), .val (.int (1 : Int32)), .val (.int p163)] [(.int zW), (.int zS), (.int p163), (.ref b101), (.int (ws172.getD p163.toNatClampNeg 0)), (.int (1 : Int32))])) (fun _ k => XS.iloadN X172.here hx rfl (hb hby at_278) rfl k) ?_
      have f174 := (V162.keep KK172 (ninS ne_b101_b102 (ninS ne_s_wo (ninS ne_s_lf nin0))))
      refine own_callS (y := (⟨"com/example/flowstate/flowstate/runtime/BlocksInTurnWorkerPinLaw", "expected", "([IIII)I"⟩ : MethodName)) X172 hx hZ hown (hw _ (List.mem_of_getElem? (i := 30) rfl)) (hw _ (List.mem_of_getElem? (i := 31) rfl)) (hw _ (List.mem_of_getElem? (i := 21) rfl)) (hw _ (List.mem_of_getElem? (i := 32) rfl)) (by decide) (rmX l Z a0 hw [] b101 p163 zS zW st162 T172.heap n0 (Nat.le_trans (Nat.le_trans (Nat.le_trans (Nat.le_trans (Nat.le_trans (Nat.le_trans (Nat.le_trans (Nat.le_trans (Nat.le_trans (Nat.le_trans (Nat.le_trans (Nat.le_trans (Nat.le_trans (Nat.le_trans Zj2 E101.1) E102.1) KK104.1) KK107.1) KK110.1) KK120.1) KK123.1) KK133.1) KK136.1) KK146.1) KK149.1) KK159.1) KK162.1) KK172.1) f174 sl162 ge_b101 hnS hnW rp163.1 rp163.2) (rfl : T172.heap = T172.heap) (W := 2) (by decide) (by decide) (by decide) (by decide) (g := (mkF m 279 #[.val (.int x0), .val (.int x1), .val (.int x2), .val (.int zW), .val (.int zS), .val (.ref b101), .val (.ref b102), .val (.int (1 : Int32)), .val (.int p163)] [(.int zW), (.int zS), (.int p163), (.ref b101), (.int (ws172.getD p163.toNatClampNeg 0)), (.int (1 : Int32))])) rfl (by rw [hml]; rfl) (argsL := [(.ref b101), (.int p163), (.int zS), (.int zW)]) (rest := [(.int (ws172.getD p163.toNatClampNeg 0)), (.int (1 : Int32))]) rfl (lenOf pd_3 rfl) rfl (by show 2 * 0 + _ ≤ _; exact Nat.le_of_eq rfl) (hb hby at_279) ?_
      intro v175 T175 L175 hQ175 X175
      obtain ⟨st175, rfl, NN175, KK175, V175, sl175, es175⟩ := hQ175
      have N175 := Fr.app N172 NN175
      obtain ⟨Iv6, eq175⟩ := own_step (k := 5) (by decide) (by decide) hzW hzS o160m o160n Iv5 rp163.1 rp163.2 el172 ew172 en172 es175
      show own_Dn p e below s (fun v h L => v = some (.int 1) ∧ Fr n0 L) room_1.cells room_1.slots (T175.setTop (mkF m 282 #[.val (.int x0), .val (.int x1), .val (.int x2), .val (.int zW), .val (.int zS), .val (.ref b101), .val (.ref b102), .val (.int (1 : Int32)), .val (.int p163)] [(.int (st175.getD ((4 : Int32) + p163).toNatClampNeg 0 % zW + (1 : Int32))), (.int (ws172.getD p163.toNatClampNeg 0)), (.int (1 : Int32))]))
      refine own_st (q' := T175.setTop (mkF m 285 #[.val (.int x0), .val (.int x1), .val (.int x2), .val (.int zW), .val (.int zS), .val (.ref b101), .val (.ref b102), .val (.int (1 : Int32)), .val (.int p163)] [(.int (1 : Int32))])) (fun _ k => XS.icmpNo X175.here hx rfl (hb hby at_282) rfl (teq eq175).2 k) ?_
      refine own_st (q' := T175.setTop (mkF m 286 #[.val (.int x0), .val (.int x1), .val (.int x2), .val (.int zW), .val (.int zS), .val (.ref b101), .val (.ref b102), .val (.int (1 : Int32)), .val (.int p163)] [(.int (1 : Int32)), (.int (1 : Int32))])) (fun _ k => XS.iconst X175.here hx rfl (hb hby at_285) k) ?_
      refine own_st (q' := T175.setTop (mkF m 290 #[.val (.int x0), .val (.int x1), .val (.int x2), .val (.int zW), .val (.int zS), .val (.ref b101), .val (.ref b102), .val (.int (1 : Int32)), .val (.int p163)] [(.int (1 : Int32)), (.int (1 : Int32))])) (fun _ k => XS.goto X175.here hx rfl (pc0 := 286) (pc' := 290) rfl (hb hby at_286) (by decide) (by decide) k) ?_
      refine own_st (q' := T175.setTop (mkF m 291 #[.val (.int x0), .val (.int x1), .val (.int x2), .val (.int zW), .val (.int zS), .val (.ref b101), .val (.ref b102), .val (.int (1 : Int32)), .val (.int p163)] [(.int (1 : Int32))])) (fun _ k => XS.iand X175.here hx rfl (hb hby at_290) rfl k) ?_
      refine own_st (q' := T175.setTop (mkF m 293 #[.val (.int x0), .val (.int x1), .val (.int x2), .val (.int zW), .val (.int zS), .val (.ref b101), .val (.ref b102), .val (.int (1 : Int32)), .val (.int p163)] [])) (fun _ k => XS.istore X175.here hx rfl (hb hby at_291) rfl (l' := #[.val (.int x0), .val (.int x1), .val (.int x2), .val (.int zW), .val (.int zS), .val (.ref b101), .val (.ref b102), .val (.int (1 : Int32)), .val (.int p163)]) rfl k) ?_
      refine own_st (q' := T175.setTop (mkF m 294 #[.val (.int x0), .val (.int x1), .val (.int x2), .val (.int zW), .val (.int zS), .val (.ref b101), .val (.ref b102), .val (.int (1 : Int32)), .val (.int p163)] [(.int x2)])) (fun _ k => XS.iloadN X175.here hx rfl (hb hby at_293) rfl k) ?_
      refine own_st (q' := T175.setTop (mkF m 296 #[.val (.int x0), .val (.int x1), .val (.int x2), .val (.int zW), .val (.int zS), .val (.ref b101), .val (.ref b102), .val (.int (1 : Int32)), .val (.int p163)] [(.int (6 : Int32)), (.int x2)])) (fun _ k => XS.bipush X175.here hx rfl (hb hby at_294) k) ?_
      refine own_callS (y := (⟨"com/example/flowstate/flowstate/runtime/BlocksInTurnWorkerPinLaw", "part", "(II)I"⟩ : MethodName)) X175 hx hZ hown (hw _ (List.mem_of_getElem? (i := 19) rfl)) (hw _ (List.mem_of_getElem? (i := 20) rfl)) (hw _ (List.mem_of_getElem? (i := 21) rfl)) (hw _ (List.mem_of_getElem? (i := 22) rfl)) (by decide) (rmP l Z a0 hw [] x2 (6 : Int32) T175.heap n0 (Nat.le_trans (Nat.le_trans (Nat.le_trans (Nat.le_trans (Nat.le_trans (Nat.le_trans (Nat.le_trans (Nat.le_trans (Nat.le_trans (Nat.le_trans (Nat.le_trans (Nat.le_trans (Nat.le_trans (Nat.le_trans (Nat.le_trans Zj2 E101.1) E102.1) KK104.1) KK107.1) KK110.1) KK120.1) KK123.1) KK133.1) KK136.1) KK146.1) KK149.1) KK159.1) KK162.1) KK172.1) KK175.1)) (rfl : T175.heap = T175.heap) (W := 0) (by decide) (by decide) (by decide) (by decide) (g := (mkF m 296 #[.val (.int x0), .val (.int x1), .val (.int x2), .val (.int zW), .val (.int zS), .val (.ref b101), .val (.ref b102), .val (.int (1 : Int32)), .val (.int p163)] [(.int (6 : Int32)), (.int x2)])) rfl (by rw [hml]; rfl) (argsL := [(.int x2), (.int (6 : Int32))]) (rest := []) rfl (lenOf pd_1 rfl) rfl (by show 2 * 0 + _ ≤ _; exact Nat.le_of_eq rfl) (hb hby at_296) ?_
      intro v176 T176 L176 hQ176 X176
      obtain ⟨rfl, NN176, e176⟩ := hQ176
      have N176 := Fr.app N175 NN176
      have rp176 := own_part_r x2 (6 : Int32)
      generalize own_part x2 (6 : Int32) = p176 at rp176 ⊢
      show own_Dn p e below s (fun v h L => v = some (.int 1) ∧ Fr n0 L) room_1.cells room_1.slots (T176.setTop (mkF m 299 #[.val (.int x0), .val (.int x1), .val (.int x2), .val (.int zW), .val (.int zS), .val (.ref b101), .val (.ref b102), .val (.int (1 : Int32)), .val (.int p163)] [(.int p176)]))
      refine own_st (q' := T176.setTop (mkF m 301 #[.val (.int x0), .val (.int x1), .val (.int x2), .val (.int zW), .val (.int zS), .val (.ref b101), .val (.ref b102), .val (.int (1 : Int32)), .val (.int p176)] [])) (fun _ k => XS.istore X176.here hx rfl (hb hby at_299) rfl (l' := #[.val (.int x0), .val (.int x1), .val (.int x2), .val (.int zW), .val (.int zS), .val (.ref b101), .val (.ref b102), .val (.int (1 : Int32)), .val (.int p176)]) rfl k) ?_
      refine own_st (q' := T176.setTop (mkF m 303 #[.val (.int x0), .val (.int x1), .val (.int x2), .val (.int zW), .val (.int zS), .val (.ref b101), .val (.ref b102), .val (.int (1 : Int32)), .val (.int p176)] [(.int (1 : Int32))])) (fun _ k => XS.iload X176.here hx rfl (hb hby at_301) rfl k) ?_
      refine own_st (q' := T176.setTop (mkF m 305 #[.val (.int x0), .val (.int x1), .val (.int x2), .val (.int zW), .val (.int zS), .val (.ref b101), .val (.ref b102), .val (.int (1 : Int32)), .val (.int p176)] [(.ref b102), (.int (1 : Int32))])) (fun _ k => XS.aload X176.here hx rfl (hb hby at_303) rfl rfl k) ?_
      refine own_st (q' := T176.setTop (mkF m 307 #[.val (.int x0), .val (.int x1), .val (.int x2), .val (.int zW), .val (.int zS), .val (.ref b101), .val (.ref b102), .val (.int (1 : Int32)), .val (.int p176)] [(.int p176), (.ref b102), (.int (1 : Int32))])) (fun _ k => XS.iload X176.here hx rfl (hb hby at_305) rfl k) ?_
      have f177 := (o173E.keep KK175)
      have f178 := (o1731.keep KK175 (ninS (Ne.symm ne_b101_b102) nin0))
      have f179 := (o1732.keep KK175 (ninS (Ne.symm ne_b101_b102) nin0))
      have f180 := (o1733.keep KK175 (ninS (Ne.symm ne_b101_b102) nin0))
      have f181 := (o1734.keep KK175 (ninS (Ne.symm ne_b101_b102) nin0))
      have f182 := (o1735.keep KK175 (ninS (Ne.symm ne_b101_b102) nin0))
      have f183 := (o173V.keep KK175 (ninS (Ne.symm ne_s_wo) nin0))
      have f184 := (o173U.keep KK175 (ninS (Ne.symm ne_s_lf) nin0))
      refine own_callV (y := (⟨"com/example/flowstate/flowstate/runtime/BlocksInTurn", "worker", "(I)I"⟩ : MethodName)) X176 hx hZ hown (hw _ (List.mem_of_getElem? (i := 23) rfl)) (hw _ (List.mem_of_getElem? (i := 24) rfl)) (hw _ (List.mem_of_getElem? (i := 26) rfl)) (hw _ (List.mem_of_getElem? (i := 25) rfl)) (hw _ (List.mem_of_getElem? (i := 4) rfl)) (hw _ (List.mem_of_getElem? (i := 27) rfl)) (by decide) (rmW l Z a0 hw [] b102 wo lf zW zS nx172 p176 ws172 ls172 T175.heap n0 (Nat.le_trans (Nat.le_trans (Nat.le_trans (Nat.le_trans (Nat.le_trans (Nat.le_trans (Nat.le_trans (Nat.le_trans (Nat.le_trans (Nat.le_trans (Nat.le_trans (Nat.le_trans (Nat.le_trans (Nat.le_trans (Nat.le_trans Zj2 E101.1) E102.1) KK104.1) KK107.1) KK110.1) KK120.1) KK123.1) KK133.1) KK136.1) KK146.1) KK149.1) KK159.1) KK162.1) KK172.1) KK175.1) ⟨f177, f178, f179, f180, f181, f182, f183, f184, ⟨(by simp [o173m]), (by simp [o173n])⟩, ⟨o173ga, o173gw, o173gl⟩, o173x, o173y, o173z⟩ hnW rp176.1 rp176.2) e176 f177 (W := 1) (by decide) (by decide) (by decide) (by decide) (g := (mkF m 307 #[.val (.int x0), .val (.int x1), .val (.int x2), .val (.int zW), .val (.int zS), .val (.ref b101), .val (.ref b102), .val (.int (1 : Int32)), .val (.int p176)] [(.int p176), (.ref b102), (.int (1 : Int32))])) rfl (by rw [hml]; rfl) (argsL := [(.int p176)]) (rest := [(.int (1 : Int32))]) rfl (lenOf pd_2 rfl) rfl (by show 2 * 0 + _ ≤ _; exact Nat.le_of_eq rfl) (hb hby at_307) ?_
      intro v185 T185 L185 hQ185 X185
      obtain ⟨ws185, ls185, nx185, rfl, NN185, KK185, hB185, el185, ew185, en185⟩ := hQ185
      have N185 := Fr.app N176 NN185
      obtain ⟨o186E, o1861, o1862, o1863, o1864, o1865, o186V, o186U, ⟨o186m, o186n⟩, ⟨o186ga, o186gw, o186gl⟩, o186x, o186y, o186z⟩ := hB185
      show own_Dn p e below s (fun v h L => v = some (.int 1) ∧ Fr n0 L) room_1.cells room_1.slots (T185.setTop (mkF m 310 #[.val (.int x0), .val (.int x1), .val (.int x2), .val (.int zW), .val (.int zS), .val (.ref b101), .val (.ref b102), .val (.int (1 : Int32)), .val (.int p176)] [(.int (ws185.getD p176.toNatClampNeg 0)), (.int (1 : Int32))]))
      refine own_st (q' := T185.setTop (mkF m 312 #[.val (.int x0), .val (.int x1), .val (.int x2), .val (.int zW), .val (.int zS), .val (.ref b101), .val (.ref b102), .val (.int (1 : Int32)), .val (.int p176)] [(.ref b101), (.int (ws185.getD p176.toNatClampNeg 0)), (.int (1 : Int32))])) (fun _ k => XS.aload X185.here hx rfl (hb hby at_310) rfl rfl k) ?_
      refine own_st (q' := T185.setTop (mkF m 314 #[.val (.int x0), .val (.int x1), .val (.int x2), .val (.int zW), .val (.int zS), .val (.ref b101), .val (.ref b102), .val (.int (1 : Int32)), .val (.int p176)] [(.int p176), (.ref b101), (.int (ws185.getD p176.toNatClampNeg 0)), (.int (1 : Int32))])) (fun _ k => XS.iload X185.here hx rfl (hb hby at_312) rfl k) ?_
      refine own_st (q' := T185.setTop (mkF m 316 #[.val (.int x0), .val (.int x1), .val (.int x2), .val (.int zW), .val (.int zS), .val (.ref b101), .val (.ref b102), .val (.int (1 : Int32)), .val (.int p176)] [(.int zS), (.int p176), (.ref b101), (.int (ws185.getD p176.toNatClampNeg 0)), (.int (1 : Int32))])) (fun _ k => XS.iload X185.here hx rfl (hb hby at_314) rfl k) ?_
      refine own_st (q' := T185.setTop (mkF m 317 #[.val (.int x0), .val (.int x1), .val (.int x2), .val (.int zW), .val (.int zS), .val (.ref b101), .val (.ref b102), .val (.int (1 : Int32)), .val (.int p176)] [(.int zW), (.int zS), (.int p176), (.ref b101), (.int (ws185.getD p176.toNatClampNeg 0)), (.int (1 : Int32))])) (fun _ k => XS.iloadN X185.here hx rfl (hb hby at_316) rfl k) ?_
      have f187 := (V175.keep KK185 (ninS ne_b101_b102 (ninS ne_s_wo (ninS ne_s_lf nin0))))
      refine own_callS (y := (⟨"com/example/flowstate/flowstate/runtime/BlocksInTurnWorkerPinLaw", "expected", "([IIII)I"⟩ : MethodName)) X185 hx hZ hown (hw _ (List.mem_of_getElem? (i := 30) rfl)) (hw _ (List.mem_of_getElem? (i := 31) rfl)) (hw _ (List.mem_of_getElem? (i := 21) rfl)) (hw _ (List.mem_of_getElem? (i := 32) rfl)) (by decide) (rmX l Z a0 hw [] b101 p176 zS zW st175 T185.heap n0 (Nat.le_trans (Nat.le_trans (Nat.le_trans (Nat.le_trans (Nat.le_trans (Nat.le_trans (Nat.le_trans (Nat.le_trans (Nat.le_trans (Nat.le_trans (Nat.le_trans (Nat.le_trans (Nat.le_trans (Nat.le_trans (Nat.le_trans (Nat.le_trans Zj2 E101.1) E102.1) KK104.1) KK107.1) KK110.1) KK120.1) KK123.1) KK133.1) KK136.1) KK146.1) KK149.1) KK159.1) KK162.1) KK172.1) KK175.1) KK185.1) f187 sl175 ge_b101 hnS hnW rp176.1 rp176.2) (rfl : T185.heap = T185.heap) (W := 2) (by decide) (by decide) (by decide) (by decide) (g := (mkF m 317 #[.val (.int x0), .val (.int x1), .val (.int x2), .val (.int zW), .val (.int zS), .val (.ref b101), .val (.ref b102), .val (.int (1 : Int32)), .val (.int p176)] [(.int zW), (.int zS), (.int p176), (.ref b101), (.int (ws185.getD p176.toNatClampNeg 0)), (.int (1 : Int32))])) rfl (by rw [hml]; rfl) (argsL := [(.ref b101), (.int p176), (.int zS), (.int zW)]) (rest := [(.int (ws185.getD p176.toNatClampNeg 0)), (.int (1 : Int32))]) rfl (lenOf pd_3 rfl) rfl (by show 2 * 0 + _ ≤ _; exact Nat.le_of_eq rfl) (hb hby at_317) ?_
      intro v188 T188 L188 hQ188 X188
      obtain ⟨st188, rfl, NN188, KK188, V188, sl188, es188⟩ := hQ188
      have N188 := Fr.app N185 NN188
      obtain ⟨Iv7, eq188⟩ := own_step (k := 6) (by decide) (by decide) hzW hzS o173m o173n Iv6 rp176.1 rp176.2 el185 ew185 en185 es188
      show own_Dn p e below s (fun v h L => v = some (.int 1) ∧ Fr n0 L) room_1.cells room_1.slots (T188.setTop (mkF m 320 #[.val (.int x0), .val (.int x1), .val (.int x2), .val (.int zW), .val (.int zS), .val (.ref b101), .val (.ref b102), .val (.int (1 : Int32)), .val (.int p176)] [(.int (st188.getD ((4 : Int32) + p176).toNatClampNeg 0 % zW + (1 : Int32))), (.int (ws185.getD p176.toNatClampNeg 0)), (.int (1 : Int32))]))
      refine own_st (q' := T188.setTop (mkF m 323 #[.val (.int x0), .val (.int x1), .val (.int x2), .val (.int zW), .val (.int zS), .val (.ref b101), .val (.ref b102), .val (.int (1 : Int32)), .val (.int p176)] [(.int (1 : Int32))])) (fun _ k => XS.icmpNo X188.here hx rfl (hb hby at_320) rfl (teq eq188).2 k) ?_
      refine own_st (q' := T188.setTop (mkF m 324 #[.val (.int x0), .val (.int x1), .val (.int x2), .val (.int zW), .val (.int zS), .val (.ref b101), .val (.ref b102), .val (.int (1 : Int32)), .val (.int p176)] [(.int (1 : Int32)), (.int (1 : Int32))])) (fun _ k => XS.iconst X188.here hx rfl (hb hby at_323) k) ?_
      refine own_st (q' := T188.setTop (mkF m 328 #[.val (.int x0), .val (.int x1), .val (.int x2), .val (.int zW), .val (.int zS), .val (.ref b101), .val (.ref b102), .val (.int (1 : Int32)), .val (.int p176)] [(.int (1 : Int32)), (.int (1 : Int32))])) (fun _ k => XS.goto X188.here hx rfl (pc0 := 324) (pc' := 328) rfl (hb hby at_324) (by decide) (by decide) k) ?_
      refine own_st (q' := T188.setTop (mkF m 329 #[.val (.int x0), .val (.int x1), .val (.int x2), .val (.int zW), .val (.int zS), .val (.ref b101), .val (.ref b102), .val (.int (1 : Int32)), .val (.int p176)] [(.int (1 : Int32))])) (fun _ k => XS.iand X188.here hx rfl (hb hby at_328) rfl k) ?_
      refine own_st (q' := T188.setTop (mkF m 331 #[.val (.int x0), .val (.int x1), .val (.int x2), .val (.int zW), .val (.int zS), .val (.ref b101), .val (.ref b102), .val (.int (1 : Int32)), .val (.int p176)] [])) (fun _ k => XS.istore X188.here hx rfl (hb hby at_329) rfl (l' := #[.val (.int x0), .val (.int x1), .val (.int x2), .val (.int zW), .val (.int zS), .val (.ref b101), .val (.ref b102), .val (.int (1 : Int32)), .val (.int p176)]) rfl k) ?_
      refine own_st (q' := T188.setTop (mkF m 333 #[.val (.int x0), .val (.int x1), .val (.int x2), .val (.int zW), .val (.int zS), .val (.ref b101), .val (.ref b102), .val (.int (1 : Int32)), .val (.int p176)] [(.int (1 : Int32))])) (fun _ k => XS.iload X188.here hx rfl (hb hby at_331) rfl k) ?_
      exact own_retN X188 hx hlk (t := .boolean) hret (by simp) (hb hby at_333) (rfl : T188.heap = T188.heap) (by exact ⟨rfl, N188⟩) (by decide) (by decide)
    by_cases hc28_189 : (x1 &&& (1073741824 : Int32)) = (0 : Int32)
    · skip
      have hc28_189I : ((x1 &&& (1073741824 : Int32))).toInt = (0 : Int) := own_eqT hc28_189
      refine own_st (q' := Tj1.setTop (mkF m 42 #[.val (.int x0), .val (.int x1), .val (.int x2), .val (.int zW), .unset, .unset, .unset, .unset, .unset] [])) (fun _ k => XS.ifYes Xj1.here hx rfl (pc0 := 28) (pc' := 42) rfl (hb hby at_28) rfl ((if0 _ _).trans (teq hc28_189).1) (by decide) (by decide) k) ?_
      refine own_st (q' := Tj1.setTop (mkF m 43 #[.val (.int x0), .val (.int x1), .val (.int x2), .val (.int zW), .unset, .unset, .unset, .unset, .unset] [(.int (1 : Int32))])) (fun _ k => XS.iconst Xj1.here hx rfl (hb hby at_42) k) ?_
      refine own_st (q' := Tj1.setTop (mkF m 44 #[.val (.int x0), .val (.int x1), .val (.int x2), .val (.int zW), .unset, .unset, .unset, .unset, .unset] [(.int x1), (.int (1 : Int32))])) (fun _ k => XS.iloadN Xj1.here hx rfl (hb hby at_43) rfl k) ?_
      refine own_st (q' := Tj1.setTop (mkF m 45 #[.val (.int x0), .val (.int x1), .val (.int x2), .val (.int zW), .unset, .unset, .unset, .unset, .unset] [(.int (3 : Int32)), (.int x1), (.int (1 : Int32))])) (fun _ k => XS.iconst Xj1.here hx rfl (hb hby at_44) k) ?_
      refine own_st (q' := Tj1.setTop (mkF m 46 #[.val (.int x0), .val (.int x1), .val (.int x2), .val (.int zW), .unset, .unset, .unset, .unset, .unset] [(.int (x1 &&& (3 : Int32))), (.int (1 : Int32))])) (fun _ k => XS.iand Xj1.here hx rfl (hb hby at_45) rfl k) ?_
      refine own_st (q' := Tj1.setTop (mkF m 47 #[.val (.int x0), .val (.int x1), .val (.int x2), .val (.int zW), .unset, .unset, .unset, .unset, .unset] [(.int ((1 : Int32) + (x1 &&& (3 : Int32))))])) (fun _ k => XS.iadd Xj1.here hx rfl (hb hby at_46) rfl k) ?_
      exact jj2 Tj1 hj1 _ Xj1 ej1 Nj1 Zj1 ((1 : Int32) + (x1 &&& (3 : Int32))) (by unfold own_sel; rw [if_pos hc28_189])
    · skip
      have hc28_189I : ¬ ((x1 &&& (1073741824 : Int32))).toInt = (0 : Int) := own_eqF hc28_189
      refine own_st (q' := Tj1.setTop (mkF m 31 #[.val (.int x0), .val (.int x1), .val (.int x2), .val (.int zW), .unset, .unset, .unset, .unset, .unset] [])) (fun _ k => XS.ifNo Xj1.here hx rfl (hb hby at_28) rfl ((if0 _ _).trans (feq hc28_189).1) k) ?_
      refine own_st (q' := Tj1.setTop (mkF m 32 #[.val (.int x0), .val (.int x1), .val (.int x2), .val (.int zW), .unset, .unset, .unset, .unset, .unset] [(.int (1 : Int32))])) (fun _ k => XS.iconst Xj1.here hx rfl (hb hby at_31) k) ?_
      refine own_st (q' := Tj1.setTop (mkF m 33 #[.val (.int x0), .val (.int x1), .val (.int x2), .val (.int zW), .unset, .unset, .unset, .unset, .unset] [(.int x1), (.int (1 : Int32))])) (fun _ k => XS.iloadN Xj1.here hx rfl (hb hby at_32) rfl k) ?_
      refine own_st (q' := Tj1.setTop (mkF m 35 #[.val (.int x0), .val (.int x1), .val (.int x2), .val (.int zW), .unset, .unset, .unset, .unset, .unset] [(.int (2147483647 : Int32)), (.int x1), (.int (1 : Int32))])) (fun _ k => Xj1.ldcInt hx hown (mvT hZ (hw _ (List.mem_of_getElem? (i := 33) rfl))) (g := (mkF m 33 #[.val (.int x0), .val (.int x1), .val (.int x2), .val (.int zW), .unset, .unset, .unset, .unset, .unset] [(.int x1), (.int (1 : Int32))])) rfl (hb hby at_33) _ k) ?_
      refine own_st (q' := Tj1.setTop (mkF m 36 #[.val (.int x0), .val (.int x1), .val (.int x2), .val (.int zW), .unset, .unset, .unset, .unset, .unset] [(.int (x1 &&& (2147483647 : Int32))), (.int (1 : Int32))])) (fun _ k => XS.iand Xj1.here hx rfl (hb hby at_35) rfl k) ?_
      refine own_callS (y := (⟨"java/lang/Math", "max", "(II)I"⟩ : MethodName)) Xj1 hx hZ hown (hw _ (List.mem_of_getElem? (i := 34) rfl)) (hw _ (List.mem_of_getElem? (i := 35) rfl)) (hw _ (List.mem_of_getElem? (i := 36) rfl)) (hw _ (List.mem_of_getElem? (i := 37) rfl)) (by decide) (rmM l Z a0 hw [] (1 : Int32) (x1 &&& (2147483647 : Int32)) hj1 n0 Zj1) ej1 (W := 0) (by decide) (by decide) (by decide) (by decide) (g := (mkF m 36 #[.val (.int x0), .val (.int x1), .val (.int x2), .val (.int zW), .unset, .unset, .unset, .unset, .unset] [(.int (x1 &&& (2147483647 : Int32))), (.int (1 : Int32))])) rfl (by rw [hml]; rfl) (argsL := [(.int (1 : Int32)), (.int (x1 &&& (2147483647 : Int32)))]) (rest := []) rfl (lenOf pd_1 rfl) rfl (by show 2 * 0 + _ ≤ _; exact Nat.le_of_eq rfl) (hb hby at_36) ?_
      intro v190 T190 L190 hQ190 X190
      obtain ⟨rfl, NN190, e190⟩ := hQ190
      have N190 := Fr.app Nj1 NN190
      show own_Dn p e below s (fun v h L => v = some (.int 1) ∧ Fr n0 L) room_1.cells room_1.slots (T190.setTop (mkF m 39 #[.val (.int x0), .val (.int x1), .val (.int x2), .val (.int zW), .unset, .unset, .unset, .unset, .unset] [(.int (own_max (1 : Int32) (x1 &&& (2147483647 : Int32))))]))
      refine own_st (q' := T190.setTop (mkF m 47 #[.val (.int x0), .val (.int x1), .val (.int x2), .val (.int zW), .unset, .unset, .unset, .unset, .unset] [(.int (own_max (1 : Int32) (x1 &&& (2147483647 : Int32))))])) (fun _ k => XS.goto X190.here hx rfl (pc0 := 39) (pc' := 47) rfl (hb hby at_39) (by decide) (by decide) k) ?_
      exact jj2 T190 hj1 _ X190 e190 N190 Zj1 (own_max (1 : Int32) (x1 &&& (2147483647 : Int32))) (by unfold own_sel; rw [if_neg hc28_189])
  by_cases hc4_191 : (x0 &&& (1073741824 : Int32)) = (0 : Int32)
  · skip
    have hc4_191I : ((x0 &&& (1073741824 : Int32))).toInt = (0 : Int) := own_eqT hc4_191
    refine own_st (q' := s₁.setTop (mkF m 18 #[.val (.int x0), .val (.int x1), .val (.int x2), .unset, .unset, .unset, .unset, .unset, .unset] [])) (fun _ k => XS.ifYes X0.here hx rfl (pc0 := 4) (pc' := 18) rfl (hb hby at_4) rfl ((if0 _ _).trans (teq hc4_191).1) (by decide) (by decide) k) ?_
    refine own_st (q' := s₁.setTop (mkF m 19 #[.val (.int x0), .val (.int x1), .val (.int x2), .unset, .unset, .unset, .unset, .unset, .unset] [(.int (1 : Int32))])) (fun _ k => XS.iconst X0.here hx rfl (hb hby at_18) k) ?_
    refine own_st (q' := s₁.setTop (mkF m 20 #[.val (.int x0), .val (.int x1), .val (.int x2), .unset, .unset, .unset, .unset, .unset, .unset] [(.int x0), (.int (1 : Int32))])) (fun _ k => XS.iloadN X0.here hx rfl (hb hby at_19) rfl k) ?_
    refine own_st (q' := s₁.setTop (mkF m 21 #[.val (.int x0), .val (.int x1), .val (.int x2), .unset, .unset, .unset, .unset, .unset, .unset] [(.int (3 : Int32)), (.int x0), (.int (1 : Int32))])) (fun _ k => XS.iconst X0.here hx rfl (hb hby at_20) k) ?_
    refine own_st (q' := s₁.setTop (mkF m 22 #[.val (.int x0), .val (.int x1), .val (.int x2), .unset, .unset, .unset, .unset, .unset, .unset] [(.int (x0 &&& (3 : Int32))), (.int (1 : Int32))])) (fun _ k => XS.iand X0.here hx rfl (hb hby at_21) rfl k) ?_
    refine own_st (q' := s₁.setTop (mkF m 23 #[.val (.int x0), .val (.int x1), .val (.int x2), .unset, .unset, .unset, .unset, .unset, .unset] [(.int ((1 : Int32) + (x0 &&& (3 : Int32))))])) (fun _ k => XS.iadd X0.here hx rfl (hb hby at_22) rfl k) ?_
    exact jj1 s₁ h0 _ X0 e0 N0 Z0 ((1 : Int32) + (x0 &&& (3 : Int32))) (by unfold own_sel; rw [if_pos hc4_191])
  · skip
    have hc4_191I : ¬ ((x0 &&& (1073741824 : Int32))).toInt = (0 : Int) := own_eqF hc4_191
    refine own_st (q' := s₁.setTop (mkF m 7 #[.val (.int x0), .val (.int x1), .val (.int x2), .unset, .unset, .unset, .unset, .unset, .unset] [])) (fun _ k => XS.ifNo X0.here hx rfl (hb hby at_4) rfl ((if0 _ _).trans (feq hc4_191).1) k) ?_
    refine own_st (q' := s₁.setTop (mkF m 8 #[.val (.int x0), .val (.int x1), .val (.int x2), .unset, .unset, .unset, .unset, .unset, .unset] [(.int (1 : Int32))])) (fun _ k => XS.iconst X0.here hx rfl (hb hby at_7) k) ?_
    refine own_st (q' := s₁.setTop (mkF m 9 #[.val (.int x0), .val (.int x1), .val (.int x2), .unset, .unset, .unset, .unset, .unset, .unset] [(.int x0), (.int (1 : Int32))])) (fun _ k => XS.iloadN X0.here hx rfl (hb hby at_8) rfl k) ?_
    refine own_st (q' := s₁.setTop (mkF m 11 #[.val (.int x0), .val (.int x1), .val (.int x2), .unset, .unset, .unset, .unset, .unset, .unset] [(.int (2147483647 : Int32)), (.int x0), (.int (1 : Int32))])) (fun _ k => X0.ldcInt hx hown (mvT hZ (hw _ (List.mem_of_getElem? (i := 33) rfl))) (g := (mkF m 9 #[.val (.int x0), .val (.int x1), .val (.int x2), .unset, .unset, .unset, .unset, .unset, .unset] [(.int x0), (.int (1 : Int32))])) rfl (hb hby at_9) _ k) ?_
    refine own_st (q' := s₁.setTop (mkF m 12 #[.val (.int x0), .val (.int x1), .val (.int x2), .unset, .unset, .unset, .unset, .unset, .unset] [(.int (x0 &&& (2147483647 : Int32))), (.int (1 : Int32))])) (fun _ k => XS.iand X0.here hx rfl (hb hby at_11) rfl k) ?_
    refine own_callS (y := (⟨"java/lang/Math", "max", "(II)I"⟩ : MethodName)) X0 hx hZ hown (hw _ (List.mem_of_getElem? (i := 34) rfl)) (hw _ (List.mem_of_getElem? (i := 35) rfl)) (hw _ (List.mem_of_getElem? (i := 36) rfl)) (hw _ (List.mem_of_getElem? (i := 37) rfl)) (by decide) (rmM l Z a0 hw [] (1 : Int32) (x0 &&& (2147483647 : Int32)) h0 n0 Z0) e0 (W := 0) (by decide) (by decide) (by decide) (by decide) (g := (mkF m 12 #[.val (.int x0), .val (.int x1), .val (.int x2), .unset, .unset, .unset, .unset, .unset, .unset] [(.int (x0 &&& (2147483647 : Int32))), (.int (1 : Int32))])) rfl (by rw [hml]; rfl) (argsL := [(.int (1 : Int32)), (.int (x0 &&& (2147483647 : Int32)))]) (rest := []) rfl (lenOf pd_1 rfl) rfl (by show 2 * 0 + _ ≤ _; exact Nat.le_of_eq rfl) (hb hby at_12) ?_
    intro v192 T192 L192 hQ192 X192
    obtain ⟨rfl, NN192, e192⟩ := hQ192
    have N192 := Fr.app N0 NN192
    show own_Dn p e below s (fun v h L => v = some (.int 1) ∧ Fr n0 L) room_1.cells room_1.slots (T192.setTop (mkF m 15 #[.val (.int x0), .val (.int x1), .val (.int x2), .unset, .unset, .unset, .unset, .unset, .unset] [(.int (own_max (1 : Int32) (x0 &&& (2147483647 : Int32))))]))
    refine own_st (q' := T192.setTop (mkF m 23 #[.val (.int x0), .val (.int x1), .val (.int x2), .unset, .unset, .unset, .unset, .unset, .unset] [(.int (own_max (1 : Int32) (x0 &&& (2147483647 : Int32))))])) (fun _ k => XS.goto X192.here hx rfl (pc0 := 15) (pc' := 23) rfl (hb hby at_15) (by decide) (by decide) k) ?_
    exact jj1 T192 h0 _ X192 e192 N192 Z0 (own_max (1 : Int32) (x0 &&& (2147483647 : Int32))) (by unfold own_sel; rw [if_neg hc4_191])
set_option maxRecDepth 65536 in
set_option maxHeartbeats 40000000 in
theorem comes_1 {Post : Tables → Env → Array Value → State → Outcome → State → Prop} (hpost : ∀ tb e args s v u, (limb_1_1.after args s (.returned v) u = true ∧ limb_1_2.after args s (.returned v) u = true ∧ True) → FrameEnd s (.returned v) u (Jvm.fieldLocs frame_1_writes args s ++ Jvm.arrayLocs frame_1_arrays args s ++ Jvm.staticLocs frame_1_statics s) 16 128 → Post tb e args s (.returned v) u) :
    ArmFor flags0 classFile x code maxLocals ret World_1 tables_1 room_1 Calls_1 rest_1 Pre_1 Post := by
  intro l hfl _ _ p e ha hc hk s m args below hf hA hF happ hP
  obtain ⟨hcalls, hrest, hpre⟩ := hP
  obtain ⟨-, -, -, hnamed, -, -, -, hat⟩ := (Spec.applies_iff hf).mp happ
  obtain ⟨hg, hn⟩ := and_e (Cond.before_iff.mp (show (Jvm.Cond.and given_1 narrow_1).before args s = true from hpre))
  obtain ⟨hcount, g0⟩ := and_e hg
  obtain ⟨hi0, g1⟩ := and_e g0
  obtain ⟨hi1, g2⟩ := and_e g1
  have hi2 := g2
  obtain ⟨w0, w1, w2, rfl⟩ : ∃ w0 w1 w2 : Value, args = #[w0, w1, w2] := by
    have hs : args.size = 3 := by simpa [Cond.value, given_1] using hcount
    obtain ⟨L⟩ := args
    match L, hs with
    | [w0, w1, w2], _ => exact ⟨w0, w1, w2, rfl⟩
  have hw := fun d (hd : d ∈ tables_1) => atoms_spec (ws := Jvm.Cond.code x code maxLocals ret :: tables_1) hat d (List.mem_cons_of_mem _ hd)
  have hfit : Fit s := fun {y c} hc i hi => by
    obtain ⟨ha, rfl⟩ := Array.getElem?_eq_some_iff.mp hc
    have q := List.all_eq_true.mp ((Array.all_eq_true_iff_forall_mem.mp hF) _ (Array.getElem_mem ha)) i (List.mem_range.mpr hi)
    simpa [Array.getElem?_eq_getElem hi] using q
  obtain ⟨i0, ei0⟩ := is_v hi0
  obtain rfl : w0 = (.int i0) := Option.some.inj ei0
  obtain ⟨i1, ei1⟩ := is_v hi1
  obtain rfl : w1 = (.int i1) := Option.some.inj ei1
  obtain ⟨i2, ei2⟩ := is_v hi2
  obtain rfl : w2 = (.int i2) := Option.some.inj ei2
  obtain ⟨n, o, h1, h2, h3, _, L, rfl, ⟨rfl, N⟩, hq⟩ := rm0 l s _ hw tables_1 i0 i1 i2 s.heap s.heap.size (Nat.le_refl _) p e ha hc hk s m _ below hf ((Spec.applies_iff_loose hf).mp happ).1 ⟨rfl, State.Warmed39.refl s, rfl⟩ trivial
  refine ⟨n, _, h1, h2, h3, hpost _ _ _ _ _ _ ⟨Cond.after_iff.mpr rfl, Cond.after_iff.mpr (eq_i res_at (Term.int_eval (1)) rfl), trivial⟩ ⟨hq.1, hq.2.1, (hq.2.2.sift fun y hy => Or.inr (N y hy)).mono (by decide) (by decide)⟩⟩
theorem main_1_1 : Claimed_1_1 := comes_1 fun _ _ _ _ _ _ h hF => ⟨h.1, hF⟩
theorem main_1_2 : Claimed_1_2 := comes_1 fun _ _ _ _ _ _ h hF => ⟨h.2.1, hF⟩
end Jvm.Pilot.@@N@@
namespace Jvm.Pilot.@@N@@
open Jvm Jvm.ClassFile Sem Op Lib Jvm.Free Jvm.Stand Jvm.Pilot.@@N@@.Jvm.D
/-! MADE BY PROGRAM (witnessworld.py) out of the Statement's table words and the real class files: 10 classes; the members and pool entries that the words name. The judged class is class 1, her method 3. -/
namespace start1
open Jvm.ClassFile
def u (s : String) : CpInfo := .utf8 (stringToUtf16 s)
/-- a pool by its gaps: so many unusable entries, then the entry; so many at the end -/
def gap : Nat → List CpInfo → List CpInfo
  | 0, r => r
  | n + 1, r => .unusable :: gap n r
def poolList (es : List (Nat × CpInfo)) (last : Nat) : List CpInfo := es.foldr (fun e r => gap e.1 (e.2 :: r)) (gap last [])
def pool (es : List (Nat × CpInfo)) (last : Nat) : Array CpInfo := ⟨poolList es last⟩
def fileOf (pool : Array CpInfo) (this : Nat) (attrs : Array Attribute := #[]) (ms : Array MethodInfo := #[]) (fl : Nat := 33) (sup : Nat := 0) (ifs : Array Nat := #[]) (fds : Array FieldInfo := #[]) : ClassFile where
  minorVersion := 0
  majorVersion := 65
  constantPool := pool
  accessFlags := fl
  thisClass := this
  superClass := sup
  interfaces := ifs
  fields := fds
  methods := ms
  attributes := attrs
def plain (name : String) (sup : Option ClassId) : Class where
  name := name
  kind := .ordinary
  loader := none
  accessFlags := 33
  super := sup
  interfaces := #[]
  cf := none
  fields := #[]
  methods := #[]
  instanceTypes := #[]
  staticTypes := #[]
  resolved := #[]
  callSites := []
  init := .initialized
  statics := none
  mirror := none

def pool0 : Array CpInfo := pool [(5, u "<init>"), (0, u "()V"), (1, .class_ 10), (1, u "java/lang/Object")] 113

def k0c0 : Code := { maxStack := 0, maxLocals := 1, code := object_method_1_code, exceptionTable := #[], attributes := #[] }
def k0m0 : Method := { name := "<init>", desc := "()V", sig := { parameters := [], returnType := none }, accessFlags := 1, code := some k0c0 }
/-- java/lang/Object -/
def k0 : Class := { plain "java/lang/Object" none with
  accessFlags := 33
  interfaces := #[]
  cf := some (fileOf pool0 8 #[] #[{ accessFlags := 1, nameIndex := 5, descriptorIndex := 6, attributes := #[] }] 33 0 #[] #[])
  fields := #[]
  methods := #[k0m0]
  instanceTypes := #[]
  staticTypes := #[]
  resolved := Array.replicate 124 none
  statics := none }

def pool1 : Array CpInfo := pool [(2, .class_ 4), (1, u "java/lang/Object"), (0, u "<init>"), (0, u "()V"), (0, .integer 1073741824), (0, .integer 2147483647), (0, .methodref 10 11), (0, .class_ 12), (0, .nameAndType 13 14), (0, u "java/lang/Math"), (0, u "max"), (0, u "(II)I"), (0, .class_ 16), (0, u "com/example/flowstate/flowstate/runtime/BlocksInTurn"), (0, .methodref 15 18), (0, .nameAndType 5 19), (0, u "(III)V"), (0, .methodref 21 22), (0, .class_ 23), (0, .nameAndType 24 14), (0, u "com/example/flowstate/flowstate/runtime/BlocksInTurnWorkerPinLaw"), (0, u "part"), (0, .methodref 15 26), (0, .nameAndType 27 28), (0, u "worker"), (0, u "(I)I"), (0, .methodref 21 30), (0, .nameAndType 31 32), (0, u "expected"), (0, u "([IIII)I"), (3, u "law"), (0, u "(III)Z")] 4

def k1m0 : Method := { name := "<init>", desc := "()V", sig := { parameters := [], returnType := none }, accessFlags := 2, code := none }
def k1c1 : Code := { maxStack := 5, maxLocals := 4, code := method_2_code, exceptionTable := #[], attributes := #[] }
def k1m1 : Method := { name := "expected", desc := "([IIII)I", sig := { parameters := [(.array .int), .int, .int, .int], returnType := some .int }, accessFlags := 10, code := some k1c1 }
def k1c2 : Code := { maxStack := 3, maxLocals := 2, code := method_3_code, exceptionTable := #[], attributes := #[] }
def k1m2 : Method := { name := "part", desc := "(II)I", sig := { parameters := [.int, .int], returnType := some .int }, accessFlags := 10, code := some k1c2 }
def k1c3 : Code := { maxStack := 6, maxLocals := 9, code := code, exceptionTable := #[], attributes := #[] }
def k1m3 : Method := { name := "law", desc := "(III)Z", sig := { parameters := [.int, .int, .int], returnType := some .boolean }, accessFlags := 9, code := some k1c3 }
/-- com/example/flowstate/flowstate/runtime/BlocksInTurnWorkerPinLaw -/
def k1 : Class := { plain "com/example/flowstate/flowstate/runtime/BlocksInTurnWorkerPinLaw" (some 0) with
  accessFlags := 49
  interfaces := #[]
  cf := some (fileOf pool1 21 #[] #[{ accessFlags := 2, nameIndex := 5, descriptorIndex := 6, attributes := #[] }, { accessFlags := 10, nameIndex := 31, descriptorIndex := 32, attributes := #[] }, { accessFlags := 10, nameIndex := 24, descriptorIndex := 14, attributes := #[] }, { accessFlags := 9, nameIndex := 36, descriptorIndex := 37, attributes := #[] }] 49 2 #[] #[])
  fields := #[]
  methods := #[k1m0, k1m1, k1m2, k1m3]
  instanceTypes := #[]
  staticTypes := #[]
  resolved := Array.replicate 42 none
  statics := none }

def pool2 : Array CpInfo := pool [(1, .methodref 2 3), (0, .class_ 4), (0, .nameAndType 5 6), (0, u "java/lang/Object"), (0, u "<init>"), (0, u "()V"), (0, .fieldref 8 9), (0, .class_ 10), (0, .nameAndType 11 12), (0, u "com/example/flowstate/flowstate/runtime/BlocksInTurn"), (0, u "workers"), (0, u "I"), (0, .fieldref 8 14), (0, .nameAndType 15 12), (0, u "size"), (0, .fieldref 8 17), (0, .nameAndType 18 19), (0, u "workerOf"), (0, u "[I"), (0, .fieldref 8 21), (0, .nameAndType 22 19), (0, u "left"), (0, .fieldref 8 24), (0, .nameAndType 25 12), (0, u "next"), (0, u "(III)V"), (2, u "worker"), (0, u "(I)I")] 3

def k2c0 : Code := { maxStack := 2, maxLocals := 4, code := prog_47_method_1_code, exceptionTable := #[], attributes := #[] }
def k2m0 : Method := { name := "<init>", desc := "(III)V", sig := { parameters := [.int, .int, .int], returnType := none }, accessFlags := 0, code := some k2c0 }
def k2c1 : Code := { maxStack := 4, maxLocals := 2, code := prog_47_method_2_code, exceptionTable := #[], attributes := #[] }
def k2m1 : Method := { name := "worker", desc := "(I)I", sig := { parameters := [.int], returnType := some .int }, accessFlags := 0, code := some k2c1 }
/-- com/example/flowstate/flowstate/runtime/BlocksInTurn -/
def k2 : Class := { plain "com/example/flowstate/flowstate/runtime/BlocksInTurn" (some 0) with
  accessFlags := 48
  interfaces := #[]
  cf := some (fileOf pool2 8 #[] #[{ accessFlags := 0, nameIndex := 5, descriptorIndex := 26, attributes := #[] }, { accessFlags := 0, nameIndex := 29, descriptorIndex := 30, attributes := #[] }] 48 2 #[] #[{ accessFlags := 18, nameIndex := 11, descriptorIndex := 12, attributes := #[] }, { accessFlags := 18, nameIndex := 15, descriptorIndex := 12, attributes := #[] }, { accessFlags := 18, nameIndex := 18, descriptorIndex := 19, attributes := #[] }, { accessFlags := 18, nameIndex := 22, descriptorIndex := 19, attributes := #[] }, { accessFlags := 2, nameIndex := 25, descriptorIndex := 12, attributes := #[] }])
  fields := #[{ name := "workers", type := .int, accessFlags := 18, slot := 0, constantValue := 0 }, { name := "size", type := .int, accessFlags := 18, slot := 1, constantValue := 0 }, { name := "workerOf", type := (.array .int), accessFlags := 18, slot := 2, constantValue := 0 }, { name := "left", type := (.array .int), accessFlags := 18, slot := 3, constantValue := 0 }, { name := "next", type := .int, accessFlags := 2, slot := 4, constantValue := 0 }]
  methods := #[k2m0, k2m1]
  instanceTypes := #[.int, .int, (.array .int), (.array .int), .int]
  staticTypes := #[]
  resolved := Array.replicate 34 none
  statics := none }

def pool3 : Array CpInfo := pool [(1, .class_ 2), (0, u "java/lang/Math"), (1, .class_ 6), (1, u "java/lang/Object"), (0, u "<init>"), (0, u "()V"), (89, .class_ 100), (1, u "java/lang/Math$RandomNumberGeneratorHolder"), (71, u "negativeZeroFloatBits"), (0, u "J"), (2, u "negativeZeroDoubleBits"), (21, u "max"), (46, u "$assertionsDisabled"), (0, u "Z"), (88, u "(II)I"), (2, u "twoToTheDoubleScaleDown"), (0, u "D"), (4, u "twoToTheDoubleScaleUp"), (9, u "E"), (3, u "PI"), (2, u "TAU"), (2, u "DEGREES_TO_RADIANS"), (0, u "RADIANS_TO_DEGREES")] 94

def k3m0 : Method := { name := "<init>", desc := "()V", sig := { parameters := [], returnType := none }, accessFlags := 2, code := none }
def k3c1 : Code := { maxStack := 2, maxLocals := 2, code := jdk_29_method_65_code, exceptionTable := #[], attributes := #[] }
def k3m1 : Method := { name := "max", desc := "(II)I", sig := { parameters := [.int, .int], returnType := some .int }, accessFlags := 9, code := some k3c1 }
/-- java/lang/Math -/
def k3 : Class := { plain "java/lang/Math" (some 0) with
  accessFlags := 49
  interfaces := #[]
  cf := some (fileOf pool3 1 #[.nestMembers #[98]] #[{ accessFlags := 2, nameIndex := 7, descriptorIndex := 8, attributes := #[] }, { accessFlags := 9, nameIndex := 198, descriptorIndex := 335, attributes := #[] }] 49 4 #[] #[{ accessFlags := 25, nameIndex := 354, descriptorIndex := 339, attributes := #[] }, { accessFlags := 25, nameIndex := 358, descriptorIndex := 339, attributes := #[] }, { accessFlags := 25, nameIndex := 361, descriptorIndex := 339, attributes := #[] }, { accessFlags := 26, nameIndex := 364, descriptorIndex := 339, attributes := #[] }, { accessFlags := 26, nameIndex := 365, descriptorIndex := 339, attributes := #[] }, { accessFlags := 26, nameIndex := 172, descriptorIndex := 173, attributes := #[] }, { accessFlags := 26, nameIndex := 176, descriptorIndex := 173, attributes := #[] }, { accessFlags := 8, nameIndex := 344, descriptorIndex := 339, attributes := #[] }, { accessFlags := 8, nameIndex := 338, descriptorIndex := 339, attributes := #[] }, { accessFlags := 4120, nameIndex := 245, descriptorIndex := 246, attributes := #[] }])
  fields := #[{ name := "E", type := .double, accessFlags := 25, slot := 0, constantValue := 0 }, { name := "PI", type := .double, accessFlags := 25, slot := 1, constantValue := 0 }, { name := "TAU", type := .double, accessFlags := 25, slot := 2, constantValue := 0 }, { name := "DEGREES_TO_RADIANS", type := .double, accessFlags := 26, slot := 3, constantValue := 0 }, { name := "RADIANS_TO_DEGREES", type := .double, accessFlags := 26, slot := 4, constantValue := 0 }, { name := "negativeZeroFloatBits", type := .long, accessFlags := 26, slot := 5, constantValue := 0 }, { name := "negativeZeroDoubleBits", type := .long, accessFlags := 26, slot := 6, constantValue := 0 }, { name := "twoToTheDoubleScaleUp", type := .double, accessFlags := 8, slot := 7, constantValue := 0 }, { name := "twoToTheDoubleScaleDown", type := .double, accessFlags := 8, slot := 8, constantValue := 0 }, { name := "$assertionsDisabled", type := .boolean, accessFlags := 4120, slot := 9, constantValue := 0 }]
  methods := #[k3m0, k3m1]
  instanceTypes := #[]
  staticTypes := #[.double, .double, .double, .double, .double, .long, .long, .double, .double, .boolean]
  resolved := Array.replicate 460 none
  statics := none }

def pool4 : Array CpInfo := pool [(1, u "java/lang/Cloneable"), (0, .class_ 1), (0, u "java/lang/Object"), (0, .class_ 3)] 3

/-- java/lang/Cloneable -/
def k4 : Class := { plain "java/lang/Cloneable" (some 0) with
  accessFlags := 1537
  interfaces := #[]
  cf := some (fileOf pool4 2 #[] #[] 1537 4 #[] #[])
  fields := #[]
  methods := #[]
  instanceTypes := #[]
  staticTypes := #[]
  resolved := Array.replicate 8 none
  statics := none }

def pool5 : Array CpInfo := pool [(1, u "java/io/Serializable"), (0, .class_ 1), (0, u "java/lang/Object"), (0, .class_ 3)] 3

/-- java/io/Serializable -/
def k5 : Class := { plain "java/io/Serializable" (some 0) with
  accessFlags := 1537
  interfaces := #[]
  cf := some (fileOf pool5 2 #[] #[] 1537 4 #[] #[])
  fields := #[]
  methods := #[]
  instanceTypes := #[]
  staticTypes := #[]
  resolved := Array.replicate 8 none
  statics := none }

/-- the primitive byte -/
def k6 : Class := { plain "byte" none with kind := .primitive 'B', accessFlags := 0x411 }
/-- [B -/
def k7 : Class := { plain "[B" (some 0) with kind := .array 6 .byte, interfaces := #[4, 5], accessFlags := 1041 }

/-- the primitive int -/
def k8 : Class := { plain "int" none with kind := .primitive 'I', accessFlags := 0x411 }
/-- [I -/
def k9 : Class := { plain "[I" (some 0) with kind := .array 8 .int, interfaces := #[4, 5], accessFlags := 1041 }

def heap : Heap := #[]
def classes : Array Class := #[k0, k1, k2, k3, k4, k5, k6, k7, k8, k9]
def interned : List (Array UInt16 × Addr) := []
def slotsUsed : Nat := 0
def theMethod : MethodId := ⟨1, 3⟩
def args0 : Array Value := #[.int 5, .int 7, .int 3]
def aboutOver (below : List Frame) : State where
  vm := { classes := classes, interned := interned.toArray }
  heap := heap
  slotsUsed := slotsUsed
  threads := #[{ frames := .invoking theMethod args0 :: below }]
def below0 : List Frame := [.native { method := ⟨0, 0⟩, args := #[] }]
def about1 : State := aboutOver below0
def p0 : Program := .bare "" "" ""
def e0 : Env := launch0.env 0 0 0
theorem w_frames : about1.frames = Frame.invoking theMethod args0 :: below0 := rfl
set_option maxRecDepth 65536 in
theorem w_args : argsFit about1.vm theMethod args0 = true := by decide +kernel
set_option maxRecDepth 65536 in
theorem w_heap : heapFits about1 = true := by decide +kernel
set_option maxRecDepth 65536 in
theorem w_runnable : about1.curStatus? = some .runnable := by decide +kernel
set_option maxRecDepth 65536 in
theorem w_alone : about1.alone = true := by decide +kernel
set_option maxRecDepth 65536 in
theorem w_named : about1.methodNamed? x = some theMethod := by decide +kernel
set_option maxRecDepth 65536 in
theorem w_hears : about1.hears theMethod below0 = true := by decide +kernel
set_option maxRecDepth 65536 in
theorem w_ripe : about1.ripe theMethod args0 below0 = true := by decide +kernel
theorem w_running : about1.status = .running := rfl
set_option maxRecDepth 65536 in
theorem w_room : about1.hasRoom e0.platform room_1 = true :=
  launch0.hasRoom_least _ room_1 (by decide +kernel) (by decide +kernel) (by decide +kernel) (by decide +kernel) (by decide +kernel) (by decide +kernel)
theorem allAtoms_all (ts : List Jvm.Cond) (a : Array Jvm.Value) (st : Jvm.State) : (allAtoms ts).before a st = ts.all (fun c => c.before a st) := by
  induction ts with
  | nil => rfl
  | cons c t ih =>
    show (Jvm.Cond.and c (allAtoms t)).before a st = _
    rw [Jvm.Cond.before_and, ih, List.all_cons]
def words1 : List Jvm.Cond := Jvm.Cond.code x code maxLocals ret :: tables_1
/-- a 'code' word, met by the world's own term for the bytes: nothing is compared byte by byte -/
theorem code_word {y : MethodName} {bytes : ByteArray} {mx : Nat} {rt : Option FieldType} {a : Array Value} {s : State} {m : MethodId} {meth : Method} {c : Code} (h1 : s.methodNamed? y = some m) (h2 : s.vm.method? m = some meth) (h3 : meth.code = some c) (h4 : c.code = bytes)
    (h5 : (c.maxLocals == mx && c.exceptionTable.isEmpty && decide (c.maxStack ≤ mostOperands) && decide (meth.sig.returnType = rt) && !meth.locks && decide (parseMethodDescriptor y.desc = some meth.sig)) = true) : (Jvm.Cond.code y bytes mx rt).before a s = true := by
  simp only [Bool.and_eq_true, beq_iff_eq, Bool.not_eq_true', decide_eq_true_eq] at h5
  obtain ⟨⟨⟨⟨⟨g1, g2⟩, g3⟩, g4⟩, g5⟩, g6⟩ := h5
  simp [Cond.before, Cond.holds, Cond.value, h1, h2, h3, h4, g1, g2, g3, g4, g5, g6]
def isCode : Jvm.Cond → Bool
  | .code _ _ _ _ => true
  | _ => false
theorem all_split {L : List Jvm.Cond} {P : Jvm.Cond → Bool} (h1 : L.all (fun c => isCode c || P c) = true) (h2 : ∀ c ∈ L.filter isCode, P c = true) : L.all P = true := by
  refine List.all_eq_true.mpr fun c hc => ?_
  have h := List.all_eq_true.mp h1 c hc
  rcases Bool.eq_false_or_eq_true (isCode c) with hi | hi
  · exact h2 c (List.mem_filter.mpr ⟨hc, hi⟩)
  · simpa [hi] using h
set_option maxRecDepth 65536 in
theorem w_c0 : (Jvm.Cond.code x code maxLocals ret).before args0 about1 = true := code_word (m := ⟨1, 3⟩) (meth := k1m3) (c := k1c3) (by decide +kernel) rfl rfl rfl (by decide +kernel)
set_option maxRecDepth 65536 in
theorem w_c1 : (Jvm.Cond.code ({ cls := "com/example/flowstate/flowstate/runtime/BlocksInTurn", name := "<init>", desc := "(III)V" } : Jvm.MethodName) prog_47_method_1_code (4 : Nat) (Option.none : Option Jvm.ClassFile.FieldType)).before args0 about1 = true := code_word (m := ⟨2, 0⟩) (meth := k2m0) (c := k2c0) (by decide +kernel) rfl rfl rfl (by decide +kernel)
set_option maxRecDepth 65536 in
theorem w_c2 : (Jvm.Cond.code ({ cls := "java/lang/Object", name := "<init>", desc := "()V" } : Jvm.MethodName) object_method_1_code (1 : Nat) (Option.none : Option Jvm.ClassFile.FieldType)).before args0 about1 = true := code_word (m := ⟨0, 0⟩) (meth := k0m0) (c := k0c0) (by decide +kernel) rfl rfl rfl (by decide +kernel)
set_option maxRecDepth 65536 in
theorem w_c3 : (Jvm.Cond.code ({ cls := "com/example/flowstate/flowstate/runtime/BlocksInTurnWorkerPinLaw", name := "part", desc := "(II)I" } : Jvm.MethodName) method_3_code (2 : Nat) (Option.some Jvm.ClassFile.FieldType.int)).before args0 about1 = true := code_word (m := ⟨1, 2⟩) (meth := k1m2) (c := k1c2) (by decide +kernel) rfl rfl rfl (by decide +kernel)
set_option maxRecDepth 65536 in
theorem w_c4 : (Jvm.Cond.code ({ cls := "com/example/flowstate/flowstate/runtime/BlocksInTurn", name := "worker", desc := "(I)I" } : Jvm.MethodName) prog_47_method_2_code (2 : Nat) (Option.some Jvm.ClassFile.FieldType.int)).before args0 about1 = true := code_word (m := ⟨2, 1⟩) (meth := k2m1) (c := k2c1) (by decide +kernel) rfl rfl rfl (by decide +kernel)
set_option maxRecDepth 65536 in
theorem w_c5 : (Jvm.Cond.code ({ cls := "com/example/flowstate/flowstate/runtime/BlocksInTurnWorkerPinLaw", name := "expected", desc := "([IIII)I" } : Jvm.MethodName) method_2_code (4 : Nat) (Option.some Jvm.ClassFile.FieldType.int)).before args0 about1 = true := code_word (m := ⟨1, 1⟩) (meth := k1m1) (c := k1c1) (by decide +kernel) rfl rfl rfl (by decide +kernel)
set_option maxRecDepth 65536 in
theorem w_c6 : (Jvm.Cond.code ({ cls := "java/lang/Math", name := "max", desc := "(II)I" } : Jvm.MethodName) jdk_29_method_65_code (2 : Nat) (Option.some Jvm.ClassFile.FieldType.int)).before args0 about1 = true := code_word (m := ⟨3, 1⟩) (meth := k3m1) (c := k3c1) (by decide +kernel) rfl rfl rfl (by decide +kernel)
def codes1 : List Jvm.Cond := [Jvm.Cond.code x code maxLocals ret, Jvm.Cond.code ({ cls := "com/example/flowstate/flowstate/runtime/BlocksInTurn", name := "<init>", desc := "(III)V" } : Jvm.MethodName) prog_47_method_1_code (4 : Nat) (Option.none : Option Jvm.ClassFile.FieldType), Jvm.Cond.code ({ cls := "java/lang/Object", name := "<init>", desc := "()V" } : Jvm.MethodName) object_method_1_code (1 : Nat) (Option.none : Option Jvm.ClassFile.FieldType), Jvm.Cond.code ({ cls := "com/example/flowstate/flowstate/runtime/BlocksInTurnWorkerPinLaw", name := "part", desc := "(II)I" } : Jvm.MethodName) method_3_code (2 : Nat) (Option.some Jvm.ClassFile.FieldType.int), Jvm.Cond.code ({ cls := "com/example/flowstate/flowstate/runtime/BlocksInTurn", name := "worker", desc := "(I)I" } : Jvm.MethodName) prog_47_method_2_code (2 : Nat) (Option.some Jvm.ClassFile.FieldType.int), Jvm.Cond.code ({ cls := "com/example/flowstate/flowstate/runtime/BlocksInTurnWorkerPinLaw", name := "expected", desc := "([IIII)I" } : Jvm.MethodName) method_2_code (4 : Nat) (Option.some Jvm.ClassFile.FieldType.int), Jvm.Cond.code ({ cls := "java/lang/Math", name := "max", desc := "(II)I" } : Jvm.MethodName) jdk_29_method_65_code (2 : Nat) (Option.some Jvm.ClassFile.FieldType.int)]
set_option maxRecDepth 65536 in
theorem codes_eq : words1.filter isCode = codes1 := rfl
theorem w_codes : ∀ c ∈ words1.filter isCode, c.before args0 about1 = true := by
  rw [codes_eq]
  intro c hc
  simp only [codes1, List.mem_cons, List.not_mem_nil, or_false] at hc
  rcases hc with rfl | rfl | rfl | rfl | rfl | rfl | rfl
  · exact w_c0
  · exact w_c1
  · exact w_c2
  · exact w_c3
  · exact w_c4
  · exact w_c5
  · exact w_c6
set_option maxRecDepth 65536 in
theorem w_t1 : (words1.take 24).all (fun c => isCode c || c.before args0 about1) = true := by decide +kernel
set_option maxRecDepth 65536 in
theorem w_t2 : (words1.drop 24).all (fun c => isCode c || c.before args0 about1) = true := by decide +kernel
theorem w_tables : (allAtoms (Jvm.Cond.code x code maxLocals ret :: tables_1)).before args0 about1 = true := by
  rw [allAtoms_all]
  show words1.all (fun c => c.before args0 about1) = true
  refine all_split ?_ w_codes
  rw [← List.take_append_drop 24 words1, List.all_append, w_t1, w_t2]
  rfl
set_option maxRecDepth 65536 in
theorem w_case : (Jvm.Cond.and given_1 narrow_1).before args0 about1 = true := by decide +kernel
theorem w_applies : (headSpec (Jvm.Cond.code x code maxLocals ret :: tables_1) room_1).applies x e0.platform about1 = true :=
  (Spec.applies_iff w_frames).mpr ⟨w_running, w_runnable, w_alone, w_named, w_hears, w_ripe, w_room, w_tables⟩
theorem atStart : AtStart classFile x code maxLocals ret World_1 tables_1 room_1 Calls_1 rest_1 Pre_1 launch0 p0 e0 about1 theMethod args0 below0 :=
  ⟨lists_1, trivial, launch0.admits_env _ _ _, launch0.least_env, fairChoices_fair.cas, fairChoices_fair.clock, w_frames, w_args, w_heap, w_applies, trivial, trivial, w_case⟩
end start1
theorem witness_1 : WitnessClaimed_1 := ⟨start1.p0, start1.e0, start1.about1, start1.theMethod, start1.args0, start1.below0, start1.atStart⟩
end Jvm.Pilot.@@N@@
