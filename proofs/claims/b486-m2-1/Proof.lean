import JvmDerived
import JvmDerived.Pilot.@@N@@Statement
import JvmDerived.Pilot.@@N@@Code
set_option linter.unusedVariables false
set_option linter.unusedSimpArgs false
namespace Jvm.RoadKit
open Sem ClassFile Op Lib Jvm.Stand Jvm.Free Jvm.LawKit
section New
variable {p : Program} {l : Launch} {e : Env} {R : Room} {s : State} {m : MethodId} {args : Array Value} {below : List Frame} {meth : Method} {c : Code} {T : State} {locs : List Loc} {cells slots : Nat}
theorem retI (X : Stand p l e R s m args below meth c T locs cells slots) (hx : p.tables.exec = Jvm.exec) {pc : Nat} {Ls : Array Slot} {z : Int32} {rest : List Value} (hret : meth.sig.returnType = some .int) (hd : decode c.code pc = .ok (.ireturn, 1)) {fs : List Frame}
    (hl : ∀ (f : JFrame) (acts : List Action), f.method = m → f.locked = none → f.entered = [] → (doReturn e (T.setTop f) acts (some (.int z))).1 = T.setFrames fs) : Steps p.tables e below (T.setTop (mkF m pc Ls (.int z :: rest))) (T.setFrames fs) := by
  have hm' : T.vm.method? m = some meth := X.method'
  have hn : narrow .int (.int z) = .int z := rfl
  show Steps p.tables e below (T.setTop { method := m, pc := pc, locals := Ls, stack := _ :: rest, locked := none }) _
  jvm_step X.here [X.here.top, hx, hd, hm', hret, hn]
  first | (intro acts; rw [hl _ acts rfl rfl rfl]) | rw [hl _ _ rfl rfl rfl]
  exact Steps.refl _
end New
end Jvm.RoadKit
namespace Jvm.Pilot.@@N@@
open Jvm Jvm.ClassFile Sem Op Lib Jvm.Free Jvm.Stand Jvm.LawKit Jvm.RoadKit Bundle Jvm.Pilot.@@N@@.Jvm.D
section Own
variable {p : Program} {l : Launch} {e : Env} {R : Room} {s : State} {m : MethodId} {args : Array Value} {below : List Frame} {meth : Method} {c : Code} {T : State} {locs : List Loc} {cells slots : Nat} {Q : Option Value → Heap → List Loc → Prop} {nc ns : Nat}
/-- from here the run comes to an end of which Q speaks -/
def own_Dn (p : Program) (e : Env) (below : List Frame) (s : State) (Q : Option Value → Heap → List Loc → Prop) (nc ns : Nat) (q : State) : Prop :=
  ∃ t o, Steps p.tables e below q t ∧ t.status = .running ∧ Ended t below o ∧ ∃ v L, o = .returned v ∧ Q v t.heap L ∧ FrameEnd s o t L nc ns
theorem own_st {q q' : State} (h : ∀ t, Steps p.tables e below q' t → Steps p.tables e below q t) (d : own_Dn p e below s Q nc ns q') : own_Dn p e below s Q nc ns q := by
  obtain ⟨t, o, h1, r⟩ := d
  exact ⟨t, o, h _ h1, r⟩
/-- a body's contract -/
def own_Met (l : Launch) (Z : State) (y : MethodName) (ws : List Jvm.Cond) (bytes : ByteArray) (maxL : Nat) (ret : Option FieldType) (rm : Room) (as : Array Value) (h0 : Heap) (Q : Option Value → Heap → List Loc → Prop) : Prop :=
  MetFree l y (head1 (Jvm.Cond.code y bytes maxL ret :: ws) rm) (fun a U => a = as ∧ Z.Warmed39 U.vm ∧ U.heap = h0) (fun _ _ _ _ _ => True) (fun _ U o U' => ∃ v L, o = .returned v ∧ Q v U'.heap L ∧ FrameEnd U o U' L rm.cells rm.slots)
theorem own_body {Z : State} {y : MethodName} {ws : List Jvm.Cond} {bytes : ByteArray} {maxL : Nat} {ret : Option FieldType} {rm : Room} {as : Array Value} {h0 : Heap} (hp : plainFor y = true)
    (body : ∀ p e s m below meth c s₁, p.tables.exec = Jvm.exec → c.code = bytes → c.maxLocals = maxL → s.vm.findClass y.cls = some m.cls → meth.name = y.name → meth.sig.returnType = ret → meth.locks = false → Z.Warmed39 s.vm → Stand p l e rm s m as below meth c s₁ [] 0 0 → s₁.heap = h0 → own_Dn p e below s Q rm.cells rm.slots (s₁.setTop (entryFrame m as maxL))) :
    own_Met l Z y ws bytes maxL ret rm as h0 Q := by
  refine MetFree.of_bodySF hp hisR ?_
  intro p e s m args below meth c s₁ Bd hml0 hP hK
  obtain ⟨rfl, hZ, hh⟩ := hP
  exact body p e s m below meth c s₁ Bd.exec Bd.bytes hml0 (findClass_of_methodNamed Bd.named) (name_of_methodNamed Bd.named Bd.method).1 Bd.returns Bd.notSynchronized hZ (Stand.of_body Bd) (by rw [← hh, Bd.state]; rfl)
theorem own_entry {m : MethodId} {as : Array Value} {maxL : Nat} {g : JFrame} (q : entryFrame m as maxL = g) (d : own_Dn p e below s Q nc ns (T.setTop g)) : own_Dn p e below s Q nc ns (T.setTop (entryFrame m as maxL)) := q ▸ d
theorem own_retI (X : Stand p l e R s m args below meth c T locs cells slots) (hx : p.tables.exec = Jvm.exec) (hlk : meth.locks = false) {pc : Nat} {Ls : Array Slot} {z : Int32} {rest : List Value} (hret : meth.sig.returnType = some .int) (hd : decode c.code pc = .ok (.ireturn, 1)) {h : Heap} (eT : T.heap = h) (hQ : Q (some (.int z)) h locs) (hc : cells ≤ nc) (hs : slots ≤ ns) :
    own_Dn p e below s Q nc ns (T.setTop (mkF m pc Ls (.int z :: rest))) := by
  obtain ⟨fs, hr, hrun, hended, hW, hsame⟩ := X.leave (v := some (.int z)) (fun h => by rw [hret] at h; cases h) hlk
  subst eT
  exact ⟨_, _, retI X hx hret hd hr, hrun, hended, _, _, rfl, hQ, ⟨_, rfl⟩, hW, hsame.mono hc hs⟩
theorem own_retN (X : Stand p l e R s m args below meth c T locs cells slots) (hx : p.tables.exec = Jvm.exec) (hlk : meth.locks = false) {t : FieldType} {pc : Nat} {Ls : Array Slot} {z : Int32} {rest : List Value} (hret : meth.sig.returnType = some t) (ht : t = .boolean ∨ t = .byte ∨ t = .char ∨ t = .short) (hd : decode c.code pc = .ok (.ireturn, 1)) {h : Heap} (eT : T.heap = h) (hQ : Q (some (.int (nar t z))) h locs) (hc : cells ≤ nc) (hs : slots ≤ ns) :
    own_Dn p e below s Q nc ns (T.setTop (mkF m pc Ls (.int z :: rest))) := by
  obtain ⟨fs, hr, hrun, hended, hW, hsame⟩ := X.leave (v := some (.int (nar t z))) (fun h => by rw [hret] at h; cases h) hlk
  subst eT
  exact ⟨_, _, retN X hx hret ht hd hr, hrun, hended, _, _, rfl, hQ, ⟨_, rfl⟩, hW, hsame.mono hc hs⟩
theorem own_retV (X : Stand p l e R s m args below meth c T locs cells slots) (hx : p.tables.exec = Jvm.exec) (hlk : meth.locks = false) {pc : Nat} {Ls : Array Slot} (hret : meth.sig.returnType = none) (hd : decode c.code pc = .ok (.return_, 1)) {h : Heap} (eT : T.heap = h) (hQ : Q none h locs) (hc : cells ≤ nc) (hs : slots ≤ ns) :
    own_Dn p e below s Q nc ns (T.setTop (mkF m pc Ls [])) := by
  obtain ⟨fs, hr, hrun, hended, hW, hsame⟩ := X.leave (v := none) (fun _ => rfl) hlk
  subst eT
  exact ⟨_, _, X.returnOut hx hret hd hr, hrun, hended, _, _, rfl, hQ, ⟨_, rfl⟩, hW, hsame.mono hc hs⟩
theorem own_retO (X : Stand p l e R s m args below meth c T locs cells slots) (hx : p.tables.exec = Jvm.exec) (hlk : meth.locks = false) {t : FieldType} {w : Value} {i : Instr} {pc : Nat} {Ls : Array Slot} {rest : List Value} (hret : meth.sig.returnType = some t) (hn : narrow t w = w)
    (hi : (i = .ireturn ∧ (t = .int ∨ t = .boolean ∨ t = .byte ∨ t = .char ∨ t = .short) ∧ ∃ z, w = .int z) ∨ (i = .lreturn ∧ t = .long ∧ ∃ z, w = .long z) ∨ (i = .dreturn ∧ t = .double ∧ ∃ z, w = .double z) ∨ (i = .freturn ∧ t = .float ∧ ∃ z, w = .float z) ∨ (i = .areturn ∧ t.isReference = true ∧ w.isRef = true))
    (hd : decode c.code pc = .ok (i, 1)) {h : Heap} (eT : T.heap = h) (hQ : Q (some w) h locs) (hc : cells ≤ nc) (hs : slots ≤ ns) : own_Dn p e below s Q nc ns (T.setTop (mkF m pc Ls (w :: rest))) := by
  obtain ⟨fs, hr, hrun, hended, hW, hsame⟩ := X.leave (v := some w) (fun h => by rw [hret] at h; cases h) hlk
  subst eT
  exact ⟨_, _, retOut X hx hret hn hi hd hr, hrun, hended, _, _, rfl, hQ, ⟨_, rfl⟩, hW, hsame.mono hc hs⟩
theorem own_mono {cells' slots' : Nat} (X : Stand p l e R s m args below meth c T locs cells slots) (h1 : cells ≤ cells') (h2 : slots ≤ slots') : Stand p l e R s m args below meth c T locs cells' slots' :=
  ⟨X.admits, X.cas, X.clock, X.frames, X.room, X.hears, X.method, X.code, X.here, X.tail, X.warmed, X.limits, X.bytes, X.same.mono h1 h2⟩
theorem own_callS {Z : State} {a0 : Array Value} {h : Heap} {own : String} {index : Nat} {y : MethodName} {bytes : ByteArray} {maxL : Nat} {ret : Option FieldType} {rm : Room} {as : Array Value} {Q' : Option Value → Heap → List Loc → Prop}
    (X : Stand p l e R s m args below meth c T locs cells slots) (hx : p.tables.exec = Jvm.exec) (hZ : Z.Warmed39 s.vm) (hown : s.vm.findClass own = some m.cls)
    (w1 : (Cond.methodLink own index y).before a0 Z = true) (w2 : (Cond.static y).before a0 Z = true) (w3 : (Cond.initialized y.cls).before a0 Z = true) (w4 : (Cond.code y bytes maxL ret).before a0 Z = true) (hy : y.cls ≠ "java/lang/invoke/MethodHandle" ∧ y.cls ≠ "java/lang/invoke/VarHandle")
    (M : own_Met l Z y [] bytes maxL ret rm as h Q') (eT : T.heap = h) {W : Nat} (hf : rm.frames + 1 ≤ R.frames) (hl : W + (maxL + 11) + rm.locals ≤ R.locals) (hc : cells + rm.cells ≤ R.cells) (hs : slots + rm.slots ≤ R.slots)
    {g : JFrame} (hg : g.method = m) (hsize : g.locals.size = c.maxLocals) {argsL rest : List Value} (has : argsL.toArray = as) (hlen : ∀ sig, parseMethodDescriptor y.desc = some sig → argsL.length = sig.parameters.length)
    (hstack : g.stack = argsL.reverse ++ rest) (hW : 2 * g.monitorRoom + (rest.map fun v => v.category).sum ≤ W) (hd : decode c.code g.pc = .ok (.invokestatic index, 3))
    (k : ∀ v T' L, Q' v T'.heap L → Stand p l e R s m args below meth c T' (locs ++ L) (cells + rm.cells) (slots + rm.slots) → own_Dn p e below s Q nc ns (T'.setTop { g with pc := g.pc + 3, stack := v.toList ++ rest })) :
    own_Dn p e below s Q nc ns (T.setTop g) := by
  obtain ⟨v, _, ⟨T', L', k', n'⟩, -, X', ⟨Lc, hQ, l1, y1, z1⟩, st⟩ := Jvm.LawKit.callS X hx hown (mvT hZ w1) (mvT hZ w2) (mvT hZ w3) (mvT hZ w4) hy (backOf (W := W) M hZ w4 w3 hf hl) hg hsize (argsL := argsL) (rest := rest) hlen hstack hW hd (fun _ _ => ⟨has, eT, hc, hs⟩)
  dsimp only [Pt.U, Pt.locs, Pt.cells, Pt.slots] at X' l1 y1 z1 st hQ
  subst l1 y1 z1
  exact own_st (fun t q => st t q) (k v T' Lc hQ X')
theorem own_callI {Z : State} {a0 : Array Value} {h : Heap} {own : String} {index : Nat} {y : MethodName} {bytes : ByteArray} {maxL : Nat} {rm : Room} {as : Array Value} {Q' : Option Value → Heap → List Loc → Prop}
    (X : Stand p l e R s m args below meth c T locs cells slots) (hx : p.tables.exec = Jvm.exec) (hZ : Z.Warmed39 s.vm) (hown : s.vm.findClass own = some m.cls) (hy1 : y.name = "<init>")
    (w1 : (Cond.methodLink own index y).before a0 Z = true) (w2 : (Cond.instanceMethod y).before a0 Z = true) (w3 : (Cond.initialized y.cls).before a0 Z = true) (w4 : (Cond.code y bytes maxL none).before a0 Z = true) (hy : y.cls ≠ "java/lang/invoke/MethodHandle" ∧ y.cls ≠ "java/lang/invoke/VarHandle")
    (M : own_Met l Z y [] bytes maxL none rm as h Q') (eT : T.heap = h) {W : Nat} (hf : rm.frames + 1 ≤ R.frames) (hl : W + (maxL + 11) + rm.locals ≤ R.locals) (hc : cells + rm.cells ≤ R.cells) (hs : slots + rm.slots ≤ R.slots)
    {g : JFrame} (hg : g.method = m) (hsize : g.locals.size = c.maxLocals) {a : Addr} {argsL rest : List Value} (has : (.ref a :: argsL).toArray = as) (hlen : ∀ sig, parseMethodDescriptor y.desc = some sig → argsL.length = sig.parameters.length)
    (hstack : g.stack = argsL.reverse ++ .ref a :: rest) (hW : 2 * g.monitorRoom + (rest.map fun v => v.category).sum ≤ W) (hd : decode c.code g.pc = .ok (.invokespecial index, 3))
    (k : ∀ v T' L, Q' v T'.heap L → Stand p l e R s m args below meth c T' (locs ++ L) (cells + rm.cells) (slots + rm.slots) → own_Dn p e below s Q nc ns (T'.setTop { g with pc := g.pc + 3, stack := v.toList ++ rest })) :
    own_Dn p e below s Q nc ns (T.setTop g) := by
  obtain ⟨v, _, ⟨T', L', k', n'⟩, -, X', ⟨Lc, hQ, l1, y1, z1⟩, st⟩ := X.specialBack hx hy1 hown (mvT hZ w1) (mvT hZ w2) (mvT hZ w4) hy (backOf (W := W) M hZ w4 w3 hf hl) hg hsize (Steps.refl _) (a := a) (argsL := argsL) (rest := rest) hlen hstack hW hd (fun _ _ => ⟨has, eT, hc, hs⟩)
  dsimp only [Pt.U, Pt.locs, Pt.cells, Pt.slots] at X' l1 y1 z1 st hQ
  subst l1 y1 z1
  exact own_st (fun t q => st.trans q) (k v T' Lc hQ X')
theorem own_callV {Z : State} {a0 : Array Value} {h : Heap} {own C : String} {index : Nat} {y : MethodName} {bytes : ByteArray} {maxL : Nat} {ret : Option FieldType} {rm : Room} {as : Array Value} {Q' : Option Value → Heap → List Loc → Prop}
    (X : Stand p l e R s m args below meth c T locs cells slots) (hx : p.tables.exec = Jvm.exec) (hZ : Z.Warmed39 s.vm) (hown : s.vm.findClass own = some m.cls)
    (w1 : (Cond.methodLink own index y).before a0 Z = true) (w2 : (Cond.declares y).before a0 Z = true) (w5 : (Cond.selects C y y).before a0 Z = true) (w6 : (Cond.instanceMethod y).before a0 Z = true) (w3 : (Cond.initialized y.cls).before a0 Z = true) (w4 : (Cond.code y bytes maxL ret).before a0 Z = true) (hy : y.cls ≠ "java/lang/invoke/MethodHandle" ∧ y.cls ≠ "java/lang/invoke/VarHandle")
    (M : own_Met l Z y [] bytes maxL ret rm as h Q') (eT : T.heap = h) {b : Addr} (E : Exa Z h b C) {W : Nat} (hf : rm.frames + 1 ≤ R.frames) (hl : W + (maxL + 11) + rm.locals ≤ R.locals) (hc : cells + rm.cells ≤ R.cells) (hs : slots + rm.slots ≤ R.slots)
    {g : JFrame} (hg : g.method = m) (hsize : g.locals.size = c.maxLocals) {argsL rest : List Value} (has : (.ref b :: argsL).toArray = as) (hlen : ∀ sig, parseMethodDescriptor y.desc = some sig → argsL.length = sig.parameters.length)
    (hstack : g.stack = argsL.reverse ++ .ref b :: rest) (hW : 2 * g.monitorRoom + (rest.map fun v => v.category).sum ≤ W) (hd : decode c.code g.pc = .ok (.invokevirtual index, 3))
    (k : ∀ v T' L, Q' v T'.heap L → Stand p l e R s m args below meth c T' (locs ++ L) (cells + rm.cells) (slots + rm.slots) → own_Dn p e below s Q nc ns (T'.setTop { g with pc := g.pc + 3, stack := v.toList ++ rest })) :
    own_Dn p e below s Q nc ns (T.setTop g) := by
  obtain ⟨cq, kq, qa, qb, qc⟩ := isOf hZ eT E
  obtain ⟨v, _, ⟨T', L', k', n'⟩, -, X', ⟨Lc, hQ, l1, y1, z1⟩, st⟩ := X.virtualBack hx hown (mvT hZ w1) (mvT hZ w2) (notFace_of_selects (args := #[]) (mvT hZ w5)) (mvT hZ w5) (mvT hZ w6) hy (backOf (W := W) M hZ w4 w3 hf hl) qa qc hg hsize (Steps.refl _) (argsL := argsL) (rest := rest) hlen hstack hW hd (fun _ _ => ⟨has, eT, hc, hs⟩)
  dsimp only [Pt.U, Pt.locs, Pt.cells, Pt.slots] at X' l1 y1 z1 st hQ
  subst l1 y1 z1
  exact own_st (fun t q => st.trans q) (k v T' Lc hQ X')
theorem own_callF {Z : State} {a0 : Array Value} {h : Heap} {own C : String} {index count : Nat} {xi y : MethodName} {bytes : ByteArray} {maxL : Nat} {ret : Option FieldType} {rm : Room} {as : Array Value} {Q' : Option Value → Heap → List Loc → Prop}
    (X : Stand p l e R s m args below meth c T locs cells slots) (hx : p.tables.exec = Jvm.exec) (hZ : Z.Warmed39 s.vm) (hown : s.vm.findClass own = some m.cls)
    (w1 : (Cond.methodLink own index xi).before a0 Z = true) (w2 : (Cond.declares xi).before a0 Z = true) (wf : (Cond.interfaceMethod xi.cls xi.cls xi.name xi.desc).before a0 Z = true) (w5 : (Cond.selects C xi y).before a0 Z = true) (w6 : (Cond.instanceMethod y).before a0 Z = true)
    (wp : (Cond.publicMethod y).before a0 Z = true) (wu : (Cond.unhidden C xi.name xi.desc).before a0 Z = true) (wk : (Cond.castable C xi.cls).before a0 Z = true) (w3 : (Cond.initialized y.cls).before a0 Z = true) (w4 : (Cond.code y bytes maxL ret).before a0 Z = true) (hy : xi.cls ≠ "java/lang/invoke/MethodHandle" ∧ xi.cls ≠ "java/lang/invoke/VarHandle")
    (M : own_Met l Z y [] bytes maxL ret rm as h Q') (eT : T.heap = h) {b : Addr} (E : Exa Z h b C) {W : Nat} (hf : rm.frames + 1 ≤ R.frames) (hl : W + (maxL + 11) + rm.locals ≤ R.locals) (hc : cells + rm.cells ≤ R.cells) (hs : slots + rm.slots ≤ R.slots)
    {g : JFrame} (hg : g.method = m) (hsize : g.locals.size = c.maxLocals) {argsL rest : List Value} (has : (.ref b :: argsL).toArray = as) (hlen : ∀ sig, parseMethodDescriptor xi.desc = some sig → argsL.length = sig.parameters.length)
    (hstack : g.stack = argsL.reverse ++ .ref b :: rest) (hW : 2 * g.monitorRoom + (rest.map fun v => v.category).sum ≤ W) (hd : decode c.code g.pc = .ok (.invokeinterface index count, 5))
    (k : ∀ v T' L, Q' v T'.heap L → Stand p l e R s m args below meth c T' (locs ++ L) (cells + rm.cells) (slots + rm.slots) → own_Dn p e below s Q nc ns (T'.setTop { g with pc := g.pc + 5, stack := v.toList ++ rest })) :
    own_Dn p e below s Q nc ns (T.setTop g) := by
  obtain ⟨cq, kq, qa, qb, qc⟩ := isOf hZ eT E
  have hfc : ((Cond.interfaceMethod xi.cls xi.cls xi.name xi.desc).onTables && (Cond.interfaceMethod xi.cls xi.cls xi.name xi.desc).keepsFace) = true := by simp [Cond.onTables, Cond.keepsFace, Cond.keeps, Cond.steady, Cond.faceAtom, hy.1, hy.2]
  obtain ⟨v, _, ⟨T', L', k', n'⟩, -, X', ⟨Lc, hQ, l1, y1, z1⟩, st⟩ := X.interfaceBack hx hown (mvT hZ w1) (mvT hZ w2) (mvT hZ wf hfc) (mvT hZ w5) (mvT hZ w6) (mvT hZ wp) (mvT hZ wu) (mvT hZ wk) hy (backOf (W := W) M hZ w4 w3 hf hl) qa qb qc hg hsize (Steps.refl _) (argsL := argsL) (rest := rest) hlen hstack hW hd (fun _ _ => ⟨has, eT, hc, hs⟩)
  dsimp only [Pt.U, Pt.locs, Pt.cells, Pt.slots] at X' l1 y1 z1 st hQ
  subst l1 y1 z1
  exact own_st (fun t q => st.trans q) (k v T' Lc hQ X')
theorem own_lrem {tb : Tables} [Ours tb] {e : Env} {below : List Frame} {T target : State} {m : MethodId} {c : Code} {g : JFrame} (h : At T m c below) (hx : tb.exec = Jvm.exec) (hg : g.method = m) {x y : Int64} {rest : List Value} (hd : decode c.code g.pc = .ok (.lrem, 1)) (hs : g.stack = .long y :: .long x :: rest) (hy : y ≠ 0)
    (hr : Steps tb e below (T.setTop { g with pc := g.pc + 1, stack := .long (x % y) :: rest }) target) : Steps tb e below (T.setTop g) target :=
  Jvm.Free.XT.lrem h hx hg hd hs hy (by rw [lrem_mod]; exact hr)
theorem own_ltT {x y : Int32} (h : x < y) : x.toInt < y.toInt := Int32.lt_iff_toInt_lt.mp h
theorem own_ltF {x y : Int32} (h : ¬ x < y) : y.toInt ≤ x.toInt := by rw [Int32.lt_iff_toInt_lt] at h; omega
theorem own_eqT {x y : Int32} (h : x = y) : x.toInt = y.toInt := congrArg _ h
theorem own_eqF {x y : Int32} (h : ¬ x = y) : ¬ x.toInt = y.toInt := fun q => h (Int32.toInt_inj.mp q)
theorem own_lt {x y : Int32} (h : x.toInt < y.toInt) : x < y := Int32.lt_iff_toInt_lt.mpr h
theorem own_nlt {x y : Int32} (h : y.toInt ≤ x.toInt) : ¬ x < y := by rw [Int32.lt_iff_toInt_lt]; omega
theorem own_eq {x y : Int32} (h : x.toInt = y.toInt) : x = y := Int32.toInt_inj.mp h
theorem own_ne {x y : Int32} (h : ¬ x.toInt = y.toInt) : ¬ x = y := fun q => h (congrArg _ q)
theorem own_cat1 {v : Value} (h : v.isRef = true) : v.category = 1 := by cases v <;> simp_all [Value.isRef, Value.category]
theorem own_dupX2 {tb : Tables} [Ours tb] {e : Env} {below : List Frame} {T target : State} {m : MethodId} {c : Code} {g : JFrame} (h : At T m c below) (hx : tb.exec = Jvm.exec) (hg : g.method = m) {x y z : Value} {rest : List Value} (hd : decode c.code g.pc = .ok (.dup_x2, 1)) (hs : g.stack = x :: y :: z :: rest) (hc : x.category = 1) (hc' : y.category = 1) (hc'' : z.category = 1)
    (hr : Steps tb e below (T.setTop { g with pc := g.pc + 1, stack := x :: y :: z :: x :: rest }) target) : Steps tb e below (T.setTop g) target := by
  subst hg
  jvm_step h [h.top, hx, hd, hs, hc, hc', hc'']
  exact hr
end Own
def own_res (x : Int32) : Int32 := if x.toInt = 12 ∨ x.toInt = 21 ∨ x.toInt = 22 ∨ x.toInt = 27 ∨ x.toInt = 28 then 1 else 0
theorem own_bits : ∀ k : Fin 64, (lcmpW ((((408948736 : Int64).toUInt64 >>> ((Int32.ofNat k.val) &&& 0x3f).toInt64.toUInt64).toInt64) &&& (1 : Int64)) (0 : Int64) = (0 : Int32)) = (own_res (Int32.ofNat k.val) = 0) := by decide +kernel
theorem own_small {t : Int32} (h0 : 0 ≤ t.toInt) (h1 : t.toInt < 64) : ∃ k : Fin 64, t = Int32.ofNat k.val :=
  have q : t.toInt.toNat < 2 ^ 31 := by omega
  ⟨⟨t.toInt.toNat, by omega⟩, Int32.toInt_inj.mp (by rw [Int32.toInt_ofNat_of_lt q]; exact (Int.toNat_of_nonneg h0).symm)⟩
theorem own_mask {t : Int32} (h0 : 0 ≤ t.toInt) (h1 : t.toInt < 64) : lcmpW ((((408948736 : Int64).toUInt64 >>> (t &&& 0x3f).toInt64.toUInt64).toInt64) &&& (1 : Int64)) (0 : Int64) = (0 : Int32) ↔ own_res t = 0 := by
  obtain ⟨k, rfl⟩ := own_small h0 h1
  exact iff_of_eq (own_bits k)
theorem own_res01 (t : Int32) : own_res t = 0 ∨ own_res t = 1 := by unfold own_res; split <;> simp
theorem pn_0 : plainName "com/example/flowstate/flowstate/runtime/WorkerProtocol" = true := by first | (simp [plainName, overriddenIn]; done) | decide +kernel
theorem ef_rm1 (m : MethodId) (x0 : Int32) : entryFrame m #[(.int x0)] 1 = mkF m 0 #[.val (.int x0)] [] := by first | (simp [entryFrame, mkF, argsToLocals, Value.category]; done) | rfl
theorem d_rm1_0 : decode prog_114_method_35_code 0 = .ok (.iload_n 0, 1) := by decide +kernel
theorem d_rm1_1 : decode prog_114_method_35_code 1 = .ok (.bipush 12, 2) := by decide +kernel
theorem d_rm1_3 : decode prog_114_method_35_code 3 = .ok (.if_icmp .eq 27, 3) := by decide +kernel
theorem d_rm1_6 : decode prog_114_method_35_code 6 = .ok (.iload_n 0, 1) := by decide +kernel
theorem d_rm1_7 : decode prog_114_method_35_code 7 = .ok (.bipush 21, 2) := by decide +kernel
theorem d_rm1_9 : decode prog_114_method_35_code 9 = .ok (.if_icmp .eq 21, 3) := by decide +kernel
theorem d_rm1_12 : decode prog_114_method_35_code 12 = .ok (.iload_n 0, 1) := by decide +kernel
theorem d_rm1_13 : decode prog_114_method_35_code 13 = .ok (.bipush 22, 2) := by decide +kernel
theorem d_rm1_15 : decode prog_114_method_35_code 15 = .ok (.if_icmp .eq 15, 3) := by decide +kernel
theorem d_rm1_18 : decode prog_114_method_35_code 18 = .ok (.iload_n 0, 1) := by decide +kernel
theorem d_rm1_19 : decode prog_114_method_35_code 19 = .ok (.bipush 27, 2) := by decide +kernel
theorem d_rm1_21 : decode prog_114_method_35_code 21 = .ok (.if_icmp .eq 9, 3) := by decide +kernel
theorem d_rm1_24 : decode prog_114_method_35_code 24 = .ok (.iload_n 0, 1) := by decide +kernel
theorem d_rm1_25 : decode prog_114_method_35_code 25 = .ok (.bipush 28, 2) := by decide +kernel
theorem d_rm1_27 : decode prog_114_method_35_code 27 = .ok (.if_icmp .ne 7, 3) := by decide +kernel
theorem d_rm1_30 : decode prog_114_method_35_code 30 = .ok (.iconst 1, 1) := by decide +kernel
theorem d_rm1_31 : decode prog_114_method_35_code 31 = .ok (.goto 4, 3) := by decide +kernel
theorem d_rm1_34 : decode prog_114_method_35_code 34 = .ok (.iconst 0, 1) := by decide +kernel
theorem d_rm1_35 : decode prog_114_method_35_code 35 = .ok (.ireturn, 1) := by decide +kernel
set_option maxRecDepth 65536 in
set_option maxHeartbeats 40000000 in
theorem rm1 (l : Launch) (Z : State) (a0 : Array Value) (hw : ∀ d ∈ tables_1, d.before a0 Z = true) (ws : List Jvm.Cond) (x0 : Int32) (h0 : Heap) (n0 : Nat) (Z0 : n0 ≤ h0.size) :
    own_Met l Z (⟨"com/example/flowstate/flowstate/runtime/WorkerProtocol", "isResults", "(I)Z"⟩ : MethodName) ws prog_114_method_35_code 1 (some .boolean) ({ frames := 0, cells := 0, slots := 0, locals := 0 } : Room) #[(.int x0)] h0 (fun v h L => v = some (.int (own_res x0)) ∧ Fr n0 L ∧ h = h0) := by
  refine own_body (y := (⟨"com/example/flowstate/flowstate/runtime/WorkerProtocol", "isResults", "(I)Z"⟩ : MethodName)) (plainFor_of_name pn_0) ?_
  intro p e s m below meth c s₁ hx hby hml hown hnm hret hlk hZ X0 e0
  have hml : c.maxLocals = 1 := hml
  have hown : s.vm.findClass "com/example/flowstate/flowstate/runtime/WorkerProtocol" = some m.cls := hown
  have N0 := Fr.nil n0
  refine own_entry (ef_rm1 m x0) ?_
  show own_Dn p e below s (fun v h L => v = some (.int (own_res x0)) ∧ Fr n0 L ∧ h = h0) ({ frames := 0, cells := 0, slots := 0, locals := 0 } : Room).cells ({ frames := 0, cells := 0, slots := 0, locals := 0 } : Room).slots (s₁.setTop (mkF m 0 #[.val (.int x0)] []))
  refine own_st (q' := s₁.setTop (mkF m 1 #[.val (.int x0)] [(.int x0)])) (fun _ k => XS.iloadN X0.here hx rfl (hb hby d_rm1_0) rfl k) ?_
  refine own_st (q' := s₁.setTop (mkF m 3 #[.val (.int x0)] [(.int (12 : Int32)), (.int x0)])) (fun _ k => XS.bipush X0.here hx rfl (hb hby d_rm1_1) k) ?_
  by_cases hc3_101 : x0 = (12 : Int32)
  · skip
    have hc3_101I : (x0).toInt = (12 : Int) := own_eqT hc3_101
    refine own_st (q' := s₁.setTop (mkF m 30 #[.val (.int x0)] [])) (fun _ k => XS.icmpYes X0.here hx rfl (pc0 := 3) (pc' := 30) rfl (hb hby d_rm1_3) rfl (teq hc3_101).1 (by decide) (by decide) k) ?_
    refine own_st (q' := s₁.setTop (mkF m 31 #[.val (.int x0)] [(.int (1 : Int32))])) (fun _ k => XS.iconst X0.here hx rfl (hb hby d_rm1_30) k) ?_
    refine own_st (q' := s₁.setTop (mkF m 35 #[.val (.int x0)] [(.int (1 : Int32))])) (fun _ k => XS.goto X0.here hx rfl (pc0 := 31) (pc' := 35) rfl (hb hby d_rm1_31) (by decide) (by decide) k) ?_
    exact own_retN X0 hx hlk (t := .boolean) hret (by simp) (hb hby d_rm1_35) e0 (by exact ⟨(by unfold own_res; rw [if_pos (by omega)]; rfl), N0, rfl⟩) (by decide) (by decide)
  · skip
    have hc3_101I : ¬ (x0).toInt = (12 : Int) := own_eqF hc3_101
    refine own_st (q' := s₁.setTop (mkF m 6 #[.val (.int x0)] [])) (fun _ k => XS.icmpNo X0.here hx rfl (hb hby d_rm1_3) rfl (feq hc3_101).1 k) ?_
    refine own_st (q' := s₁.setTop (mkF m 7 #[.val (.int x0)] [(.int x0)])) (fun _ k => XS.iloadN X0.here hx rfl (hb hby d_rm1_6) rfl k) ?_
    refine own_st (q' := s₁.setTop (mkF m 9 #[.val (.int x0)] [(.int (21 : Int32)), (.int x0)])) (fun _ k => XS.bipush X0.here hx rfl (hb hby d_rm1_7) k) ?_
    by_cases hc9_102 : x0 = (21 : Int32)
    · skip
      have hc9_102I : (x0).toInt = (21 : Int) := own_eqT hc9_102
      refine own_st (q' := s₁.setTop (mkF m 30 #[.val (.int x0)] [])) (fun _ k => XS.icmpYes X0.here hx rfl (pc0 := 9) (pc' := 30) rfl (hb hby d_rm1_9) rfl (teq hc9_102).1 (by decide) (by decide) k) ?_
      refine own_st (q' := s₁.setTop (mkF m 31 #[.val (.int x0)] [(.int (1 : Int32))])) (fun _ k => XS.iconst X0.here hx rfl (hb hby d_rm1_30) k) ?_
      refine own_st (q' := s₁.setTop (mkF m 35 #[.val (.int x0)] [(.int (1 : Int32))])) (fun _ k => XS.goto X0.here hx rfl (pc0 := 31) (pc' := 35) rfl (hb hby d_rm1_31) (by decide) (by decide) k) ?_
      exact own_retN X0 hx hlk (t := .boolean) hret (by simp) (hb hby d_rm1_35) e0 (by exact ⟨(by unfold own_res; rw [if_pos (by omega)]; rfl), N0, rfl⟩) (by decide) (by decide)
    · skip
      have hc9_102I : ¬ (x0).toInt = (21 : Int) := own_eqF hc9_102
      refine own_st (q' := s₁.setTop (mkF m 12 #[.val (.int x0)] [])) (fun _ k => XS.icmpNo X0.here hx rfl (hb hby d_rm1_9) rfl (feq hc9_102).1 k) ?_
      refine own_st (q' := s₁.setTop (mkF m 13 #[.val (.int x0)] [(.int x0)])) (fun _ k => XS.iloadN X0.here hx rfl (hb hby d_rm1_12) rfl k) ?_
      refine own_st (q' := s₁.setTop (mkF m 15 #[.val (.int x0)] [(.int (22 : Int32)), (.int x0)])) (fun _ k => XS.bipush X0.here hx rfl (hb hby d_rm1_13) k) ?_
      by_cases hc15_103 : x0 = (22 : Int32)
      · skip
        have hc15_103I : (x0).toInt = (22 : Int) := own_eqT hc15_103
        refine own_st (q' := s₁.setTop (mkF m 30 #[.val (.int x0)] [])) (fun _ k => XS.icmpYes X0.here hx rfl (pc0 := 15) (pc' := 30) rfl (hb hby d_rm1_15) rfl (teq hc15_103).1 (by decide) (by decide) k) ?_
        refine own_st (q' := s₁.setTop (mkF m 31 #[.val (.int x0)] [(.int (1 : Int32))])) (fun _ k => XS.iconst X0.here hx rfl (hb hby d_rm1_30) k) ?_
        refine own_st (q' := s₁.setTop (mkF m 35 #[.val (.int x0)] [(.int (1 : Int32))])) (fun _ k => XS.goto X0.here hx rfl (pc0 := 31) (pc' := 35) rfl (hb hby d_rm1_31) (by decide) (by decide) k) ?_
        exact own_retN X0 hx hlk (t := .boolean) hret (by simp) (hb hby d_rm1_35) e0 (by exact ⟨(by unfold own_res; rw [if_pos (by omega)]; rfl), N0, rfl⟩) (by decide) (by decide)
      · skip
        have hc15_103I : ¬ (x0).toInt = (22 : Int) := own_eqF hc15_103
        refine own_st (q' := s₁.setTop (mkF m 18 #[.val (.int x0)] [])) (fun _ k => XS.icmpNo X0.here hx rfl (hb hby d_rm1_15) rfl (feq hc15_103).1 k) ?_
        refine own_st (q' := s₁.setTop (mkF m 19 #[.val (.int x0)] [(.int x0)])) (fun _ k => XS.iloadN X0.here hx rfl (hb hby d_rm1_18) rfl k) ?_
        refine own_st (q' := s₁.setTop (mkF m 21 #[.val (.int x0)] [(.int (27 : Int32)), (.int x0)])) (fun _ k => XS.bipush X0.here hx rfl (hb hby d_rm1_19) k) ?_
        by_cases hc21_104 : x0 = (27 : Int32)
        · skip
          have hc21_104I : (x0).toInt = (27 : Int) := own_eqT hc21_104
          refine own_st (q' := s₁.setTop (mkF m 30 #[.val (.int x0)] [])) (fun _ k => XS.icmpYes X0.here hx rfl (pc0 := 21) (pc' := 30) rfl (hb hby d_rm1_21) rfl (teq hc21_104).1 (by decide) (by decide) k) ?_
          refine own_st (q' := s₁.setTop (mkF m 31 #[.val (.int x0)] [(.int (1 : Int32))])) (fun _ k => XS.iconst X0.here hx rfl (hb hby d_rm1_30) k) ?_
          refine own_st (q' := s₁.setTop (mkF m 35 #[.val (.int x0)] [(.int (1 : Int32))])) (fun _ k => XS.goto X0.here hx rfl (pc0 := 31) (pc' := 35) rfl (hb hby d_rm1_31) (by decide) (by decide) k) ?_
          exact own_retN X0 hx hlk (t := .boolean) hret (by simp) (hb hby d_rm1_35) e0 (by exact ⟨(by unfold own_res; rw [if_pos (by omega)]; rfl), N0, rfl⟩) (by decide) (by decide)
        · skip
          have hc21_104I : ¬ (x0).toInt = (27 : Int) := own_eqF hc21_104
          refine own_st (q' := s₁.setTop (mkF m 24 #[.val (.int x0)] [])) (fun _ k => XS.icmpNo X0.here hx rfl (hb hby d_rm1_21) rfl (feq hc21_104).1 k) ?_
          refine own_st (q' := s₁.setTop (mkF m 25 #[.val (.int x0)] [(.int x0)])) (fun _ k => XS.iloadN X0.here hx rfl (hb hby d_rm1_24) rfl k) ?_
          refine own_st (q' := s₁.setTop (mkF m 27 #[.val (.int x0)] [(.int (28 : Int32)), (.int x0)])) (fun _ k => XS.bipush X0.here hx rfl (hb hby d_rm1_25) k) ?_
          by_cases hc27_105 : x0 = (28 : Int32)
          · skip
            have hc27_105I : (x0).toInt = (28 : Int) := own_eqT hc27_105
            refine own_st (q' := s₁.setTop (mkF m 30 #[.val (.int x0)] [])) (fun _ k => XS.icmpNo X0.here hx rfl (hb hby d_rm1_27) rfl (teq hc27_105).2 k) ?_
            refine own_st (q' := s₁.setTop (mkF m 31 #[.val (.int x0)] [(.int (1 : Int32))])) (fun _ k => XS.iconst X0.here hx rfl (hb hby d_rm1_30) k) ?_
            refine own_st (q' := s₁.setTop (mkF m 35 #[.val (.int x0)] [(.int (1 : Int32))])) (fun _ k => XS.goto X0.here hx rfl (pc0 := 31) (pc' := 35) rfl (hb hby d_rm1_31) (by decide) (by decide) k) ?_
            exact own_retN X0 hx hlk (t := .boolean) hret (by simp) (hb hby d_rm1_35) e0 (by exact ⟨(by unfold own_res; rw [if_pos (by omega)]; rfl), N0, rfl⟩) (by decide) (by decide)
          · skip
            have hc27_105I : ¬ (x0).toInt = (28 : Int) := own_eqF hc27_105
            refine own_st (q' := s₁.setTop (mkF m 34 #[.val (.int x0)] [])) (fun _ k => XS.icmpYes X0.here hx rfl (pc0 := 27) (pc' := 34) rfl (hb hby d_rm1_27) rfl (feq hc27_105).2 (by decide) (by decide) k) ?_
            refine own_st (q' := s₁.setTop (mkF m 35 #[.val (.int x0)] [(.int (0 : Int32))])) (fun _ k => XS.iconst X0.here hx rfl (hb hby d_rm1_34) k) ?_
            exact own_retN X0 hx hlk (t := .boolean) hret (by simp) (hb hby d_rm1_35) e0 (by exact ⟨(by unfold own_res; rw [if_neg (by omega)]; rfl), N0, rfl⟩) (by decide) (by decide)
theorem pn_1 : plainName "com/example/flowstate/flowstate/runtime/WorkerProtocolIsResultsPinLaw" = true := by first | (simp [plainName, overriddenIn]; done) | decide +kernel
theorem ef_rm0 (m : MethodId) (x0 : Int32) (x1 : Int32) : entryFrame m #[(.int x0), (.int x1)] maxLocals = mkF m 0 #[.val (.int x0), .val (.int x1), .unset, .unset, .unset, .unset] [] := by first | (simp [entryFrame, mkF, argsToLocals, Value.category, maxLocals]; done) | rfl
theorem pd_0 : parseMethodDescriptor "(I)Z" = some ⟨[.int], some .boolean⟩ := by decide +kernel
set_option maxRecDepth 65536 in
set_option maxHeartbeats 40000000 in
theorem rm0 (l : Launch) (Z : State) (a0 : Array Value) (hw : ∀ d ∈ tables_1, d.before a0 Z = true) (ws : List Jvm.Cond) (x0 x1 : Int32) (h0 : Heap) (n0 : Nat) (Z0 : n0 ≤ h0.size) :
    own_Met l Z x ws code maxLocals ret room_1 #[(.int x0), (.int x1)] h0 (fun v h L => v = some (.int 1) ∧ Fr n0 L) := by
  refine own_body (y := x) (plainFor_of_name pn_1) ?_
  intro p e s m below meth c s₁ hx hby hml hown hnm hret hlk hZ X0 e0
  have hml : c.maxLocals = 6 := hml
  have hown : s.vm.findClass "com/example/flowstate/flowstate/runtime/WorkerProtocolIsResultsPinLaw" = some m.cls := hown
  have N0 := Fr.nil n0
  refine own_entry (ef_rm0 m x0 x1) ?_
  show own_Dn p e below s (fun v h L => v = some (.int 1) ∧ Fr n0 L) room_1.cells room_1.slots (s₁.setTop (mkF m 0 #[.val (.int x0), .val (.int x1), .unset, .unset, .unset, .unset] []))
  refine own_st (q' := s₁.setTop (mkF m 1 #[.val (.int x0), .val (.int x1), .unset, .unset, .unset, .unset] [(.int x1)])) (fun _ k => XS.iloadN X0.here hx rfl (hb hby at_0) rfl k) ?_
  refine own_st (q' := s₁.setTop (mkF m 2 #[.val (.int x0), .val (.int x1), .unset, .unset, .unset, .unset] [(.int (1 : Int32)), (.int x1)])) (fun _ k => XS.iconst X0.here hx rfl (hb hby at_1) k) ?_
  refine own_st (q' := s₁.setTop (mkF m 3 #[.val (.int x0), .val (.int x1), .unset, .unset, .unset, .unset] [(.int (x1 &&& (1 : Int32)))])) (fun _ k => XS.iand X0.here hx rfl (hb hby at_2) rfl k) ?_
  have j14 : ∀ (t : Int32), own_Dn p e below s (fun v h L => v = some (.int 1) ∧ Fr n0 L) room_1.cells room_1.slots (s₁.setTop (mkF m 14 #[.val (.int x0), .val (.int x1), .unset, .unset, .unset, .unset] [(.int t)])) := by
    intro t
    refine own_st (q' := s₁.setTop (mkF m 15 #[.val (.int x0), .val (.int x1), .val (.int t), .unset, .unset, .unset] [])) (fun _ k => XS.istoreN X0.here hx rfl (hb hby at_14) rfl (l' := #[.val (.int x0), .val (.int x1), .val (.int t), .unset, .unset, .unset]) rfl k) ?_
    refine own_st (q' := s₁.setTop (mkF m 18 #[.val (.int x0), .val (.int x1), .val (.int t), .unset, .unset, .unset] [(.long (408948736 : Int64))])) (fun _ k => X0.ldc2Long hx hown (mvT hZ (hw _ (List.mem_of_getElem? (i := 0) rfl))) (g := (mkF m 15 #[.val (.int x0), .val (.int x1), .val (.int t), .unset, .unset, .unset] [])) rfl (hb hby at_15) _ k) ?_
    refine own_st (q' := s₁.setTop (mkF m 19 #[.val (.int x0), .val (.int x1), .val (.int t), .val (.long (408948736 : Int64)), .second, .unset] [])) (fun _ k => XS.lstoreN X0.here hx rfl (hb hby at_18) rfl (l' := #[.val (.int x0), .val (.int x1), .val (.int t), .val (.long (408948736 : Int64)), .second, .unset]) rfl k) ?_
    refine own_st (q' := s₁.setTop (mkF m 20 #[.val (.int x0), .val (.int x1), .val (.int t), .val (.long (408948736 : Int64)), .second, .unset] [(.int t)])) (fun _ k => XS.iloadN X0.here hx rfl (hb hby at_19) rfl k) ?_
    by_cases hc20_101 : t < (0 : Int32)
    · skip
      have hc20_101I : (t).toInt < (0 : Int) := own_ltT hc20_101
      refine own_st (q' := s₁.setTop (mkF m 43 #[.val (.int x0), .val (.int x1), .val (.int t), .val (.long (408948736 : Int64)), .second, .unset] [])) (fun _ k => XS.ifYes X0.here hx rfl (pc0 := 20) (pc' := 43) rfl (hb hby at_20) rfl ((if0 _ _).trans (tlt hc20_101).1) (by decide) (by decide) k) ?_
      refine own_st (q' := s₁.setTop (mkF m 44 #[.val (.int x0), .val (.int x1), .val (.int t), .val (.long (408948736 : Int64)), .second, .unset] [(.int (0 : Int32))])) (fun _ k => XS.iconst X0.here hx rfl (hb hby at_43) k) ?_
      refine own_st (q' := s₁.setTop (mkF m 46 #[.val (.int x0), .val (.int x1), .val (.int t), .val (.long (408948736 : Int64)), .second, .val (.int (0 : Int32))] [])) (fun _ k => XS.istore X0.here hx rfl (hb hby at_44) rfl (l' := #[.val (.int x0), .val (.int x1), .val (.int t), .val (.long (408948736 : Int64)), .second, .val (.int (0 : Int32))]) rfl k) ?_
      refine own_st (q' := s₁.setTop (mkF m 47 #[.val (.int x0), .val (.int x1), .val (.int t), .val (.long (408948736 : Int64)), .second, .val (.int (0 : Int32))] [(.int t)])) (fun _ k => XS.iloadN X0.here hx rfl (hb hby at_46) rfl k) ?_
      refine own_callS (y := (⟨"com/example/flowstate/flowstate/runtime/WorkerProtocol", "isResults", "(I)Z"⟩ : MethodName)) X0 hx hZ hown (hw _ (List.mem_of_getElem? (i := 1) rfl)) (hw _ (List.mem_of_getElem? (i := 2) rfl)) (hw _ (List.mem_of_getElem? (i := 3) rfl)) (hw _ (List.mem_of_getElem? (i := 4) rfl)) (by decide) (rm1 l Z a0 hw [] t h0 n0 Z0) e0 (W := 0) (by decide) (by decide) (by decide) (by decide) (g := (mkF m 47 #[.val (.int x0), .val (.int x1), .val (.int t), .val (.long (408948736 : Int64)), .second, .val (.int (0 : Int32))] [(.int t)])) rfl (by rw [hml]; rfl) (argsL := [(.int t)]) (rest := []) rfl (lenOf pd_0 rfl) rfl (by show 2 * 0 + _ ≤ _; exact Nat.le_of_eq rfl) (hb hby at_47) ?_
      intro v102 T102 L102 hQ102 X102
      obtain ⟨rfl, NN102, e102⟩ := hQ102
      have N102 := Fr.app N0 NN102
      show own_Dn p e below s (fun v h L => v = some (.int 1) ∧ Fr n0 L) room_1.cells room_1.slots (T102.setTop (mkF m 50 #[.val (.int x0), .val (.int x1), .val (.int t), .val (.long (408948736 : Int64)), .second, .val (.int (0 : Int32))] [(.int (own_res t))]))
      refine own_st (q' := T102.setTop (mkF m 52 #[.val (.int x0), .val (.int x1), .val (.int t), .val (.long (408948736 : Int64)), .second, .val (.int (0 : Int32))] [(.int (0 : Int32)), (.int (own_res t))])) (fun _ k => XS.iload X102.here hx rfl (hb hby at_50) rfl k) ?_
      refine own_st (q' := T102.setTop (mkF m 55 #[.val (.int x0), .val (.int x1), .val (.int t), .val (.long (408948736 : Int64)), .second, .val (.int (0 : Int32))] [])) (fun _ k => XS.icmpNo X102.here hx rfl (hb hby at_52) rfl (teq (by unfold own_res; rw [if_neg (by omega)])).2 k) ?_
      refine own_st (q' := T102.setTop (mkF m 56 #[.val (.int x0), .val (.int x1), .val (.int t), .val (.long (408948736 : Int64)), .second, .val (.int (0 : Int32))] [(.int (1 : Int32))])) (fun _ k => XS.iconst X102.here hx rfl (hb hby at_55) k) ?_
      refine own_st (q' := T102.setTop (mkF m 60 #[.val (.int x0), .val (.int x1), .val (.int t), .val (.long (408948736 : Int64)), .second, .val (.int (0 : Int32))] [(.int (1 : Int32))])) (fun _ k => XS.goto X102.here hx rfl (pc0 := 56) (pc' := 60) rfl (hb hby at_56) (by decide) (by decide) k) ?_
      exact own_retN X102 hx hlk (t := .boolean) hret (by simp) (hb hby at_60) e102 (by exact ⟨rfl, N102⟩) (by decide) (by decide)
    · skip
      have hc20_101I : (0 : Int) ≤ (t).toInt := own_ltF hc20_101
      refine own_st (q' := s₁.setTop (mkF m 23 #[.val (.int x0), .val (.int x1), .val (.int t), .val (.long (408948736 : Int64)), .second, .unset] [])) (fun _ k => XS.ifNo X0.here hx rfl (hb hby at_20) rfl ((if0 _ _).trans (flt hc20_101).1) k) ?_
      refine own_st (q' := s₁.setTop (mkF m 24 #[.val (.int x0), .val (.int x1), .val (.int t), .val (.long (408948736 : Int64)), .second, .unset] [(.int t)])) (fun _ k => XS.iloadN X0.here hx rfl (hb hby at_23) rfl k) ?_
      refine own_st (q' := s₁.setTop (mkF m 26 #[.val (.int x0), .val (.int x1), .val (.int t), .val (.long (408948736 : Int64)), .second, .unset] [(.int (64 : Int32)), (.int t)])) (fun _ k => XS.bipush X0.here hx rfl (hb hby at_24) k) ?_
      by_cases hc26_103 : t < (64 : Int32)
      · skip
        have hc26_103I : (t).toInt < (64 : Int) := own_ltT hc26_103
        refine own_st (q' := s₁.setTop (mkF m 29 #[.val (.int x0), .val (.int x1), .val (.int t), .val (.long (408948736 : Int64)), .second, .unset] [])) (fun _ k => XS.icmpNo X0.here hx rfl (hb hby at_26) rfl (tlt hc26_103).2.1 k) ?_
        refine own_st (q' := s₁.setTop (mkF m 30 #[.val (.int x0), .val (.int x1), .val (.int t), .val (.long (408948736 : Int64)), .second, .unset] [(.long (408948736 : Int64))])) (fun _ k => XS.lloadN X0.here hx rfl (hb hby at_29) rfl k) ?_
        refine own_st (q' := s₁.setTop (mkF m 31 #[.val (.int x0), .val (.int x1), .val (.int t), .val (.long (408948736 : Int64)), .second, .unset] [(.int t), (.long (408948736 : Int64))])) (fun _ k => XS.iloadN X0.here hx rfl (hb hby at_30) rfl k) ?_
        refine own_st (q' := s₁.setTop (mkF m 32 #[.val (.int x0), .val (.int x1), .val (.int t), .val (.long (408948736 : Int64)), .second, .unset] [(.long (((408948736 : Int64).toUInt64 >>> (t &&& 0x3f).toInt64.toUInt64).toInt64))])) (fun _ k => XS.lushr X0.here hx rfl (hb hby at_31) rfl k) ?_
        refine own_st (q' := s₁.setTop (mkF m 33 #[.val (.int x0), .val (.int x1), .val (.int t), .val (.long (408948736 : Int64)), .second, .unset] [(.long (1 : Int64)), (.long (((408948736 : Int64).toUInt64 >>> (t &&& 0x3f).toInt64.toUInt64).toInt64))])) (fun _ k => XS.lconst X0.here hx rfl (hb hby at_32) k) ?_
        refine own_st (q' := s₁.setTop (mkF m 34 #[.val (.int x0), .val (.int x1), .val (.int t), .val (.long (408948736 : Int64)), .second, .unset] [(.long ((((408948736 : Int64).toUInt64 >>> (t &&& 0x3f).toInt64.toUInt64).toInt64) &&& (1 : Int64)))])) (fun _ k => XS.land X0.here hx rfl (hb hby at_33) rfl k) ?_
        refine own_st (q' := s₁.setTop (mkF m 35 #[.val (.int x0), .val (.int x1), .val (.int t), .val (.long (408948736 : Int64)), .second, .unset] [(.long (0 : Int64)), (.long ((((408948736 : Int64).toUInt64 >>> (t &&& 0x3f).toInt64.toUInt64).toInt64) &&& (1 : Int64)))])) (fun _ k => XS.lconst X0.here hx rfl (hb hby at_34) k) ?_
        refine own_st (q' := s₁.setTop (mkF m 36 #[.val (.int x0), .val (.int x1), .val (.int t), .val (.long (408948736 : Int64)), .second, .unset] [(.int (lcmpW ((((408948736 : Int64).toUInt64 >>> (t &&& 0x3f).toInt64.toUInt64).toInt64) &&& (1 : Int64)) (0 : Int64)))])) (fun _ k => XS.lcmp X0.here hx rfl (hb hby at_35) rfl k) ?_
        by_cases hc36_104 : (lcmpW ((((408948736 : Int64).toUInt64 >>> (t &&& 0x3f).toInt64.toUInt64).toInt64) &&& (1 : Int64)) (0 : Int64)) = (0 : Int32)
        · skip
          have hc36_104I : ((lcmpW ((((408948736 : Int64).toUInt64 >>> (t &&& 0x3f).toInt64.toUInt64).toInt64) &&& (1 : Int64)) (0 : Int64))).toInt = (0 : Int) := own_eqT hc36_104
          refine own_st (q' := s₁.setTop (mkF m 43 #[.val (.int x0), .val (.int x1), .val (.int t), .val (.long (408948736 : Int64)), .second, .unset] [])) (fun _ k => XS.ifYes X0.here hx rfl (pc0 := 36) (pc' := 43) rfl (hb hby at_36) rfl ((if0 _ _).trans (teq hc36_104).1) (by decide) (by decide) k) ?_
          refine own_st (q' := s₁.setTop (mkF m 44 #[.val (.int x0), .val (.int x1), .val (.int t), .val (.long (408948736 : Int64)), .second, .unset] [(.int (0 : Int32))])) (fun _ k => XS.iconst X0.here hx rfl (hb hby at_43) k) ?_
          refine own_st (q' := s₁.setTop (mkF m 46 #[.val (.int x0), .val (.int x1), .val (.int t), .val (.long (408948736 : Int64)), .second, .val (.int (0 : Int32))] [])) (fun _ k => XS.istore X0.here hx rfl (hb hby at_44) rfl (l' := #[.val (.int x0), .val (.int x1), .val (.int t), .val (.long (408948736 : Int64)), .second, .val (.int (0 : Int32))]) rfl k) ?_
          refine own_st (q' := s₁.setTop (mkF m 47 #[.val (.int x0), .val (.int x1), .val (.int t), .val (.long (408948736 : Int64)), .second, .val (.int (0 : Int32))] [(.int t)])) (fun _ k => XS.iloadN X0.here hx rfl (hb hby at_46) rfl k) ?_
          refine own_callS (y := (⟨"com/example/flowstate/flowstate/runtime/WorkerProtocol", "isResults", "(I)Z"⟩ : MethodName)) X0 hx hZ hown (hw _ (List.mem_of_getElem? (i := 1) rfl)) (hw _ (List.mem_of_getElem? (i := 2) rfl)) (hw _ (List.mem_of_getElem? (i := 3) rfl)) (hw _ (List.mem_of_getElem? (i := 4) rfl)) (by decide) (rm1 l Z a0 hw [] t h0 n0 Z0) e0 (W := 0) (by decide) (by decide) (by decide) (by decide) (g := (mkF m 47 #[.val (.int x0), .val (.int x1), .val (.int t), .val (.long (408948736 : Int64)), .second, .val (.int (0 : Int32))] [(.int t)])) rfl (by rw [hml]; rfl) (argsL := [(.int t)]) (rest := []) rfl (lenOf pd_0 rfl) rfl (by show 2 * 0 + _ ≤ _; exact Nat.le_of_eq rfl) (hb hby at_47) ?_
          intro v105 T105 L105 hQ105 X105
          obtain ⟨rfl, NN105, e105⟩ := hQ105
          have N105 := Fr.app N0 NN105
          show own_Dn p e below s (fun v h L => v = some (.int 1) ∧ Fr n0 L) room_1.cells room_1.slots (T105.setTop (mkF m 50 #[.val (.int x0), .val (.int x1), .val (.int t), .val (.long (408948736 : Int64)), .second, .val (.int (0 : Int32))] [(.int (own_res t))]))
          refine own_st (q' := T105.setTop (mkF m 52 #[.val (.int x0), .val (.int x1), .val (.int t), .val (.long (408948736 : Int64)), .second, .val (.int (0 : Int32))] [(.int (0 : Int32)), (.int (own_res t))])) (fun _ k => XS.iload X105.here hx rfl (hb hby at_50) rfl k) ?_
          refine own_st (q' := T105.setTop (mkF m 55 #[.val (.int x0), .val (.int x1), .val (.int t), .val (.long (408948736 : Int64)), .second, .val (.int (0 : Int32))] [])) (fun _ k => XS.icmpNo X105.here hx rfl (hb hby at_52) rfl (teq ((own_mask (by omega) (by omega)).mp hc36_104)).2 k) ?_
          refine own_st (q' := T105.setTop (mkF m 56 #[.val (.int x0), .val (.int x1), .val (.int t), .val (.long (408948736 : Int64)), .second, .val (.int (0 : Int32))] [(.int (1 : Int32))])) (fun _ k => XS.iconst X105.here hx rfl (hb hby at_55) k) ?_
          refine own_st (q' := T105.setTop (mkF m 60 #[.val (.int x0), .val (.int x1), .val (.int t), .val (.long (408948736 : Int64)), .second, .val (.int (0 : Int32))] [(.int (1 : Int32))])) (fun _ k => XS.goto X105.here hx rfl (pc0 := 56) (pc' := 60) rfl (hb hby at_56) (by decide) (by decide) k) ?_
          exact own_retN X105 hx hlk (t := .boolean) hret (by simp) (hb hby at_60) e105 (by exact ⟨rfl, N105⟩) (by decide) (by decide)
        · skip
          have hc36_104I : ¬ ((lcmpW ((((408948736 : Int64).toUInt64 >>> (t &&& 0x3f).toInt64.toUInt64).toInt64) &&& (1 : Int64)) (0 : Int64))).toInt = (0 : Int) := own_eqF hc36_104
          refine own_st (q' := s₁.setTop (mkF m 39 #[.val (.int x0), .val (.int x1), .val (.int t), .val (.long (408948736 : Int64)), .second, .unset] [])) (fun _ k => XS.ifNo X0.here hx rfl (hb hby at_36) rfl ((if0 _ _).trans (feq hc36_104).1) k) ?_
          refine own_st (q' := s₁.setTop (mkF m 40 #[.val (.int x0), .val (.int x1), .val (.int t), .val (.long (408948736 : Int64)), .second, .unset] [(.int (1 : Int32))])) (fun _ k => XS.iconst X0.here hx rfl (hb hby at_39) k) ?_
          refine own_st (q' := s₁.setTop (mkF m 44 #[.val (.int x0), .val (.int x1), .val (.int t), .val (.long (408948736 : Int64)), .second, .unset] [(.int (1 : Int32))])) (fun _ k => XS.goto X0.here hx rfl (pc0 := 40) (pc' := 44) rfl (hb hby at_40) (by decide) (by decide) k) ?_
          refine own_st (q' := s₁.setTop (mkF m 46 #[.val (.int x0), .val (.int x1), .val (.int t), .val (.long (408948736 : Int64)), .second, .val (.int (1 : Int32))] [])) (fun _ k => XS.istore X0.here hx rfl (hb hby at_44) rfl (l' := #[.val (.int x0), .val (.int x1), .val (.int t), .val (.long (408948736 : Int64)), .second, .val (.int (1 : Int32))]) rfl k) ?_
          refine own_st (q' := s₁.setTop (mkF m 47 #[.val (.int x0), .val (.int x1), .val (.int t), .val (.long (408948736 : Int64)), .second, .val (.int (1 : Int32))] [(.int t)])) (fun _ k => XS.iloadN X0.here hx rfl (hb hby at_46) rfl k) ?_
          refine own_callS (y := (⟨"com/example/flowstate/flowstate/runtime/WorkerProtocol", "isResults", "(I)Z"⟩ : MethodName)) X0 hx hZ hown (hw _ (List.mem_of_getElem? (i := 1) rfl)) (hw _ (List.mem_of_getElem? (i := 2) rfl)) (hw _ (List.mem_of_getElem? (i := 3) rfl)) (hw _ (List.mem_of_getElem? (i := 4) rfl)) (by decide) (rm1 l Z a0 hw [] t h0 n0 Z0) e0 (W := 0) (by decide) (by decide) (by decide) (by decide) (g := (mkF m 47 #[.val (.int x0), .val (.int x1), .val (.int t), .val (.long (408948736 : Int64)), .second, .val (.int (1 : Int32))] [(.int t)])) rfl (by rw [hml]; rfl) (argsL := [(.int t)]) (rest := []) rfl (lenOf pd_0 rfl) rfl (by show 2 * 0 + _ ≤ _; exact Nat.le_of_eq rfl) (hb hby at_47) ?_
          intro v106 T106 L106 hQ106 X106
          obtain ⟨rfl, NN106, e106⟩ := hQ106
          have N106 := Fr.app N0 NN106
          show own_Dn p e below s (fun v h L => v = some (.int 1) ∧ Fr n0 L) room_1.cells room_1.slots (T106.setTop (mkF m 50 #[.val (.int x0), .val (.int x1), .val (.int t), .val (.long (408948736 : Int64)), .second, .val (.int (1 : Int32))] [(.int (own_res t))]))
          refine own_st (q' := T106.setTop (mkF m 52 #[.val (.int x0), .val (.int x1), .val (.int t), .val (.long (408948736 : Int64)), .second, .val (.int (1 : Int32))] [(.int (1 : Int32)), (.int (own_res t))])) (fun _ k => XS.iload X106.here hx rfl (hb hby at_50) rfl k) ?_
          refine own_st (q' := T106.setTop (mkF m 55 #[.val (.int x0), .val (.int x1), .val (.int t), .val (.long (408948736 : Int64)), .second, .val (.int (1 : Int32))] [])) (fun _ k => XS.icmpNo X106.here hx rfl (hb hby at_52) rfl (teq ((own_res01 t).resolve_left fun q => hc36_104 ((own_mask (by omega) (by omega)).mpr q))).2 k) ?_
          refine own_st (q' := T106.setTop (mkF m 56 #[.val (.int x0), .val (.int x1), .val (.int t), .val (.long (408948736 : Int64)), .second, .val (.int (1 : Int32))] [(.int (1 : Int32))])) (fun _ k => XS.iconst X106.here hx rfl (hb hby at_55) k) ?_
          refine own_st (q' := T106.setTop (mkF m 60 #[.val (.int x0), .val (.int x1), .val (.int t), .val (.long (408948736 : Int64)), .second, .val (.int (1 : Int32))] [(.int (1 : Int32))])) (fun _ k => XS.goto X106.here hx rfl (pc0 := 56) (pc' := 60) rfl (hb hby at_56) (by decide) (by decide) k) ?_
          exact own_retN X106 hx hlk (t := .boolean) hret (by simp) (hb hby at_60) e106 (by exact ⟨rfl, N106⟩) (by decide) (by decide)
      · skip
        have hc26_103I : (64 : Int) ≤ (t).toInt := own_ltF hc26_103
        refine own_st (q' := s₁.setTop (mkF m 43 #[.val (.int x0), .val (.int x1), .val (.int t), .val (.long (408948736 : Int64)), .second, .unset] [])) (fun _ k => XS.icmpYes X0.here hx rfl (pc0 := 26) (pc' := 43) rfl (hb hby at_26) rfl (flt hc26_103).2.1 (by decide) (by decide) k) ?_
        refine own_st (q' := s₁.setTop (mkF m 44 #[.val (.int x0), .val (.int x1), .val (.int t), .val (.long (408948736 : Int64)), .second, .unset] [(.int (0 : Int32))])) (fun _ k => XS.iconst X0.here hx rfl (hb hby at_43) k) ?_
        refine own_st (q' := s₁.setTop (mkF m 46 #[.val (.int x0), .val (.int x1), .val (.int t), .val (.long (408948736 : Int64)), .second, .val (.int (0 : Int32))] [])) (fun _ k => XS.istore X0.here hx rfl (hb hby at_44) rfl (l' := #[.val (.int x0), .val (.int x1), .val (.int t), .val (.long (408948736 : Int64)), .second, .val (.int (0 : Int32))]) rfl k) ?_
        refine own_st (q' := s₁.setTop (mkF m 47 #[.val (.int x0), .val (.int x1), .val (.int t), .val (.long (408948736 : Int64)), .second, .val (.int (0 : Int32))] [(.int t)])) (fun _ k => XS.iloadN X0.here hx rfl (hb hby at_46) rfl k) ?_
        refine own_callS (y := (⟨"com/example/flowstate/flowstate/runtime/WorkerProtocol", "isResults", "(I)Z"⟩ : MethodName)) X0 hx hZ hown (hw _ (List.mem_of_getElem? (i := 1) rfl)) (hw _ (List.mem_of_getElem? (i := 2) rfl)) (hw _ (List.mem_of_getElem? (i := 3) rfl)) (hw _ (List.mem_of_getElem? (i := 4) rfl)) (by decide) (rm1 l Z a0 hw [] t h0 n0 Z0) e0 (W := 0) (by decide) (by decide) (by decide) (by decide) (g := (mkF m 47 #[.val (.int x0), .val (.int x1), .val (.int t), .val (.long (408948736 : Int64)), .second, .val (.int (0 : Int32))] [(.int t)])) rfl (by rw [hml]; rfl) (argsL := [(.int t)]) (rest := []) rfl (lenOf pd_0 rfl) rfl (by show 2 * 0 + _ ≤ _; exact Nat.le_of_eq rfl) (hb hby at_47) ?_
        intro v107 T107 L107 hQ107 X107
        obtain ⟨rfl, NN107, e107⟩ := hQ107
        have N107 := Fr.app N0 NN107
        show own_Dn p e below s (fun v h L => v = some (.int 1) ∧ Fr n0 L) room_1.cells room_1.slots (T107.setTop (mkF m 50 #[.val (.int x0), .val (.int x1), .val (.int t), .val (.long (408948736 : Int64)), .second, .val (.int (0 : Int32))] [(.int (own_res t))]))
        refine own_st (q' := T107.setTop (mkF m 52 #[.val (.int x0), .val (.int x1), .val (.int t), .val (.long (408948736 : Int64)), .second, .val (.int (0 : Int32))] [(.int (0 : Int32)), (.int (own_res t))])) (fun _ k => XS.iload X107.here hx rfl (hb hby at_50) rfl k) ?_
        refine own_st (q' := T107.setTop (mkF m 55 #[.val (.int x0), .val (.int x1), .val (.int t), .val (.long (408948736 : Int64)), .second, .val (.int (0 : Int32))] [])) (fun _ k => XS.icmpNo X107.here hx rfl (hb hby at_52) rfl (teq (by unfold own_res; rw [if_neg (by omega)])).2 k) ?_
        refine own_st (q' := T107.setTop (mkF m 56 #[.val (.int x0), .val (.int x1), .val (.int t), .val (.long (408948736 : Int64)), .second, .val (.int (0 : Int32))] [(.int (1 : Int32))])) (fun _ k => XS.iconst X107.here hx rfl (hb hby at_55) k) ?_
        refine own_st (q' := T107.setTop (mkF m 60 #[.val (.int x0), .val (.int x1), .val (.int t), .val (.long (408948736 : Int64)), .second, .val (.int (0 : Int32))] [(.int (1 : Int32))])) (fun _ k => XS.goto X107.here hx rfl (pc0 := 56) (pc' := 60) rfl (hb hby at_56) (by decide) (by decide) k) ?_
        exact own_retN X107 hx hlk (t := .boolean) hret (by simp) (hb hby at_60) e107 (by exact ⟨rfl, N107⟩) (by decide) (by decide)
  by_cases hc3_108 : (x1 &&& (1 : Int32)) = (0 : Int32)
  · skip
    have hc3_108I : ((x1 &&& (1 : Int32))).toInt = (0 : Int) := own_eqT hc3_108
    refine own_st (q' := s₁.setTop (mkF m 10 #[.val (.int x0), .val (.int x1), .unset, .unset, .unset, .unset] [])) (fun _ k => XS.ifYes X0.here hx rfl (pc0 := 3) (pc' := 10) rfl (hb hby at_3) rfl ((if0 _ _).trans (teq hc3_108).1) (by decide) (by decide) k) ?_
    refine own_st (q' := s₁.setTop (mkF m 11 #[.val (.int x0), .val (.int x1), .unset, .unset, .unset, .unset] [(.int x0)])) (fun _ k => XS.iloadN X0.here hx rfl (hb hby at_10) rfl k) ?_
    refine own_st (q' := s₁.setTop (mkF m 13 #[.val (.int x0), .val (.int x1), .unset, .unset, .unset, .unset] [(.int (31 : Int32)), (.int x0)])) (fun _ k => XS.bipush X0.here hx rfl (hb hby at_11) k) ?_
    refine own_st (q' := s₁.setTop (mkF m 14 #[.val (.int x0), .val (.int x1), .unset, .unset, .unset, .unset] [(.int (x0 &&& (31 : Int32)))])) (fun _ k => XS.iand X0.here hx rfl (hb hby at_13) rfl k) ?_
    exact j14 (x0 &&& (31 : Int32))
  · skip
    have hc3_108I : ¬ ((x1 &&& (1 : Int32))).toInt = (0 : Int) := own_eqF hc3_108
    refine own_st (q' := s₁.setTop (mkF m 6 #[.val (.int x0), .val (.int x1), .unset, .unset, .unset, .unset] [])) (fun _ k => XS.ifNo X0.here hx rfl (hb hby at_3) rfl ((if0 _ _).trans (feq hc3_108).1) k) ?_
    refine own_st (q' := s₁.setTop (mkF m 7 #[.val (.int x0), .val (.int x1), .unset, .unset, .unset, .unset] [(.int x0)])) (fun _ k => XS.iloadN X0.here hx rfl (hb hby at_6) rfl k) ?_
    refine own_st (q' := s₁.setTop (mkF m 14 #[.val (.int x0), .val (.int x1), .unset, .unset, .unset, .unset] [(.int x0)])) (fun _ k => XS.goto X0.here hx rfl (pc0 := 7) (pc' := 14) rfl (hb hby at_7) (by decide) (by decide) k) ?_
    exact j14 x0
set_option maxRecDepth 65536 in
set_option maxHeartbeats 40000000 in
theorem comes_1 {Post : Tables → Env → Array Value → State → Outcome → State → Prop} (hpost : ∀ tb e args s v u, (limb_1_1.after args s (.returned v) u = true ∧ limb_1_2.after args s (.returned v) u = true ∧ True) → FrameEnd s (.returned v) u (Jvm.fieldLocs frame_1_writes args s ++ Jvm.arrayLocs frame_1_arrays args s ++ Jvm.staticLocs frame_1_statics s) 0 0 → Post tb e args s (.returned v) u) :
    ArmFor flags0 classFile x code maxLocals ret World_1 tables_1 room_1 Calls_1 rest_1 Pre_1 Post := by
  intro l hfl _ _ p e ha hc hk s m args below hf hA hF happ hP
  obtain ⟨hcalls, hrest, hpre⟩ := hP
  obtain ⟨-, -, -, hnamed, -, -, -, hat⟩ := (Spec.applies_iff hf).mp happ
  obtain ⟨hg, hn⟩ := and_e (Cond.before_iff.mp (show (Jvm.Cond.and given_1 narrow_1).before args s = true from hpre))
  obtain ⟨hcount, g0⟩ := and_e hg
  obtain ⟨hi0, g1⟩ := and_e g0
  have hi1 := g1
  obtain ⟨w0, w1, rfl⟩ : ∃ w0 w1 : Value, args = #[w0, w1] := by
    have hs : args.size = 2 := by simpa [Cond.value, given_1] using hcount
    obtain ⟨L⟩ := args
    match L, hs with
    | [w0, w1], _ => exact ⟨w0, w1, rfl⟩
  have hw := fun d (hd : d ∈ tables_1) => atoms_spec (ws := Jvm.Cond.code x code maxLocals ret :: tables_1) hat d (List.mem_cons_of_mem _ hd)
  have hfit : Fit s := fun {y c} hc i hi => by
    obtain ⟨ha, rfl⟩ := Array.getElem?_eq_some_iff.mp hc
    have q := List.all_eq_true.mp ((Array.all_eq_true_iff_forall_mem.mp hF) _ (Array.getElem_mem ha)) i (List.mem_range.mpr hi)
    simpa [Array.getElem?_eq_getElem hi] using q
  obtain ⟨i0, ei0⟩ := is_v hi0
  obtain rfl : w0 = (.int i0) := Option.some.inj ei0
  obtain ⟨i1, ei1⟩ := is_v hi1
  obtain rfl : w1 = (.int i1) := Option.some.inj ei1
  obtain ⟨n, o, h1, h2, h3, _, L, rfl, ⟨rfl, N⟩, hq⟩ := rm0 l s _ hw tables_1 i0 i1 s.heap s.heap.size (Nat.le_refl _) p e ha hc hk s m _ below hf ((Spec.applies_iff_loose hf).mp happ).1 ⟨rfl, State.Warmed39.refl s, rfl⟩ trivial
  refine ⟨n, _, h1, h2, h3, hpost _ _ _ _ _ _ ⟨Cond.after_iff.mpr rfl, Cond.after_iff.mpr (eq_i res_at (Term.int_eval (1)) rfl), trivial⟩ ⟨hq.1, hq.2.1, (hq.2.2.sift fun y hy => Or.inr (N y hy)).mono (by decide) (by decide)⟩⟩
theorem main_1_1 : Claimed_1_1 := comes_1 fun _ _ _ _ _ _ h hF => ⟨h.1, hF⟩
theorem main_1_2 : Claimed_1_2 := comes_1 fun _ _ _ _ _ _ h hF => ⟨h.2.1, hF⟩
end Jvm.Pilot.@@N@@
namespace Jvm.Pilot.@@N@@
open Jvm Jvm.ClassFile Sem Op Lib Jvm.Free Jvm.Stand Jvm.Pilot.@@N@@.Jvm.D
/-! MADE BY PROGRAM (witnessworld.py) out of the Statement's table words and the real class files: 9 classes; the members and pool entries that the words name. The judged class is class 1, her method 1. -/
namespace start1
open Jvm.ClassFile
def u (s : String) : CpInfo := .utf8 (stringToUtf16 s)
/-- a pool by its gaps: so many unusable entries, then the entry; so many at the end -/
def gap : Nat → List CpInfo → List CpInfo
  | 0, r => r
  | n + 1, r => .unusable :: gap n r
def poolList (es : List (Nat × CpInfo)) (last : Nat) : List CpInfo := es.foldr (fun e r => gap e.1 (e.2 :: r)) (gap last [])
def pool (es : List (Nat × CpInfo)) (last : Nat) : Array CpInfo := ⟨poolList es last⟩
def fileOf (pool : Array CpInfo) (this : Nat) (attrs : Array Attribute := #[]) (ms : Array MethodInfo := #[]) (fl : Nat := 33) (sup : Nat := 0) (ifs : Array Nat := #[]) (fds : Array FieldInfo := #[]) : ClassFile where
  minorVersion := 0
  majorVersion := 65
  constantPool := pool
  accessFlags := fl
  thisClass := this
  superClass := sup
  interfaces := ifs
  fields := fds
  methods := ms
  attributes := attrs
def plain (name : String) (sup : Option ClassId) : Class where
  name := name
  kind := .ordinary
  loader := none
  accessFlags := 33
  super := sup
  interfaces := #[]
  cf := none
  fields := #[]
  methods := #[]
  instanceTypes := #[]
  staticTypes := #[]
  resolved := #[]
  callSites := []
  init := .initialized
  statics := none
  mirror := none

def pool0 : Array CpInfo := pool [(5, u "<init>"), (0, u "()V"), (1, .class_ 10), (1, u "java/lang/Object")] 113

def k0m0 : Method := { name := "<init>", desc := "()V", sig := { parameters := [], returnType := none }, accessFlags := 1, code := none }
/-- java/lang/Object -/
def k0 : Class := { plain "java/lang/Object" none with
  accessFlags := 33
  interfaces := #[]
  cf := some (fileOf pool0 8 #[] #[{ accessFlags := 1, nameIndex := 5, descriptorIndex := 6, attributes := #[] }] 33 0 #[] #[])
  fields := #[]
  methods := #[k0m0]
  instanceTypes := #[]
  staticTypes := #[]
  resolved := Array.replicate 124 none
  statics := none }

def pool1 : Array CpInfo := pool [(2, .class_ 4), (1, u "java/lang/Object"), (0, u "<init>"), (0, u "()V"), (0, .class_ 8), (0, u "com/example/flowstate/flowstate/runtime/WorkerProtocol"), (0, .long 408948736), (1, .methodref 7 12), (0, .nameAndType 13 14), (0, u "isResults"), (0, u "(I)Z"), (0, .class_ 16), (0, u "com/example/flowstate/flowstate/runtime/WorkerProtocolIsResultsPinLaw"), (2, u "law"), (0, u "(II)Z")] 3

def k1m0 : Method := { name := "<init>", desc := "()V", sig := { parameters := [], returnType := none }, accessFlags := 2, code := none }
def k1c1 : Code := { maxStack := 4, maxLocals := 6, code := code, exceptionTable := #[], attributes := #[] }
def k1m1 : Method := { name := "law", desc := "(II)Z", sig := { parameters := [.int, .int], returnType := some .boolean }, accessFlags := 9, code := some k1c1 }
/-- com/example/flowstate/flowstate/runtime/WorkerProtocolIsResultsPinLaw -/
def k1 : Class := { plain "com/example/flowstate/flowstate/runtime/WorkerProtocolIsResultsPinLaw" (some 0) with
  accessFlags := 49
  interfaces := #[]
  cf := some (fileOf pool1 15 #[] #[{ accessFlags := 2, nameIndex := 5, descriptorIndex := 6, attributes := #[] }, { accessFlags := 9, nameIndex := 19, descriptorIndex := 20, attributes := #[] }] 49 2 #[] #[])
  fields := #[]
  methods := #[k1m0, k1m1]
  instanceTypes := #[]
  staticTypes := #[]
  resolved := Array.replicate 24 none
  statics := none }

def pool2 : Array CpInfo := pool [(2, .class_ 4), (1, u "java/lang/Object"), (0, u "<init>"), (0, u "()V"), (0, .class_ 8), (0, u "com/example/flowstate/flowstate/runtime/WorkerProtocol"), (7, .class_ 18), (1, u "com/example/flowstate/flowstate/runtime/WorkerProtocol$Setup"), (59, .class_ 79), (0, u "com/example/flowstate/flowstate/runtime/WorkerProtocol$PlacedOperator"), (140, .class_ 222), (1, u "com/example/flowstate/flowstate/runtime/WorkerProtocol$Tuples"), (2, .class_ 226), (0, u "com/example/flowstate/flowstate/runtime/WorkerProtocol$Watch"), (11, .class_ 239), (0, u "com/example/flowstate/flowstate/runtime/WorkerProtocol$Checkpoint"), (3, .class_ 244), (0, u "com/example/flowstate/flowstate/runtime/WorkerProtocol$Restore"), (65, .class_ 312), (1, u "com/example/flowstate/flowstate/runtime/WorkerProtocol$Tally"), (0, u "I"), (19, .class_ 335), (1, u "com/example/flowstate/flowstate/runtime/WorkerProtocol$Results"), (27, u "NO_RESULTS"), (0, u "[Ljava/lang/String;"), (53, u "SETUP"), (2, u "TUPLE"), (1, u "PLACED"), (1, u "WATCH"), (1, u "WATCH_ENDS"), (1, u "FLUSH"), (1, u "FINISH"), (1, u "PEERS"), (1, u "CHECKPOINT"), (1, u "RESTORE"), (1, u "READY"), (1, u "RAN"), (1, u "FLUSHED"), (1, u "REPORT"), (1, u "FAILED"), (1, u "CONNECTED"), (1, u "CHECKPOINTED"), (1, u "RESTORED"), (1, u "FORWARDED"), (1, u "RAN_FORWARDED"), (1, u "STREAM"), (1, u "FORWARD"), (1, u "FORWARDED_THROUGH"), (1, u "FORWARDED_MARK"), (1, u "RAN_COUNTED"), (1, u "RAN_FORWARDED_COUNTED"), (61, u "isResults"), (0, u "(I)Z")] 53

def k2m0 : Method := { name := "<init>", desc := "()V", sig := { parameters := [], returnType := none }, accessFlags := 2, code := none }
def k2c1 : Code := { maxStack := 2, maxLocals := 1, code := prog_114_method_35_code, exceptionTable := #[], attributes := #[] }
def k2m1 : Method := { name := "isResults", desc := "(I)Z", sig := { parameters := [.int], returnType := some .boolean }, accessFlags := 8, code := some k2c1 }
/-- com/example/flowstate/flowstate/runtime/WorkerProtocol -/
def k2 : Class := { plain "com/example/flowstate/flowstate/runtime/WorkerProtocol" (some 0) with
  accessFlags := 48
  interfaces := #[]
  cf := some (fileOf pool2 7 #[.nestMembers #[310, 333, 220, 243, 238, 225, 16, 78]] #[{ accessFlags := 2, nameIndex := 5, descriptorIndex := 6, attributes := #[] }, { accessFlags := 8, nameIndex := 531, descriptorIndex := 532, attributes := #[] }] 48 2 #[] #[{ accessFlags := 24, nameIndex := 418, descriptorIndex := 313, attributes := #[] }, { accessFlags := 24, nameIndex := 421, descriptorIndex := 313, attributes := #[] }, { accessFlags := 24, nameIndex := 423, descriptorIndex := 313, attributes := #[] }, { accessFlags := 24, nameIndex := 425, descriptorIndex := 313, attributes := #[] }, { accessFlags := 24, nameIndex := 427, descriptorIndex := 313, attributes := #[] }, { accessFlags := 24, nameIndex := 429, descriptorIndex := 313, attributes := #[] }, { accessFlags := 24, nameIndex := 431, descriptorIndex := 313, attributes := #[] }, { accessFlags := 24, nameIndex := 433, descriptorIndex := 313, attributes := #[] }, { accessFlags := 24, nameIndex := 435, descriptorIndex := 313, attributes := #[] }, { accessFlags := 24, nameIndex := 437, descriptorIndex := 313, attributes := #[] }, { accessFlags := 24, nameIndex := 439, descriptorIndex := 313, attributes := #[] }, { accessFlags := 24, nameIndex := 441, descriptorIndex := 313, attributes := #[] }, { accessFlags := 24, nameIndex := 443, descriptorIndex := 313, attributes := #[] }, { accessFlags := 24, nameIndex := 445, descriptorIndex := 313, attributes := #[] }, { accessFlags := 24, nameIndex := 447, descriptorIndex := 313, attributes := #[] }, { accessFlags := 24, nameIndex := 449, descriptorIndex := 313, attributes := #[] }, { accessFlags := 24, nameIndex := 451, descriptorIndex := 313, attributes := #[] }, { accessFlags := 24, nameIndex := 453, descriptorIndex := 313, attributes := #[] }, { accessFlags := 24, nameIndex := 455, descriptorIndex := 313, attributes := #[] }, { accessFlags := 24, nameIndex := 457, descriptorIndex := 313, attributes := #[] }, { accessFlags := 24, nameIndex := 459, descriptorIndex := 313, attributes := #[] }, { accessFlags := 24, nameIndex := 461, descriptorIndex := 313, attributes := #[] }, { accessFlags := 24, nameIndex := 463, descriptorIndex := 313, attributes := #[] }, { accessFlags := 24, nameIndex := 465, descriptorIndex := 313, attributes := #[] }, { accessFlags := 24, nameIndex := 467, descriptorIndex := 313, attributes := #[] }, { accessFlags := 24, nameIndex := 469, descriptorIndex := 313, attributes := #[] }, { accessFlags := 26, nameIndex := 363, descriptorIndex := 364, attributes := #[] }])
  fields := #[{ name := "SETUP", type := .int, accessFlags := 24, slot := 0, constantValue := 0 }, { name := "TUPLE", type := .int, accessFlags := 24, slot := 1, constantValue := 0 }, { name := "PLACED", type := .int, accessFlags := 24, slot := 2, constantValue := 0 }, { name := "WATCH", type := .int, accessFlags := 24, slot := 3, constantValue := 0 }, { name := "WATCH_ENDS", type := .int, accessFlags := 24, slot := 4, constantValue := 0 }, { name := "FLUSH", type := .int, accessFlags := 24, slot := 5, constantValue := 0 }, { name := "FINISH", type := .int, accessFlags := 24, slot := 6, constantValue := 0 }, { name := "PEERS", type := .int, accessFlags := 24, slot := 7, constantValue := 0 }, { name := "CHECKPOINT", type := .int, accessFlags := 24, slot := 8, constantValue := 0 }, { name := "RESTORE", type := .int, accessFlags := 24, slot := 9, constantValue := 0 }, { name := "READY", type := .int, accessFlags := 24, slot := 10, constantValue := 0 }, { name := "RAN", type := .int, accessFlags := 24, slot := 11, constantValue := 0 }, { name := "FLUSHED", type := .int, accessFlags := 24, slot := 12, constantValue := 0 }, { name := "REPORT", type := .int, accessFlags := 24, slot := 13, constantValue := 0 }, { name := "FAILED", type := .int, accessFlags := 24, slot := 14, constantValue := 0 }, { name := "CONNECTED", type := .int, accessFlags := 24, slot := 15, constantValue := 0 }, { name := "CHECKPOINTED", type := .int, accessFlags := 24, slot := 16, constantValue := 0 }, { name := "RESTORED", type := .int, accessFlags := 24, slot := 17, constantValue := 0 }, { name := "FORWARDED", type := .int, accessFlags := 24, slot := 18, constantValue := 0 }, { name := "RAN_FORWARDED", type := .int, accessFlags := 24, slot := 19, constantValue := 0 }, { name := "STREAM", type := .int, accessFlags := 24, slot := 20, constantValue := 0 }, { name := "FORWARD", type := .int, accessFlags := 24, slot := 21, constantValue := 0 }, { name := "FORWARDED_THROUGH", type := .int, accessFlags := 24, slot := 22, constantValue := 0 }, { name := "FORWARDED_MARK", type := .int, accessFlags := 24, slot := 23, constantValue := 0 }, { name := "RAN_COUNTED", type := .int, accessFlags := 24, slot := 24, constantValue := 0 }, { name := "RAN_FORWARDED_COUNTED", type := .int, accessFlags := 24, slot := 25, constantValue := 0 }, { name := "NO_RESULTS", type := (.array (.object "java/lang/String")), accessFlags := 26, slot := 26, constantValue := 0 }]
  methods := #[k2m0, k2m1]
  instanceTypes := #[]
  staticTypes := #[.int, .int, .int, .int, .int, .int, .int, .int, .int, .int, .int, .int, .int, .int, .int, .int, .int, .int, .int, .int, .int, .int, .int, .int, .int, .int, (.array (.object "java/lang/String"))]
  resolved := Array.replicate 586 none
  statics := none }

def pool3 : Array CpInfo := pool [(1, u "java/lang/Cloneable"), (0, .class_ 1), (0, u "java/lang/Object"), (0, .class_ 3)] 3

/-- java/lang/Cloneable -/
def k3 : Class := { plain "java/lang/Cloneable" (some 0) with
  accessFlags := 1537
  interfaces := #[]
  cf := some (fileOf pool3 2 #[] #[] 1537 4 #[] #[])
  fields := #[]
  methods := #[]
  instanceTypes := #[]
  staticTypes := #[]
  resolved := Array.replicate 8 none
  statics := none }

def pool4 : Array CpInfo := pool [(1, u "java/io/Serializable"), (0, .class_ 1), (0, u "java/lang/Object"), (0, .class_ 3)] 3

/-- java/io/Serializable -/
def k4 : Class := { plain "java/io/Serializable" (some 0) with
  accessFlags := 1537
  interfaces := #[]
  cf := some (fileOf pool4 2 #[] #[] 1537 4 #[] #[])
  fields := #[]
  methods := #[]
  instanceTypes := #[]
  staticTypes := #[]
  resolved := Array.replicate 8 none
  statics := none }

/-- the primitive byte -/
def k5 : Class := { plain "byte" none with kind := .primitive 'B', accessFlags := 0x411 }
/-- [B -/
def k6 : Class := { plain "[B" (some 0) with kind := .array 5 .byte, interfaces := #[3, 4], accessFlags := 1041 }

/-- the primitive int -/
def k7 : Class := { plain "int" none with kind := .primitive 'I', accessFlags := 0x411 }
/-- [I -/
def k8 : Class := { plain "[I" (some 0) with kind := .array 7 .int, interfaces := #[3, 4], accessFlags := 1041 }

def heap : Heap := #[]
def classes : Array Class := #[k0, k1, k2, k3, k4, k5, k6, k7, k8]
def interned : List (Array UInt16 × Addr) := []
def slotsUsed : Nat := 0
def theMethod : MethodId := ⟨1, 1⟩
def args0 : Array Value := #[.int 5, .int 7]
def aboutOver (below : List Frame) : State where
  vm := { classes := classes, interned := interned.toArray }
  heap := heap
  slotsUsed := slotsUsed
  threads := #[{ frames := .invoking theMethod args0 :: below }]
def below0 : List Frame := [.native { method := ⟨0, 0⟩, args := #[] }]
def about1 : State := aboutOver below0
def p0 : Program := .bare "" "" ""
def e0 : Env := launch0.env 0 0 0
theorem w_frames : about1.frames = Frame.invoking theMethod args0 :: below0 := rfl
set_option maxRecDepth 65536 in
theorem w_args : argsFit about1.vm theMethod args0 = true := by decide +kernel
set_option maxRecDepth 65536 in
theorem w_heap : heapFits about1 = true := by decide +kernel
set_option maxRecDepth 65536 in
theorem w_runnable : about1.curStatus? = some .runnable := by decide +kernel
set_option maxRecDepth 65536 in
theorem w_alone : about1.alone = true := by decide +kernel
set_option maxRecDepth 65536 in
theorem w_named : about1.methodNamed? x = some theMethod := by decide +kernel
set_option maxRecDepth 65536 in
theorem w_hears : about1.hears theMethod below0 = true := by decide +kernel
set_option maxRecDepth 65536 in
theorem w_ripe : about1.ripe theMethod args0 below0 = true := by decide +kernel
theorem w_running : about1.status = .running := rfl
set_option maxRecDepth 65536 in
theorem w_room : about1.hasRoom e0.platform room_1 = true :=
  launch0.hasRoom_least _ room_1 (by decide +kernel) (by decide +kernel) (by decide +kernel) (by decide +kernel) (by decide +kernel) (by decide +kernel)
theorem allAtoms_all (ts : List Jvm.Cond) (a : Array Jvm.Value) (st : Jvm.State) : (allAtoms ts).before a st = ts.all (fun c => c.before a st) := by
  induction ts with
  | nil => rfl
  | cons c t ih =>
    show (Jvm.Cond.and c (allAtoms t)).before a st = _
    rw [Jvm.Cond.before_and, ih, List.all_cons]
def words1 : List Jvm.Cond := Jvm.Cond.code x code maxLocals ret :: tables_1
/-- a 'code' word, met by the world's own term for the bytes: nothing is compared byte by byte -/
theorem code_word {y : MethodName} {bytes : ByteArray} {mx : Nat} {rt : Option FieldType} {a : Array Value} {s : State} {m : MethodId} {meth : Method} {c : Code} (h1 : s.methodNamed? y = some m) (h2 : s.vm.method? m = some meth) (h3 : meth.code = some c) (h4 : c.code = bytes)
    (h5 : (c.maxLocals == mx && c.exceptionTable.isEmpty && decide (c.maxStack ≤ mostOperands) && decide (meth.sig.returnType = rt) && !meth.locks && decide (parseMethodDescriptor y.desc = some meth.sig)) = true) : (Jvm.Cond.code y bytes mx rt).before a s = true := by
  simp only [Bool.and_eq_true, beq_iff_eq, Bool.not_eq_true', decide_eq_true_eq] at h5
  obtain ⟨⟨⟨⟨⟨g1, g2⟩, g3⟩, g4⟩, g5⟩, g6⟩ := h5
  simp [Cond.before, Cond.holds, Cond.value, h1, h2, h3, h4, g1, g2, g3, g4, g5, g6]
def isCode : Jvm.Cond → Bool
  | .code _ _ _ _ => true
  | _ => false
theorem all_split {L : List Jvm.Cond} {P : Jvm.Cond → Bool} (h1 : L.all (fun c => isCode c || P c) = true) (h2 : ∀ c ∈ L.filter isCode, P c = true) : L.all P = true := by
  refine List.all_eq_true.mpr fun c hc => ?_
  have h := List.all_eq_true.mp h1 c hc
  rcases Bool.eq_false_or_eq_true (isCode c) with hi | hi
  · exact h2 c (List.mem_filter.mpr ⟨hc, hi⟩)
  · simpa [hi] using h
set_option maxRecDepth 65536 in
theorem w_c0 : (Jvm.Cond.code x code maxLocals ret).before args0 about1 = true := code_word (m := ⟨1, 1⟩) (meth := k1m1) (c := k1c1) (by decide +kernel) rfl rfl rfl (by decide +kernel)
set_option maxRecDepth 65536 in
theorem w_c1 : (Jvm.Cond.code ({ cls := "com/example/flowstate/flowstate/runtime/WorkerProtocol", name := "isResults", desc := "(I)Z" } : Jvm.MethodName) prog_114_method_35_code (1 : Nat) (Option.some Jvm.ClassFile.FieldType.boolean)).before args0 about1 = true := code_word (m := ⟨2, 1⟩) (meth := k2m1) (c := k2c1) (by decide +kernel) rfl rfl rfl (by decide +kernel)
def codes1 : List Jvm.Cond := [Jvm.Cond.code x code maxLocals ret, Jvm.Cond.code ({ cls := "com/example/flowstate/flowstate/runtime/WorkerProtocol", name := "isResults", desc := "(I)Z" } : Jvm.MethodName) prog_114_method_35_code (1 : Nat) (Option.some Jvm.ClassFile.FieldType.boolean)]
set_option maxRecDepth 65536 in
theorem codes_eq : words1.filter isCode = codes1 := rfl
theorem w_codes : ∀ c ∈ words1.filter isCode, c.before args0 about1 = true := by
  rw [codes_eq]
  intro c hc
  simp only [codes1, List.mem_cons, List.not_mem_nil, or_false] at hc
  rcases hc with rfl | rfl
  · exact w_c0
  · exact w_c1
set_option maxRecDepth 65536 in
theorem w_t1 : words1.all (fun c => isCode c || c.before args0 about1) = true := by decide +kernel
theorem w_tables : (allAtoms (Jvm.Cond.code x code maxLocals ret :: tables_1)).before args0 about1 = true := by
  rw [allAtoms_all]
  show words1.all (fun c => c.before args0 about1) = true
  refine all_split ?_ w_codes
  rw [w_t1]
set_option maxRecDepth 65536 in
theorem w_case : (Jvm.Cond.and given_1 narrow_1).before args0 about1 = true := by decide +kernel
theorem w_applies : (headSpec (Jvm.Cond.code x code maxLocals ret :: tables_1) room_1).applies x e0.platform about1 = true :=
  (Spec.applies_iff w_frames).mpr ⟨w_running, w_runnable, w_alone, w_named, w_hears, w_ripe, w_room, w_tables⟩
theorem atStart : AtStart classFile x code maxLocals ret World_1 tables_1 room_1 Calls_1 rest_1 Pre_1 launch0 p0 e0 about1 theMethod args0 below0 :=
  ⟨lists_1, trivial, launch0.admits_env _ _ _, launch0.least_env, fairChoices_fair.cas, fairChoices_fair.clock, w_frames, w_args, w_heap, w_applies, trivial, trivial, w_case⟩
end start1
theorem witness_1 : WitnessClaimed_1 := ⟨start1.p0, start1.e0, start1.about1, start1.theMethod, start1.args0, start1.below0, start1.atStart⟩
end Jvm.Pilot.@@N@@
