import JvmDerived
import JvmDerived.Pilot.@@N@@Statement
import JvmDerived.Pilot.@@N@@Code
set_option linter.unusedVariables false
set_option linter.unusedSimpArgs false
namespace Jvm.RoadKit
open Sem ClassFile Op Lib Jvm.Stand Jvm.Free Jvm.LawKit
section New
variable {p : Program} {l : Launch} {e : Env} {R : Room} {s : State} {m : MethodId} {args : Array Value} {below : List Frame} {meth : Method} {c : Code} {T : State} {locs : List Loc} {cells slots : Nat}
theorem retI (X : Stand p l e R s m args below meth c T locs cells slots) (hx : p.tables.exec = Jvm.exec) {pc : Nat} {Ls : Array Slot} {z : Int32} {rest : List Value} (hret : meth.sig.returnType = some .int) (hd : decode c.code pc = .ok (.ireturn, 1)) {fs : List Frame}
    (hl : ∀ (f : JFrame) (acts : List Action), f.method = m → f.locked = none → f.entered = [] → (doReturn e (T.setTop f) acts (some (.int z))).1 = T.setFrames fs) : Steps p.tables e below (T.setTop (mkF m pc Ls (.int z :: rest))) (T.setFrames fs) := by
  have hm' : T.vm.method? m = some meth := X.method'
  have hn : narrow .int (.int z) = .int z := rfl
  show Steps p.tables e below (T.setTop { method := m, pc := pc, locals := Ls, stack := _ :: rest, locked := none }) _
  jvm_step X.here [X.here.top, hx, hd, hm', hret, hn]
  first | (intro acts; rw [hl _ acts rfl rfl rfl]) | rw [hl _ _ rfl rfl rfl]
  exact Steps.refl _
end New
end Jvm.RoadKit
namespace Jvm.Pilot.@@N@@
open Jvm Jvm.ClassFile Sem Op Lib Jvm.Free Jvm.Stand Jvm.LawKit Jvm.RoadKit Bundle Jvm.Pilot.@@N@@.Jvm.D
section Own
variable {p : Program} {l : Launch} {e : Env} {R : Room} {s : State} {m : MethodId} {args : Array Value} {below : List Frame} {meth : Method} {c : Code} {T : State} {locs : List Loc} {cells slots : Nat} {Q : Option Value → Heap → List Loc → Prop} {nc ns : Nat}
/-- from here the run comes to an end of which Q speaks -/
def own_Dn (p : Program) (e : Env) (below : List Frame) (s : State) (Q : Option Value → Heap → List Loc → Prop) (nc ns : Nat) (q : State) : Prop :=
  ∃ t o, Steps p.tables e below q t ∧ t.status = .running ∧ Ended t below o ∧ ∃ v L, o = .returned v ∧ Q v t.heap L ∧ FrameEnd s o t L nc ns
theorem own_st {q q' : State} (h : ∀ t, Steps p.tables e below q' t → Steps p.tables e below q t) (d : own_Dn p e below s Q nc ns q') : own_Dn p e below s Q nc ns q := by
  obtain ⟨t, o, h1, r⟩ := d
  exact ⟨t, o, h _ h1, r⟩
/-- a body's contract -/
def own_Met (l : Launch) (Z : State) (y : MethodName) (ws : List Jvm.Cond) (bytes : ByteArray) (maxL : Nat) (ret : Option FieldType) (rm : Room) (as : Array Value) (h0 : Heap) (Q : Option Value → Heap → List Loc → Prop) : Prop :=
  MetFree l y (head1 (Jvm.Cond.code y bytes maxL ret :: ws) rm) (fun a U => a = as ∧ Z.Warmed39 U.vm ∧ U.heap = h0) (fun _ _ _ _ _ => True) (fun _ U o U' => ∃ v L, o = .returned v ∧ Q v U'.heap L ∧ FrameEnd U o U' L rm.cells rm.slots)
theorem own_body {Z : State} {y : MethodName} {ws : List Jvm.Cond} {bytes : ByteArray} {maxL : Nat} {ret : Option FieldType} {rm : Room} {as : Array Value} {h0 : Heap} (hp : plainFor y = true)
    (body : ∀ p e s m below meth c s₁, p.tables.exec = Jvm.exec → c.code = bytes → c.maxLocals = maxL → s.vm.findClass y.cls = some m.cls → meth.name = y.name → meth.sig.returnType = ret → meth.locks = false → Z.Warmed39 s.vm → Stand p l e rm s m as below meth c s₁ [] 0 0 → s₁.heap = h0 → own_Dn p e below s Q rm.cells rm.slots (s₁.setTop (entryFrame m as maxL))) :
    own_Met l Z y ws bytes maxL ret rm as h0 Q := by
  refine MetFree.of_bodySF hp hisR ?_
  intro p e s m args below meth c s₁ Bd hml0 hP hK
  obtain ⟨rfl, hZ, hh⟩ := hP
  exact body p e s m below meth c s₁ Bd.exec Bd.bytes hml0 (findClass_of_methodNamed Bd.named) (name_of_methodNamed Bd.named Bd.method).1 Bd.returns Bd.notSynchronized hZ (Stand.of_body Bd) (by rw [← hh, Bd.state]; rfl)
theorem own_entry {m : MethodId} {as : Array Value} {maxL : Nat} {g : JFrame} (q : entryFrame m as maxL = g) (d : own_Dn p e below s Q nc ns (T.setTop g)) : own_Dn p e below s Q nc ns (T.setTop (entryFrame m as maxL)) := q ▸ d
theorem own_retI (X : Stand p l e R s m args below meth c T locs cells slots) (hx : p.tables.exec = Jvm.exec) (hlk : meth.locks = false) {pc : Nat} {Ls : Array Slot} {z : Int32} {rest : List Value} (hret : meth.sig.returnType = some .int) (hd : decode c.code pc = .ok (.ireturn, 1)) {h : Heap} (eT : T.heap = h) (hQ : Q (some (.int z)) h locs) (hc : cells ≤ nc) (hs : slots ≤ ns) :
    own_Dn p e below s Q nc ns (T.setTop (mkF m pc Ls (.int z :: rest))) := by
  obtain ⟨fs, hr, hrun, hended, hW, hsame⟩ := X.leave (v := some (.int z)) (fun h => by rw [hret] at h; cases h) hlk
  subst eT
  exact ⟨_, _, retI X hx hret hd hr, hrun, hended, _, _, rfl, hQ, ⟨_, rfl⟩, hW, hsame.mono hc hs⟩
theorem own_retN (X : Stand p l e R s m args below meth c T locs cells slots) (hx : p.tables.exec = Jvm.exec) (hlk : meth.locks = false) {t : FieldType} {pc : Nat} {Ls : Array Slot} {z : Int32} {rest : List Value} (hret : meth.sig.returnType = some t) (ht : t = .boolean ∨ t = .byte ∨ t = .char ∨ t = .short) (hd : decode c.code pc = .ok (.ireturn, 1)) {h : Heap} (eT : T.heap = h) (hQ : Q (some (.int (nar t z))) h locs) (hc : cells ≤ nc) (hs : slots ≤ ns) :
    own_Dn p e below s Q nc ns (T.setTop (mkF m pc Ls (.int z :: rest))) := by
  obtain ⟨fs, hr, hrun, hended, hW, hsame⟩ := X.leave (v := some (.int (nar t z))) (fun h => by rw [hret] at h; cases h) hlk
  subst eT
  exact ⟨_, _, retN X hx hret ht hd hr, hrun, hended, _, _, rfl, hQ, ⟨_, rfl⟩, hW, hsame.mono hc hs⟩
theorem own_retV (X : Stand p l e R s m args below meth c T locs cells slots) (hx : p.tables.exec = Jvm.exec) (hlk : meth.locks = false) {pc : Nat} {Ls : Array Slot} (hret : meth.sig.returnType = none) (hd : decode c.code pc = .ok (.return_, 1)) {h : Heap} (eT : T.heap = h) (hQ : Q none h locs) (hc : cells ≤ nc) (hs : slots ≤ ns) :
    own_Dn p e below s Q nc ns (T.setTop (mkF m pc Ls [])) := by
  obtain ⟨fs, hr, hrun, hended, hW, hsame⟩ := X.leave (v := none) (fun _ => rfl) hlk
  subst eT
  exact ⟨_, _, X.returnOut hx hret hd hr, hrun, hended, _, _, rfl, hQ, ⟨_, rfl⟩, hW, hsame.mono hc hs⟩
theorem own_retO (X : Stand p l e R s m args below meth c T locs cells slots) (hx : p.tables.exec = Jvm.exec) (hlk : meth.locks = false) {t : FieldType} {w : Value} {i : Instr} {pc : Nat} {Ls : Array Slot} {rest : List Value} (hret : meth.sig.returnType = some t) (hn : narrow t w = w)
    (hi : (i = .ireturn ∧ (t = .int ∨ t = .boolean ∨ t = .byte ∨ t = .char ∨ t = .short) ∧ ∃ z, w = .int z) ∨ (i = .lreturn ∧ t = .long ∧ ∃ z, w = .long z) ∨ (i = .dreturn ∧ t = .double ∧ ∃ z, w = .double z) ∨ (i = .freturn ∧ t = .float ∧ ∃ z, w = .float z) ∨ (i = .areturn ∧ t.isReference = true ∧ w.isRef = true))
    (hd : decode c.code pc = .ok (i, 1)) {h : Heap} (eT : T.heap = h) (hQ : Q (some w) h locs) (hc : cells ≤ nc) (hs : slots ≤ ns) : own_Dn p e below s Q nc ns (T.setTop (mkF m pc Ls (w :: rest))) := by
  obtain ⟨fs, hr, hrun, hended, hW, hsame⟩ := X.leave (v := some w) (fun h => by rw [hret] at h; cases h) hlk
  subst eT
  exact ⟨_, _, retOut X hx hret hn hi hd hr, hrun, hended, _, _, rfl, hQ, ⟨_, rfl⟩, hW, hsame.mono hc hs⟩
theorem own_mono {cells' slots' : Nat} (X : Stand p l e R s m args below meth c T locs cells slots) (h1 : cells ≤ cells') (h2 : slots ≤ slots') : Stand p l e R s m args below meth c T locs cells' slots' :=
  ⟨X.admits, X.cas, X.clock, X.frames, X.room, X.hears, X.method, X.code, X.here, X.tail, X.warmed, X.limits, X.bytes, X.same.mono h1 h2⟩
theorem own_callS {Z : State} {a0 : Array Value} {h : Heap} {own : String} {index : Nat} {y : MethodName} {bytes : ByteArray} {maxL : Nat} {ret : Option FieldType} {rm : Room} {as : Array Value} {Q' : Option Value → Heap → List Loc → Prop}
    (X : Stand p l e R s m args below meth c T locs cells slots) (hx : p.tables.exec = Jvm.exec) (hZ : Z.Warmed39 s.vm) (hown : s.vm.findClass own = some m.cls)
    (w1 : (Cond.methodLink own index y).before a0 Z = true) (w2 : (Cond.static y).before a0 Z = true) (w3 : (Cond.initialized y.cls).before a0 Z = true) (w4 : (Cond.code y bytes maxL ret).before a0 Z = true) (hy : y.cls ≠ "java/lang/invoke/MethodHandle" ∧ y.cls ≠ "java/lang/invoke/VarHandle")
    (M : own_Met l Z y [] bytes maxL ret rm as h Q') (eT : T.heap = h) {W : Nat} (hf : rm.frames + 1 ≤ R.frames) (hl : W + (maxL + 11) + rm.locals ≤ R.locals) (hc : cells + rm.cells ≤ R.cells) (hs : slots + rm.slots ≤ R.slots)
    {g : JFrame} (hg : g.method = m) (hsize : g.locals.size = c.maxLocals) {argsL rest : List Value} (has : argsL.toArray = as) (hlen : ∀ sig, parseMethodDescriptor y.desc = some sig → argsL.length = sig.parameters.length)
    (hstack : g.stack = argsL.reverse ++ rest) (hW : 2 * g.monitorRoom + (rest.map fun v => v.category).sum ≤ W) (hd : decode c.code g.pc = .ok (.invokestatic index, 3))
    (k : ∀ v T' L, Q' v T'.heap L → Stand p l e R s m args below meth c T' (locs ++ L) (cells + rm.cells) (slots + rm.slots) → own_Dn p e below s Q nc ns (T'.setTop { g with pc := g.pc + 3, stack := v.toList ++ rest })) :
    own_Dn p e below s Q nc ns (T.setTop g) := by
  obtain ⟨v, _, ⟨T', L', k', n'⟩, -, X', ⟨Lc, hQ, l1, y1, z1⟩, st⟩ := Jvm.LawKit.callS X hx hown (mvT hZ w1) (mvT hZ w2) (mvT hZ w3) (mvT hZ w4) hy (backOf (W := W) M hZ w4 w3 hf hl) hg hsize (argsL := argsL) (rest := rest) hlen hstack hW hd (fun _ _ => ⟨has, eT, hc, hs⟩)
  dsimp only [Pt.U, Pt.locs, Pt.cells, Pt.slots] at X' l1 y1 z1 st hQ
  subst l1 y1 z1
  exact own_st (fun t q => st t q) (k v T' Lc hQ X')
theorem own_callI {Z : State} {a0 : Array Value} {h : Heap} {own : String} {index : Nat} {y : MethodName} {bytes : ByteArray} {maxL : Nat} {rm : Room} {as : Array Value} {Q' : Option Value → Heap → List Loc → Prop}
    (X : Stand p l e R s m args below meth c T locs cells slots) (hx : p.tables.exec = Jvm.exec) (hZ : Z.Warmed39 s.vm) (hown : s.vm.findClass own = some m.cls) (hy1 : y.name = "<init>")
    (w1 : (Cond.methodLink own index y).before a0 Z = true) (w2 : (Cond.instanceMethod y).before a0 Z = true) (w3 : (Cond.initialized y.cls).before a0 Z = true) (w4 : (Cond.code y bytes maxL none).before a0 Z = true) (hy : y.cls ≠ "java/lang/invoke/MethodHandle" ∧ y.cls ≠ "java/lang/invoke/VarHandle")
    (M : own_Met l Z y [] bytes maxL none rm as h Q') (eT : T.heap = h) {W : Nat} (hf : rm.frames + 1 ≤ R.frames) (hl : W + (maxL + 11) + rm.locals ≤ R.locals) (hc : cells + rm.cells ≤ R.cells) (hs : slots + rm.slots ≤ R.slots)
    {g : JFrame} (hg : g.method = m) (hsize : g.locals.size = c.maxLocals) {a : Addr} {argsL rest : List Value} (has : (.ref a :: argsL).toArray = as) (hlen : ∀ sig, parseMethodDescriptor y.desc = some sig → argsL.length = sig.parameters.length)
    (hstack : g.stack = argsL.reverse ++ .ref a :: rest) (hW : 2 * g.monitorRoom + (rest.map fun v => v.category).sum ≤ W) (hd : decode c.code g.pc = .ok (.invokespecial index, 3))
    (k : ∀ v T' L, Q' v T'.heap L → Stand p l e R s m args below meth c T' (locs ++ L) (cells + rm.cells) (slots + rm.slots) → own_Dn p e below s Q nc ns (T'.setTop { g with pc := g.pc + 3, stack := v.toList ++ rest })) :
    own_Dn p e below s Q nc ns (T.setTop g) := by
  obtain ⟨v, _, ⟨T', L', k', n'⟩, -, X', ⟨Lc, hQ, l1, y1, z1⟩, st⟩ := X.specialBack hx hy1 hown (mvT hZ w1) (mvT hZ w2) (mvT hZ w4) hy (backOf (W := W) M hZ w4 w3 hf hl) hg hsize (Steps.refl _) (a := a) (argsL := argsL) (rest := rest) hlen hstack hW hd (fun _ _ => ⟨has, eT, hc, hs⟩)
  dsimp only [Pt.U, Pt.locs, Pt.cells, Pt.slots] at X' l1 y1 z1 st hQ
  subst l1 y1 z1
  exact own_st (fun t q => st.trans q) (k v T' Lc hQ X')
theorem own_callV {Z : State} {a0 : Array Value} {h : Heap} {own C : String} {index : Nat} {y : MethodName} {bytes : ByteArray} {maxL : Nat} {ret : Option FieldType} {rm : Room} {as : Array Value} {Q' : Option Value → Heap → List Loc → Prop}
    (X : Stand p l e R s m args below meth c T locs cells slots) (hx : p.tables.exec = Jvm.exec) (hZ : Z.Warmed39 s.vm) (hown : s.vm.findClass own = some m.cls)
    (w1 : (Cond.methodLink own index y).before a0 Z = true) (w2 : (Cond.declares y).before a0 Z = true) (w5 : (Cond.selects C y y).before a0 Z = true) (w6 : (Cond.instanceMethod y).before a0 Z = true) (w3 : (Cond.initialized y.cls).before a0 Z = true) (w4 : (Cond.code y bytes maxL ret).before a0 Z = true) (hy : y.cls ≠ "java/lang/invoke/MethodHandle" ∧ y.cls ≠ "java/lang/invoke/VarHandle")
    (M : own_Met l Z y [] bytes maxL ret rm as h Q') (eT : T.heap = h) {b : Addr} (E : Exa Z h b C) {W : Nat} (hf : rm.frames + 1 ≤ R.frames) (hl : W + (maxL + 11) + rm.locals ≤ R.locals) (hc : cells + rm.cells ≤ R.cells) (hs : slots + rm.slots ≤ R.slots)
    {g : JFrame} (hg : g.method = m) (hsize : g.locals.size = c.maxLocals) {argsL rest : List Value} (has : (.ref b :: argsL).toArray = as) (hlen : ∀ sig, parseMethodDescriptor y.desc = some sig → argsL.length = sig.parameters.length)
    (hstack : g.stack = argsL.reverse ++ .ref b :: rest) (hW : 2 * g.monitorRoom + (rest.map fun v => v.category).sum ≤ W) (hd : decode c.code g.pc = .ok (.invokevirtual index, 3))
    (k : ∀ v T' L, Q' v T'.heap L → Stand p l e R s m args below meth c T' (locs ++ L) (cells + rm.cells) (slots + rm.slots) → own_Dn p e below s Q nc ns (T'.setTop { g with pc := g.pc + 3, stack := v.toList ++ rest })) :
    own_Dn p e below s Q nc ns (T.setTop g) := by
  obtain ⟨cq, kq, qa, qb, qc⟩ := isOf hZ eT E
  obtain ⟨v, _, ⟨T', L', k', n'⟩, -, X', ⟨Lc, hQ, l1, y1, z1⟩, st⟩ := X.virtualBack hx hown (mvT hZ w1) (mvT hZ w2) (notFace_of_selects (args := #[]) (mvT hZ w5)) (mvT hZ w5) (mvT hZ w6) hy (backOf (W := W) M hZ w4 w3 hf hl) qa qc hg hsize (Steps.refl _) (argsL := argsL) (rest := rest) hlen hstack hW hd (fun _ _ => ⟨has, eT, hc, hs⟩)
  dsimp only [Pt.U, Pt.locs, Pt.cells, Pt.slots] at X' l1 y1 z1 st hQ
  subst l1 y1 z1
  exact own_st (fun t q => st.trans q) (k v T' Lc hQ X')
theorem own_callF {Z : State} {a0 : Array Value} {h : Heap} {own C : String} {index count : Nat} {xi y : MethodName} {bytes : ByteArray} {maxL : Nat} {ret : Option FieldType} {rm : Room} {as : Array Value} {Q' : Option Value → Heap → List Loc → Prop}
    (X : Stand p l e R s m args below meth c T locs cells slots) (hx : p.tables.exec = Jvm.exec) (hZ : Z.Warmed39 s.vm) (hown : s.vm.findClass own = some m.cls)
    (w1 : (Cond.methodLink own index xi).before a0 Z = true) (w2 : (Cond.declares xi).before a0 Z = true) (wf : (Cond.interfaceMethod xi.cls xi.cls xi.name xi.desc).before a0 Z = true) (w5 : (Cond.selects C xi y).before a0 Z = true) (w6 : (Cond.instanceMethod y).before a0 Z = true)
    (wp : (Cond.publicMethod y).before a0 Z = true) (wu : (Cond.unhidden C xi.name xi.desc).before a0 Z = true) (wk : (Cond.castable C xi.cls).before a0 Z = true) (w3 : (Cond.initialized y.cls).before a0 Z = true) (w4 : (Cond.code y bytes maxL ret).before a0 Z = true) (hy : xi.cls ≠ "java/lang/invoke/MethodHandle" ∧ xi.cls ≠ "java/lang/invoke/VarHandle")
    (M : own_Met l Z y [] bytes maxL ret rm as h Q') (eT : T.heap = h) {b : Addr} (E : Exa Z h b C) {W : Nat} (hf : rm.frames + 1 ≤ R.frames) (hl : W + (maxL + 11) + rm.locals ≤ R.locals) (hc : cells + rm.cells ≤ R.cells) (hs : slots + rm.slots ≤ R.slots)
    {g : JFrame} (hg : g.method = m) (hsize : g.locals.size = c.maxLocals) {argsL rest : List Value} (has : (.ref b :: argsL).toArray = as) (hlen : ∀ sig, parseMethodDescriptor xi.desc = some sig → argsL.length = sig.parameters.length)
    (hstack : g.stack = argsL.reverse ++ .ref b :: rest) (hW : 2 * g.monitorRoom + (rest.map fun v => v.category).sum ≤ W) (hd : decode c.code g.pc = .ok (.invokeinterface index count, 5))
    (k : ∀ v T' L, Q' v T'.heap L → Stand p l e R s m args below meth c T' (locs ++ L) (cells + rm.cells) (slots + rm.slots) → own_Dn p e below s Q nc ns (T'.setTop { g with pc := g.pc + 5, stack := v.toList ++ rest })) :
    own_Dn p e below s Q nc ns (T.setTop g) := by
  obtain ⟨cq, kq, qa, qb, qc⟩ := isOf hZ eT E
  have hfc : ((Cond.interfaceMethod xi.cls xi.cls xi.name xi.desc).onTables && (Cond.interfaceMethod xi.cls xi.cls xi.name xi.desc).keepsFace) = true := by simp [Cond.onTables, Cond.keepsFace, Cond.keeps, Cond.steady, Cond.faceAtom, hy.1, hy.2]
  obtain ⟨v, _, ⟨T', L', k', n'⟩, -, X', ⟨Lc, hQ, l1, y1, z1⟩, st⟩ := X.interfaceBack hx hown (mvT hZ w1) (mvT hZ w2) (mvT hZ wf hfc) (mvT hZ w5) (mvT hZ w6) (mvT hZ wp) (mvT hZ wu) (mvT hZ wk) hy (backOf (W := W) M hZ w4 w3 hf hl) qa qb qc hg hsize (Steps.refl _) (argsL := argsL) (rest := rest) hlen hstack hW hd (fun _ _ => ⟨has, eT, hc, hs⟩)
  dsimp only [Pt.U, Pt.locs, Pt.cells, Pt.slots] at X' l1 y1 z1 st hQ
  subst l1 y1 z1
  exact own_st (fun t q => st.trans q) (k v T' Lc hQ X')
theorem own_lrem {tb : Tables} [Ours tb] {e : Env} {below : List Frame} {T target : State} {m : MethodId} {c : Code} {g : JFrame} (h : At T m c below) (hx : tb.exec = Jvm.exec) (hg : g.method = m) {x y : Int64} {rest : List Value} (hd : decode c.code g.pc = .ok (.lrem, 1)) (hs : g.stack = .long y :: .long x :: rest) (hy : y ≠ 0)
    (hr : Steps tb e below (T.setTop { g with pc := g.pc + 1, stack := .long (x % y) :: rest }) target) : Steps tb e below (T.setTop g) target :=
  Jvm.Free.XT.lrem h hx hg hd hs hy (by rw [lrem_mod]; exact hr)
theorem own_ltT {x y : Int32} (h : x < y) : x.toInt < y.toInt := Int32.lt_iff_toInt_lt.mp h
theorem own_ltF {x y : Int32} (h : ¬ x < y) : y.toInt ≤ x.toInt := by rw [Int32.lt_iff_toInt_lt] at h; omega
theorem own_eqT {x y : Int32} (h : x = y) : x.toInt = y.toInt := congrArg _ h
theorem own_eqF {x y : Int32} (h : ¬ x = y) : ¬ x.toInt = y.toInt := fun q => h (Int32.toInt_inj.mp q)
theorem own_lt {x y : Int32} (h : x.toInt < y.toInt) : x < y := Int32.lt_iff_toInt_lt.mpr h
theorem own_nlt {x y : Int32} (h : y.toInt ≤ x.toInt) : ¬ x < y := by rw [Int32.lt_iff_toInt_lt]; omega
theorem own_eq {x y : Int32} (h : x.toInt = y.toInt) : x = y := Int32.toInt_inj.mp h
theorem own_ne {x y : Int32} (h : ¬ x.toInt = y.toInt) : ¬ x = y := fun q => h (congrArg _ q)
theorem own_cat1 {v : Value} (h : v.isRef = true) : v.category = 1 := by cases v <;> simp_all [Value.isRef, Value.category]
theorem own_dupX2 {tb : Tables} [Ours tb] {e : Env} {below : List Frame} {T target : State} {m : MethodId} {c : Code} {g : JFrame} (h : At T m c below) (hx : tb.exec = Jvm.exec) (hg : g.method = m) {x y z : Value} {rest : List Value} (hd : decode c.code g.pc = .ok (.dup_x2, 1)) (hs : g.stack = x :: y :: z :: rest) (hc : x.category = 1) (hc' : y.category = 1) (hc'' : z.category = 1)
    (hr : Steps tb e below (T.setTop { g with pc := g.pc + 1, stack := x :: y :: z :: x :: rest }) target) : Steps tb e below (T.setTop g) target := by
  subst hg
  jvm_step h [h.top, hx, hd, hs, hc, hc', hc'']
  exact hr
end Own
def own_wi (w a b : Int64) : Int32 := if (0 : Int32) < lcmpW (-(w * (1000 : Int64))) (a - b) then 0 else if lcmpW (a - b) (w * (1000 : Int64)) < (0 : Int32) then 1 else 0
theorem own_plain (w a b : Int64) (h1 : 0 ≤ w.toInt) (h2 : w.toInt ≤ 9223372036854775) (ha : 0 ≤ a.toInt) (hb : 0 ≤ b.toInt) :
    own_wi w a b = (if lcmpW a b < (0 : Int32) then (if (0 : Int32) < lcmpW (b - a) (w * (1000 : Int64)) then 0 else 1) else (if lcmpW (a - b) (w * (1000 : Int64)) < (0 : Int32) then 1 else 0)) := by
  have e1 := c_lmul w 1000
  have e2 := c_lneg (w * 1000)
  have e3 := c_lsub a b
  have e4 := c_lsub b a
  have r1 := rng64 (w * 1000)
  have r2 := rng64 (-(w * 1000))
  have r3 := rng64 (a - b)
  have r4 := rng64 (b - a)
  have r5 := rng64 a
  have r6 := rng64 b
  have l1 : (1000 : Int64).toInt = 1000 := rfl
  rw [l1] at e1
  have f1 : (w * 1000).toInt = w.toInt * 1000 := by omega
  have f2 : (-(w * 1000)).toInt = -(w * 1000).toInt := by omega
  have f3 : (a - b).toInt = a.toInt - b.toInt := by omega
  have f4 : (b - a).toInt = b.toInt - a.toInt := by omega
  simp only [own_wi, lw_lt, lw_gt, Int64.lt_iff_toInt_lt, f2, f1, f3, f4]
  clear e1 e2 e3 e4 r1 r2 r3 r4 f1 f2 f3 f4
  repeat' split
  all_goals first | rfl | (exfalso; omega)
theorem pn_0 : plainName "com/example/ashurbanipal/ashurbanipal/store/VersionRules" = true := by first | (simp [plainName, overriddenIn]; done) | decide +kernel
theorem ef_rmI (m : MethodId) (x0 : Addr) (x1 : Int32) (x2 : Int32) (x3 : Int64) (x4 : Int64) : entryFrame m #[(.ref x0), (.int x1), (.int x2), (.long x3), (.long x4)] 7 = mkF m 0 #[.val (.ref x0), .val (.int x1), .val (.int x2), .val (.long x3), .second, .val (.long x4), .second] [] := by first | (simp [entryFrame, mkF, argsToLocals, Value.category]; done) | rfl
theorem d_rmI_0 : decode prog_28_method_1_code 0 = .ok (.aload_n 0, 1) := by decide +kernel
theorem d_rmI_1 : decode prog_28_method_1_code 1 = .ok (.invokespecial 3, 3) := by decide +kernel
theorem d_rmI_4 : decode prog_28_method_1_code 4 = .ok (.aload_n 0, 1) := by decide +kernel
theorem d_rmI_5 : decode prog_28_method_1_code 5 = .ok (.iload_n 1, 1) := by decide +kernel
theorem d_rmI_6 : decode prog_28_method_1_code 6 = .ok (.putfield 9, 3) := by decide +kernel
theorem d_rmI_9 : decode prog_28_method_1_code 9 = .ok (.aload_n 0, 1) := by decide +kernel
theorem d_rmI_10 : decode prog_28_method_1_code 10 = .ok (.iload_n 2, 1) := by decide +kernel
theorem d_rmI_11 : decode prog_28_method_1_code 11 = .ok (.putfield 15, 3) := by decide +kernel
theorem d_rmI_14 : decode prog_28_method_1_code 14 = .ok (.aload_n 0, 1) := by decide +kernel
theorem d_rmI_15 : decode prog_28_method_1_code 15 = .ok (.lload_n 3, 1) := by decide +kernel
theorem d_rmI_16 : decode prog_28_method_1_code 16 = .ok (.putfield 18, 3) := by decide +kernel
theorem d_rmI_19 : decode prog_28_method_1_code 19 = .ok (.aload_n 0, 1) := by decide +kernel
theorem d_rmI_20 : decode prog_28_method_1_code 20 = .ok (.lload 5, 2) := by decide +kernel
theorem d_rmI_22 : decode prog_28_method_1_code 22 = .ok (.putfield 22, 3) := by decide +kernel
theorem d_rmI_25 : decode prog_28_method_1_code 25 = .ok (.return_, 1) := by decide +kernel
set_option maxRecDepth 65536 in
set_option maxHeartbeats 40000000 in
theorem rmI (l : Launch) (Z : State) (a0 : Array Value) (hw : ∀ d ∈ tables_1, d.before a0 Z = true) (ws : List Jvm.Cond) (a : Addr) (p1 p2 : Int32) (q3 q4 : Int64) (h0 : Heap) (n0 : Nat) (Z0 : n0 ≤ h0.size) (E1 : Exa Z h0 a "com/example/ashurbanipal/ashurbanipal/store/VersionRules") (g1 : n0 ≤ a) (F_timeToLive : Fld Z h0 a "com/example/ashurbanipal/ashurbanipal/store/VersionRules" "timeToLive" "I" (.int (0 : Int32))) (F_maxVersions : Fld Z h0 a "com/example/ashurbanipal/ashurbanipal/store/VersionRules" "maxVersions" "I" (.int (0 : Int32))) (F_maxVersionOffset : Fld Z h0 a "com/example/ashurbanipal/ashurbanipal/store/VersionRules" "maxVersionOffset" "J" (.long (0 : Int64))) (F_visibilityChanged : Fld Z h0 a "com/example/ashurbanipal/ashurbanipal/store/VersionRules" "visibilityChanged" "J" (.long (0 : Int64))) :
    own_Met l Z (⟨"com/example/ashurbanipal/ashurbanipal/store/VersionRules", "<init>", "(IIJJ)V"⟩ : MethodName) ws prog_28_method_1_code 7 none ({ frames := 1, cells := 0, slots := 0, locals := 12 } : Room) #[(.ref a), (.int p1), (.int p2), (.long q3), (.long q4)] h0 (fun v h L => v = none ∧ Fr n0 L ∧ Keep h0 h [a] ∧ Exa Z h a "com/example/ashurbanipal/ashurbanipal/store/VersionRules" ∧ Fld Z h a "com/example/ashurbanipal/ashurbanipal/store/VersionRules" "maxVersionOffset" "J" (.long q3)) := by
  refine own_body (y := (⟨"com/example/ashurbanipal/ashurbanipal/store/VersionRules", "<init>", "(IIJJ)V"⟩ : MethodName)) (plainFor_of_name pn_0) ?_
  intro p e s m below meth c s₁ hx hby hml hown hnm hret hlk hZ X0 e0
  have hml : c.maxLocals = 7 := hml
  have hown : s.vm.findClass "com/example/ashurbanipal/ashurbanipal/store/VersionRules" = some m.cls := hown
  have N0 := Fr.nil n0
  refine own_entry (ef_rmI m a p1 p2 q3 q4) ?_
  show own_Dn p e below s (fun v h L => v = none ∧ Fr n0 L ∧ Keep h0 h [a] ∧ Exa Z h a "com/example/ashurbanipal/ashurbanipal/store/VersionRules" ∧ Fld Z h a "com/example/ashurbanipal/ashurbanipal/store/VersionRules" "maxVersionOffset" "J" (.long q3)) ({ frames := 1, cells := 0, slots := 0, locals := 12 } : Room).cells ({ frames := 1, cells := 0, slots := 0, locals := 12 } : Room).slots (s₁.setTop (mkF m 0 #[.val (.ref a), .val (.int p1), .val (.int p2), .val (.long q3), .second, .val (.long q4), .second] []))
  refine own_st (q' := s₁.setTop (mkF m 1 #[.val (.ref a), .val (.int p1), .val (.int p2), .val (.long q3), .second, .val (.long q4), .second] [(.ref a)])) (fun _ k => XS.aloadN X0.here hx rfl (hb hby d_rmI_0) rfl rfl k) ?_
  obtain ⟨T101, X101, e101, st101⟩ := initO X0 hx hZ hown (hw _ (List.mem_of_getElem? (i := 8) rfl)) (hw _ (List.mem_of_getElem? (i := 9) rfl)) (hw _ (List.mem_of_getElem? (i := 10) rfl)) e0 (g := (mkF m 1 #[.val (.ref a), .val (.int p1), .val (.int p2), .val (.long q3), .second, .val (.long q4), .second] [(.ref a)])) rfl (by rw [hml]; rfl) rfl (hb hby d_rmI_1) (by decide) (W := 0) (by show 2 * 0 + _ ≤ _; exact Nat.le_of_eq rfl) (by decide)
  refine own_st (q' := T101.setTop (mkF m 4 #[.val (.ref a), .val (.int p1), .val (.int p2), .val (.long q3), .second, .val (.long q4), .second] [])) st101 ?_
  refine own_st (q' := T101.setTop (mkF m 5 #[.val (.ref a), .val (.int p1), .val (.int p2), .val (.long q3), .second, .val (.long q4), .second] [(.ref a)])) (fun _ k => XS.aloadN X101.here hx rfl (hb hby d_rmI_4) rfl rfl k) ?_
  refine own_st (q' := T101.setTop (mkF m 6 #[.val (.ref a), .val (.int p1), .val (.int p2), .val (.long q3), .second, .val (.long q4), .second] [(.int p1), (.ref a)])) (fun _ k => XS.iloadN X101.here hx rfl (hb hby d_rmI_5) rfl k) ?_
  obtain ⟨T102, h102, X102, e102, W102, st102⟩ := putF X101 hx hZ hown (host := "") (Or.inl (hw _ (List.mem_of_getElem? (i := 11) rfl))) Via.refl e101 F_timeToLive E1 (Or.inr ⟨(hw _ (List.mem_of_getElem? (i := 12) rfl)), rfl, hnm⟩) (hw _ (List.mem_of_getElem? (i := 3) rfl)) (ty := .int) (by decide) rfl rfl (g := (mkF m 6 #[.val (.ref a), .val (.int p1), .val (.int p2), .val (.long q3), .second, .val (.long q4), .second] [(.int p1), (.ref a)])) rfl rfl (hb hby d_rmI_6)
  have N102 := Fr.snoc X102 N0 g1
  have K103 : Keep h0 h102 [a] := ((Keep.refl h0 [a]).wr W102 (Or.inl (List.mem_of_getElem? (i := 0) rfl)))
  have F102 := F_timeToLive.same W102
  refine own_st (q' := T102.setTop (mkF m 9 #[.val (.ref a), .val (.int p1), .val (.int p2), .val (.long q3), .second, .val (.long q4), .second] [])) st102 ?_
  refine own_st (q' := T102.setTop (mkF m 10 #[.val (.ref a), .val (.int p1), .val (.int p2), .val (.long q3), .second, .val (.long q4), .second] [(.ref a)])) (fun _ k => XS.aloadN X102.here hx rfl (hb hby d_rmI_9) rfl rfl k) ?_
  refine own_st (q' := T102.setTop (mkF m 11 #[.val (.ref a), .val (.int p1), .val (.int p2), .val (.long q3), .second, .val (.long q4), .second] [(.int p2), (.ref a)])) (fun _ k => XS.iloadN X102.here hx rfl (hb hby d_rmI_10) rfl k) ?_
  have f104 := (F_maxVersions.other W102 (Or.inr (slot_ne (Or.inr (hw _ (List.mem_of_getElem? (i := 14) rfl))) (Or.inr (hw _ (List.mem_of_getElem? (i := 12) rfl))) (by decide) (t := .int) (t' := .int) (by decide) (by decide))))
  have f105 := (E1.wr W102)
  obtain ⟨T106, h106, X106, e106, W106, st106⟩ := putF X102 hx hZ hown (host := "") (Or.inl (hw _ (List.mem_of_getElem? (i := 13) rfl))) Via.refl e102 f104 f105 (Or.inr ⟨(hw _ (List.mem_of_getElem? (i := 14) rfl)), rfl, hnm⟩) (hw _ (List.mem_of_getElem? (i := 3) rfl)) (ty := .int) (by decide) rfl rfl (g := (mkF m 11 #[.val (.ref a), .val (.int p1), .val (.int p2), .val (.long q3), .second, .val (.long q4), .second] [(.int p2), (.ref a)])) rfl rfl (hb hby d_rmI_11)
  have N106 := Fr.snoc X106 N102 g1
  have K107 : Keep h0 h106 [a] := (K103.wr W106 (Or.inl (List.mem_of_getElem? (i := 0) rfl)))
  have F106 := f104.same W106
  refine own_st (q' := T106.setTop (mkF m 14 #[.val (.ref a), .val (.int p1), .val (.int p2), .val (.long q3), .second, .val (.long q4), .second] [])) st106 ?_
  refine own_st (q' := T106.setTop (mkF m 15 #[.val (.ref a), .val (.int p1), .val (.int p2), .val (.long q3), .second, .val (.long q4), .second] [(.ref a)])) (fun _ k => XS.aloadN X106.here hx rfl (hb hby d_rmI_14) rfl rfl k) ?_
  refine own_st (q' := T106.setTop (mkF m 16 #[.val (.ref a), .val (.int p1), .val (.int p2), .val (.long q3), .second, .val (.long q4), .second] [(.long q3), (.ref a)])) (fun _ k => XS.lloadN X106.here hx rfl (hb hby d_rmI_15) rfl k) ?_
  have f108 := ((F_maxVersionOffset.other W102 (Or.inr (slot_ne (Or.inr (hw _ (List.mem_of_getElem? (i := 16) rfl))) (Or.inr (hw _ (List.mem_of_getElem? (i := 12) rfl))) (by decide) (t := .long) (t' := .int) (by decide) (by decide)))).other W106 (Or.inr (slot_ne (Or.inr (hw _ (List.mem_of_getElem? (i := 16) rfl))) (Or.inr (hw _ (List.mem_of_getElem? (i := 14) rfl))) (by decide) (t := .long) (t' := .int) (by decide) (by decide))))
  have f109 := (f105.wr W106)
  obtain ⟨T110, h110, X110, e110, W110, st110⟩ := putF X106 hx hZ hown (host := "") (Or.inl (hw _ (List.mem_of_getElem? (i := 15) rfl))) Via.refl e106 f108 f109 (Or.inr ⟨(hw _ (List.mem_of_getElem? (i := 16) rfl)), rfl, hnm⟩) (hw _ (List.mem_of_getElem? (i := 3) rfl)) (ty := .long) (by decide) rfl rfl (g := (mkF m 16 #[.val (.ref a), .val (.int p1), .val (.int p2), .val (.long q3), .second, .val (.long q4), .second] [(.long q3), (.ref a)])) rfl rfl (hb hby d_rmI_16)
  have N110 := Fr.snoc X110 N106 g1
  have K111 : Keep h0 h110 [a] := (K107.wr W110 (Or.inl (List.mem_of_getElem? (i := 0) rfl)))
  have F110 := f108.same W110
  refine own_st (q' := T110.setTop (mkF m 19 #[.val (.ref a), .val (.int p1), .val (.int p2), .val (.long q3), .second, .val (.long q4), .second] [])) st110 ?_
  refine own_st (q' := T110.setTop (mkF m 20 #[.val (.ref a), .val (.int p1), .val (.int p2), .val (.long q3), .second, .val (.long q4), .second] [(.ref a)])) (fun _ k => XS.aloadN X110.here hx rfl (hb hby d_rmI_19) rfl rfl k) ?_
  refine own_st (q' := T110.setTop (mkF m 22 #[.val (.ref a), .val (.int p1), .val (.int p2), .val (.long q3), .second, .val (.long q4), .second] [(.long q4), (.ref a)])) (fun _ k => XS.lload X110.here hx rfl (hb hby d_rmI_20) rfl k) ?_
  have f112 := (((F_visibilityChanged.other W102 (Or.inr (slot_ne (Or.inr (hw _ (List.mem_of_getElem? (i := 18) rfl))) (Or.inr (hw _ (List.mem_of_getElem? (i := 12) rfl))) (by decide) (t := .long) (t' := .int) (by decide) (by decide)))).other W106 (Or.inr (slot_ne (Or.inr (hw _ (List.mem_of_getElem? (i := 18) rfl))) (Or.inr (hw _ (List.mem_of_getElem? (i := 14) rfl))) (by decide) (t := .long) (t' := .int) (by decide) (by decide)))).other W110 (Or.inr (slot_ne (Or.inr (hw _ (List.mem_of_getElem? (i := 18) rfl))) (Or.inr (hw _ (List.mem_of_getElem? (i := 16) rfl))) (by decide) (t := .long) (t' := .long) (by decide) (by decide))))
  have f113 := (f109.wr W110)
  obtain ⟨T114, h114, X114, e114, W114, st114⟩ := putF X110 hx hZ hown (host := "") (Or.inl (hw _ (List.mem_of_getElem? (i := 17) rfl))) Via.refl e110 f112 f113 (Or.inr ⟨(hw _ (List.mem_of_getElem? (i := 18) rfl)), rfl, hnm⟩) (hw _ (List.mem_of_getElem? (i := 3) rfl)) (ty := .long) (by decide) rfl rfl (g := (mkF m 22 #[.val (.ref a), .val (.int p1), .val (.int p2), .val (.long q3), .second, .val (.long q4), .second] [(.long q4), (.ref a)])) rfl rfl (hb hby d_rmI_22)
  have N114 := Fr.snoc X114 N110 g1
  have K115 : Keep h0 h114 [a] := (K111.wr W114 (Or.inl (List.mem_of_getElem? (i := 0) rfl)))
  have F114 := f112.same W114
  refine own_st (q' := T114.setTop (mkF m 25 #[.val (.ref a), .val (.int p1), .val (.int p2), .val (.long q3), .second, .val (.long q4), .second] [])) st114 ?_
  have f116 := (f113.wr W114)
  have f117 := (F110.other W114 (Or.inr (slot_ne (Or.inr (hw _ (List.mem_of_getElem? (i := 16) rfl))) (Or.inr (hw _ (List.mem_of_getElem? (i := 18) rfl))) (by decide) (t := .long) (t' := .long) (by decide) (by decide))))
  exact own_retV X114 hx hlk hret (hb hby d_rmI_25) e114 (by exact ⟨rfl, N114, K115, f116, f117⟩) (by decide) (by decide)
theorem ef_rm3 (m : MethodId) (x0 : Addr) (x1 : Int64) (x2 : Int64) : entryFrame m #[(.ref x0), (.long x1), (.long x2)] 9 = mkF m 0 #[.val (.ref x0), .val (.long x1), .second, .val (.long x2), .second, .unset, .unset, .unset, .unset] [] := by first | (simp [entryFrame, mkF, argsToLocals, Value.category]; done) | rfl
theorem d_rm3_0 : decode prog_28_method_7_code 0 = .ok (.aload_n 0, 1) := by decide +kernel
theorem d_rm3_1 : decode prog_28_method_7_code 1 = .ok (.getfield 18, 3) := by decide +kernel
theorem d_rm3_4 : decode prog_28_method_7_code 4 = .ok (.ldc2_w 28, 3) := by decide +kernel
theorem d_rm3_7 : decode prog_28_method_7_code 7 = .ok (.lmul, 1) := by decide +kernel
theorem d_rm3_8 : decode prog_28_method_7_code 8 = .ok (.lstore 5, 2) := by decide +kernel
theorem d_rm3_10 : decode prog_28_method_7_code 10 = .ok (.lload_n 1, 1) := by decide +kernel
theorem d_rm3_11 : decode prog_28_method_7_code 11 = .ok (.lload_n 3, 1) := by decide +kernel
theorem d_rm3_12 : decode prog_28_method_7_code 12 = .ok (.lsub, 1) := by decide +kernel
theorem d_rm3_13 : decode prog_28_method_7_code 13 = .ok (.lstore 7, 2) := by decide +kernel
theorem d_rm3_15 : decode prog_28_method_7_code 15 = .ok (.lload 5, 2) := by decide +kernel
theorem d_rm3_17 : decode prog_28_method_7_code 17 = .ok (.lneg, 1) := by decide +kernel
theorem d_rm3_18 : decode prog_28_method_7_code 18 = .ok (.lload 7, 2) := by decide +kernel
theorem d_rm3_20 : decode prog_28_method_7_code 20 = .ok (.lcmp, 1) := by decide +kernel
theorem d_rm3_21 : decode prog_28_method_7_code 21 = .ok (.ifCond .gt 15, 3) := by decide +kernel
theorem d_rm3_24 : decode prog_28_method_7_code 24 = .ok (.lload 7, 2) := by decide +kernel
theorem d_rm3_26 : decode prog_28_method_7_code 26 = .ok (.lload 5, 2) := by decide +kernel
theorem d_rm3_28 : decode prog_28_method_7_code 28 = .ok (.lcmp, 1) := by decide +kernel
theorem d_rm3_29 : decode prog_28_method_7_code 29 = .ok (.ifCond .ge 7, 3) := by decide +kernel
theorem d_rm3_32 : decode prog_28_method_7_code 32 = .ok (.iconst 1, 1) := by decide +kernel
theorem d_rm3_33 : decode prog_28_method_7_code 33 = .ok (.goto 4, 3) := by decide +kernel
theorem d_rm3_36 : decode prog_28_method_7_code 36 = .ok (.iconst 0, 1) := by decide +kernel
theorem d_rm3_37 : decode prog_28_method_7_code 37 = .ok (.ireturn, 1) := by decide +kernel
set_option maxRecDepth 65536 in
set_option maxHeartbeats 40000000 in
theorem rm3 (l : Launch) (Z : State) (a0 : Array Value) (hw : ∀ d ∈ tables_1, d.before a0 Z = true) (ws : List Jvm.Cond) (a : Addr) (q1 q2 w : Int64) (h0 : Heap) (n0 : Nat) (Z0 : n0 ≤ h0.size) (F1 : Fld Z h0 a "com/example/ashurbanipal/ashurbanipal/store/VersionRules" "maxVersionOffset" "J" (.long w)) :
    own_Met l Z (⟨"com/example/ashurbanipal/ashurbanipal/store/VersionRules", "isWithinOffset", "(JJ)Z"⟩ : MethodName) ws prog_28_method_7_code 9 (some .boolean) ({ frames := 0, cells := 0, slots := 0, locals := 0 } : Room) #[(.ref a), (.long q1), (.long q2)] h0 (fun v h L => v = some (.int (own_wi w q1 q2)) ∧ Fr n0 L ∧ h = h0) := by
  refine own_body (y := (⟨"com/example/ashurbanipal/ashurbanipal/store/VersionRules", "isWithinOffset", "(JJ)Z"⟩ : MethodName)) (plainFor_of_name pn_0) ?_
  intro p e s m below meth c s₁ hx hby hml hown hnm hret hlk hZ X0 e0
  have hml : c.maxLocals = 9 := hml
  have hown : s.vm.findClass "com/example/ashurbanipal/ashurbanipal/store/VersionRules" = some m.cls := hown
  have N0 := Fr.nil n0
  refine own_entry (ef_rm3 m a q1 q2) ?_
  show own_Dn p e below s (fun v h L => v = some (.int (own_wi w q1 q2)) ∧ Fr n0 L ∧ h = h0) ({ frames := 0, cells := 0, slots := 0, locals := 0 } : Room).cells ({ frames := 0, cells := 0, slots := 0, locals := 0 } : Room).slots (s₁.setTop (mkF m 0 #[.val (.ref a), .val (.long q1), .second, .val (.long q2), .second, .unset, .unset, .unset, .unset] []))
  refine own_st (q' := s₁.setTop (mkF m 1 #[.val (.ref a), .val (.long q1), .second, .val (.long q2), .second, .unset, .unset, .unset, .unset] [(.ref a)])) (fun _ k => XS.aloadN X0.here hx rfl (hb hby d_rm3_0) rfl rfl k) ?_
  obtain ⟨T101, X101, e101, st101⟩ := getF X0 hx hZ hown (host := "") (Or.inl (hw _ (List.mem_of_getElem? (i := 15) rfl))) Via.refl e0 F1 (g := (mkF m 1 #[.val (.ref a), .val (.long q1), .second, .val (.long q2), .second, .unset, .unset, .unset, .unset] [(.ref a)])) rfl rfl (hb hby d_rm3_1)
  refine own_st (q' := T101.setTop (mkF m 4 #[.val (.ref a), .val (.long q1), .second, .val (.long q2), .second, .unset, .unset, .unset, .unset] [(.long w)])) st101 ?_
  refine own_st (q' := T101.setTop (mkF m 7 #[.val (.ref a), .val (.long q1), .second, .val (.long q2), .second, .unset, .unset, .unset, .unset] [(.long (1000 : Int64)), (.long w)])) (fun _ k => X101.ldc2Long hx hown (mvT hZ (hw _ (List.mem_of_getElem? (i := 25) rfl))) (g := (mkF m 4 #[.val (.ref a), .val (.long q1), .second, .val (.long q2), .second, .unset, .unset, .unset, .unset] [(.long w)])) rfl (hb hby d_rm3_4) _ k) ?_
  refine own_st (q' := T101.setTop (mkF m 8 #[.val (.ref a), .val (.long q1), .second, .val (.long q2), .second, .unset, .unset, .unset, .unset] [(.long (w * (1000 : Int64)))])) (fun _ k => XS.lmul X101.here hx rfl (hb hby d_rm3_7) rfl k) ?_
  refine own_st (q' := T101.setTop (mkF m 10 #[.val (.ref a), .val (.long q1), .second, .val (.long q2), .second, .val (.long (w * (1000 : Int64))), .second, .unset, .unset] [])) (fun _ k => XS.lstore X101.here hx rfl (hb hby d_rm3_8) rfl (l' := #[.val (.ref a), .val (.long q1), .second, .val (.long q2), .second, .val (.long (w * (1000 : Int64))), .second, .unset, .unset]) rfl k) ?_
  refine own_st (q' := T101.setTop (mkF m 11 #[.val (.ref a), .val (.long q1), .second, .val (.long q2), .second, .val (.long (w * (1000 : Int64))), .second, .unset, .unset] [(.long q1)])) (fun _ k => XS.lloadN X101.here hx rfl (hb hby d_rm3_10) rfl k) ?_
  refine own_st (q' := T101.setTop (mkF m 12 #[.val (.ref a), .val (.long q1), .second, .val (.long q2), .second, .val (.long (w * (1000 : Int64))), .second, .unset, .unset] [(.long q2), (.long q1)])) (fun _ k => XS.lloadN X101.here hx rfl (hb hby d_rm3_11) rfl k) ?_
  refine own_st (q' := T101.setTop (mkF m 13 #[.val (.ref a), .val (.long q1), .second, .val (.long q2), .second, .val (.long (w * (1000 : Int64))), .second, .unset, .unset] [(.long (q1 - q2))])) (fun _ k => XS.lsub X101.here hx rfl (hb hby d_rm3_12) rfl k) ?_
  refine own_st (q' := T101.setTop (mkF m 15 #[.val (.ref a), .val (.long q1), .second, .val (.long q2), .second, .val (.long (w * (1000 : Int64))), .second, .val (.long (q1 - q2)), .second] [])) (fun _ k => XS.lstore X101.here hx rfl (hb hby d_rm3_13) rfl (l' := #[.val (.ref a), .val (.long q1), .second, .val (.long q2), .second, .val (.long (w * (1000 : Int64))), .second, .val (.long (q1 - q2)), .second]) rfl k) ?_
  refine own_st (q' := T101.setTop (mkF m 17 #[.val (.ref a), .val (.long q1), .second, .val (.long q2), .second, .val (.long (w * (1000 : Int64))), .second, .val (.long (q1 - q2)), .second] [(.long (w * (1000 : Int64)))])) (fun _ k => XS.lload X101.here hx rfl (hb hby d_rm3_15) rfl k) ?_
  refine own_st (q' := T101.setTop (mkF m 18 #[.val (.ref a), .val (.long q1), .second, .val (.long q2), .second, .val (.long (w * (1000 : Int64))), .second, .val (.long (q1 - q2)), .second] [(.long (-(w * (1000 : Int64))))])) (fun _ k => XS.lneg X101.here hx rfl (hb hby d_rm3_17) rfl k) ?_
  refine own_st (q' := T101.setTop (mkF m 20 #[.val (.ref a), .val (.long q1), .second, .val (.long q2), .second, .val (.long (w * (1000 : Int64))), .second, .val (.long (q1 - q2)), .second] [(.long (q1 - q2)), (.long (-(w * (1000 : Int64))))])) (fun _ k => XS.lload X101.here hx rfl (hb hby d_rm3_18) rfl k) ?_
  refine own_st (q' := T101.setTop (mkF m 21 #[.val (.ref a), .val (.long q1), .second, .val (.long q2), .second, .val (.long (w * (1000 : Int64))), .second, .val (.long (q1 - q2)), .second] [(.int (lcmpW (-(w * (1000 : Int64))) (q1 - q2)))])) (fun _ k => XS.lcmp X101.here hx rfl (hb hby d_rm3_20) rfl k) ?_
  by_cases hc21_102 : (0 : Int32) < (lcmpW (-(w * (1000 : Int64))) (q1 - q2))
  · skip
    have hc21_102I : (0 : Int) < ((lcmpW (-(w * (1000 : Int64))) (q1 - q2))).toInt := own_ltT hc21_102
    refine own_st (q' := T101.setTop (mkF m 36 #[.val (.ref a), .val (.long q1), .second, .val (.long q2), .second, .val (.long (w * (1000 : Int64))), .second, .val (.long (q1 - q2)), .second] [])) (fun _ k => XS.ifYes X101.here hx rfl (pc0 := 21) (pc' := 36) rfl (hb hby d_rm3_21) rfl ((if0 _ _).trans (tlt hc21_102).2.2.1) (by decide) (by decide) k) ?_
    refine own_st (q' := T101.setTop (mkF m 37 #[.val (.ref a), .val (.long q1), .second, .val (.long q2), .second, .val (.long (w * (1000 : Int64))), .second, .val (.long (q1 - q2)), .second] [(.int (0 : Int32))])) (fun _ k => XS.iconst X101.here hx rfl (hb hby d_rm3_36) k) ?_
    exact own_retN X101 hx hlk (t := .boolean) hret (by simp) (hb hby d_rm3_37) e101 (by exact ⟨(by unfold own_wi; rw [if_pos hc21_102]; rfl), N0, rfl⟩) (by decide) (by decide)
  · skip
    have hc21_102I : ((lcmpW (-(w * (1000 : Int64))) (q1 - q2))).toInt ≤ (0 : Int) := own_ltF hc21_102
    refine own_st (q' := T101.setTop (mkF m 24 #[.val (.ref a), .val (.long q1), .second, .val (.long q2), .second, .val (.long (w * (1000 : Int64))), .second, .val (.long (q1 - q2)), .second] [])) (fun _ k => XS.ifNo X101.here hx rfl (hb hby d_rm3_21) rfl ((if0 _ _).trans (flt hc21_102).2.2.1) k) ?_
    refine own_st (q' := T101.setTop (mkF m 26 #[.val (.ref a), .val (.long q1), .second, .val (.long q2), .second, .val (.long (w * (1000 : Int64))), .second, .val (.long (q1 - q2)), .second] [(.long (q1 - q2))])) (fun _ k => XS.lload X101.here hx rfl (hb hby d_rm3_24) rfl k) ?_
    refine own_st (q' := T101.setTop (mkF m 28 #[.val (.ref a), .val (.long q1), .second, .val (.long q2), .second, .val (.long (w * (1000 : Int64))), .second, .val (.long (q1 - q2)), .second] [(.long (w * (1000 : Int64))), (.long (q1 - q2))])) (fun _ k => XS.lload X101.here hx rfl (hb hby d_rm3_26) rfl k) ?_
    refine own_st (q' := T101.setTop (mkF m 29 #[.val (.ref a), .val (.long q1), .second, .val (.long q2), .second, .val (.long (w * (1000 : Int64))), .second, .val (.long (q1 - q2)), .second] [(.int (lcmpW (q1 - q2) (w * (1000 : Int64))))])) (fun _ k => XS.lcmp X101.here hx rfl (hb hby d_rm3_28) rfl k) ?_
    by_cases hc29_103 : (lcmpW (q1 - q2) (w * (1000 : Int64))) < (0 : Int32)
    · skip
      have hc29_103I : ((lcmpW (q1 - q2) (w * (1000 : Int64)))).toInt < (0 : Int) := own_ltT hc29_103
      refine own_st (q' := T101.setTop (mkF m 32 #[.val (.ref a), .val (.long q1), .second, .val (.long q2), .second, .val (.long (w * (1000 : Int64))), .second, .val (.long (q1 - q2)), .second] [])) (fun _ k => XS.ifNo X101.here hx rfl (hb hby d_rm3_29) rfl ((if0 _ _).trans (tlt hc29_103).2.1) k) ?_
      refine own_st (q' := T101.setTop (mkF m 33 #[.val (.ref a), .val (.long q1), .second, .val (.long q2), .second, .val (.long (w * (1000 : Int64))), .second, .val (.long (q1 - q2)), .second] [(.int (1 : Int32))])) (fun _ k => XS.iconst X101.here hx rfl (hb hby d_rm3_32) k) ?_
      refine own_st (q' := T101.setTop (mkF m 37 #[.val (.ref a), .val (.long q1), .second, .val (.long q2), .second, .val (.long (w * (1000 : Int64))), .second, .val (.long (q1 - q2)), .second] [(.int (1 : Int32))])) (fun _ k => XS.goto X101.here hx rfl (pc0 := 33) (pc' := 37) rfl (hb hby d_rm3_33) (by decide) (by decide) k) ?_
      exact own_retN X101 hx hlk (t := .boolean) hret (by simp) (hb hby d_rm3_37) e101 (by exact ⟨(by unfold own_wi; rw [if_neg hc21_102, if_pos hc29_103]; rfl), N0, rfl⟩) (by decide) (by decide)
    · skip
      have hc29_103I : (0 : Int) ≤ ((lcmpW (q1 - q2) (w * (1000 : Int64)))).toInt := own_ltF hc29_103
      refine own_st (q' := T101.setTop (mkF m 36 #[.val (.ref a), .val (.long q1), .second, .val (.long q2), .second, .val (.long (w * (1000 : Int64))), .second, .val (.long (q1 - q2)), .second] [])) (fun _ k => XS.ifYes X101.here hx rfl (pc0 := 29) (pc' := 36) rfl (hb hby d_rm3_29) rfl ((if0 _ _).trans (flt hc29_103).2.1) (by decide) (by decide) k) ?_
      refine own_st (q' := T101.setTop (mkF m 37 #[.val (.ref a), .val (.long q1), .second, .val (.long q2), .second, .val (.long (w * (1000 : Int64))), .second, .val (.long (q1 - q2)), .second] [(.int (0 : Int32))])) (fun _ k => XS.iconst X101.here hx rfl (hb hby d_rm3_36) k) ?_
      exact own_retN X101 hx hlk (t := .boolean) hret (by simp) (hb hby d_rm3_37) e101 (by exact ⟨(by unfold own_wi; rw [if_neg hc21_102, if_neg hc29_103]; rfl), N0, rfl⟩) (by decide) (by decide)
theorem pn_1 : plainName "com/example/ashurbanipal/ashurbanipal/store/VersionRulesIsWithinOffsetPinLaw" = true := by first | (simp [plainName, overriddenIn]; done) | decide +kernel
theorem ef_rm0 (m : MethodId) (x0 : Int32) (x1 : Int32) (x2 : Int64) (x3 : Int64) (x4 : Int64) (x5 : Int64) : entryFrame m #[(.int x0), (.int x1), (.long x2), (.long x3), (.long x4), (.long x5)] maxLocals = mkF m 0 #[.val (.int x0), .val (.int x1), .val (.long x2), .second, .val (.long x3), .second, .val (.long x4), .second, .val (.long x5), .second, .unset, .unset, .unset, .unset, .unset, .unset, .unset, .unset, .unset, .unset] [] := by first | (simp [entryFrame, mkF, argsToLocals, Value.category, maxLocals]; done) | rfl
theorem pd_0 : parseMethodDescriptor "(IIJJ)V" = some ⟨[.int, .int, .long, .long], none⟩ := by decide +kernel
theorem pd_1 : parseMethodDescriptor "(JJ)Z" = some ⟨[.long, .long], some .boolean⟩ := by decide +kernel
set_option maxRecDepth 65536 in
set_option maxHeartbeats 40000000 in
theorem rm0 (l : Launch) (Z : State) (a0 : Array Value) (hw : ∀ d ∈ tables_1, d.before a0 Z = true) (ws : List Jvm.Cond) (p1 p2 : Int32) (q3 q4 q5 q6 : Int64) (h0 : Heap) (n0 : Nat) (Z0 : n0 ≤ h0.size) :
    own_Met l Z x ws code maxLocals ret room_1 #[(.int p1), (.int p2), (.long q3), (.long q4), (.long q5), (.long q6)] h0 (fun v h L => v = some (.int 1) ∧ Fr n0 L) := by
  refine own_body (y := x) (plainFor_of_name pn_1) ?_
  intro p e s m below meth c s₁ hx hby hml hown hnm hret hlk hZ X0 e0
  have hml : c.maxLocals = 20 := hml
  have hown : s.vm.findClass "com/example/ashurbanipal/ashurbanipal/store/VersionRulesIsWithinOffsetPinLaw" = some m.cls := hown
  have N0 := Fr.nil n0
  refine own_entry (ef_rm0 m p1 p2 q3 q4 q5 q6) ?_
  show own_Dn p e below s (fun v h L => v = some (.int 1) ∧ Fr n0 L) room_1.cells room_1.slots (s₁.setTop (mkF m 0 #[.val (.int p1), .val (.int p2), .val (.long q3), .second, .val (.long q4), .second, .val (.long q5), .second, .val (.long q6), .second, .unset, .unset, .unset, .unset, .unset, .unset, .unset, .unset, .unset, .unset] []))
  refine own_st (q' := s₁.setTop (mkF m 1 #[.val (.int p1), .val (.int p2), .val (.long q3), .second, .val (.long q4), .second, .val (.long q5), .second, .val (.long q6), .second, .unset, .unset, .unset, .unset, .unset, .unset, .unset, .unset, .unset, .unset] [(.long q3)])) (fun _ k => XS.lloadN X0.here hx rfl (hb hby at_0) rfl k) ?_
  refine own_st (q' := s₁.setTop (mkF m 4 #[.val (.int p1), .val (.int p2), .val (.long q3), .second, .val (.long q4), .second, .val (.long q5), .second, .val (.long q6), .second, .unset, .unset, .unset, .unset, .unset, .unset, .unset, .unset, .unset, .unset] [(.long (9223372036854775807 : Int64)), (.long q3)])) (fun _ k => X0.ldc2Long hx hown (mvT hZ (hw _ (List.mem_of_getElem? (i := 0) rfl))) (g := (mkF m 1 #[.val (.int p1), .val (.int p2), .val (.long q3), .second, .val (.long q4), .second, .val (.long q5), .second, .val (.long q6), .second, .unset, .unset, .unset, .unset, .unset, .unset, .unset, .unset, .unset, .unset] [(.long q3)])) rfl (hb hby at_1) _ k) ?_
  refine own_st (q' := s₁.setTop (mkF m 5 #[.val (.int p1), .val (.int p2), .val (.long q3), .second, .val (.long q4), .second, .val (.long q5), .second, .val (.long q6), .second, .unset, .unset, .unset, .unset, .unset, .unset, .unset, .unset, .unset, .unset] [(.long (q3 &&& (9223372036854775807 : Int64)))])) (fun _ k => XS.land X0.here hx rfl (hb hby at_4) rfl k) ?_
  refine own_st (q' := s₁.setTop (mkF m 8 #[.val (.int p1), .val (.int p2), .val (.long q3), .second, .val (.long q4), .second, .val (.long q5), .second, .val (.long q6), .second, .unset, .unset, .unset, .unset, .unset, .unset, .unset, .unset, .unset, .unset] [(.long (9223372036854776 : Int64)), (.long (q3 &&& (9223372036854775807 : Int64)))])) (fun _ k => X0.ldc2Long hx hown (mvT hZ (hw _ (List.mem_of_getElem? (i := 1) rfl))) (g := (mkF m 5 #[.val (.int p1), .val (.int p2), .val (.long q3), .second, .val (.long q4), .second, .val (.long q5), .second, .val (.long q6), .second, .unset, .unset, .unset, .unset, .unset, .unset, .unset, .unset, .unset, .unset] [(.long (q3 &&& (9223372036854775807 : Int64)))])) rfl (hb hby at_5) _ k) ?_
  refine own_st (q' := s₁.setTop (mkF m 9 #[.val (.int p1), .val (.int p2), .val (.long q3), .second, .val (.long q4), .second, .val (.long q5), .second, .val (.long q6), .second, .unset, .unset, .unset, .unset, .unset, .unset, .unset, .unset, .unset, .unset] [(.long ((q3 &&& (9223372036854775807 : Int64)) % (9223372036854776 : Int64)))])) (fun _ k => own_lrem X0.here hx rfl (hb hby at_8) rfl (by decide) k) ?_
  refine own_st (q' := s₁.setTop (mkF m 11 #[.val (.int p1), .val (.int p2), .val (.long q3), .second, .val (.long q4), .second, .val (.long q5), .second, .val (.long q6), .second, .val (.long ((q3 &&& (9223372036854775807 : Int64)) % (9223372036854776 : Int64))), .second, .unset, .unset, .unset, .unset, .unset, .unset, .unset, .unset] [])) (fun _ k => XS.lstore X0.here hx rfl (hb hby at_9) rfl (l' := #[.val (.int p1), .val (.int p2), .val (.long q3), .second, .val (.long q4), .second, .val (.long q5), .second, .val (.long q6), .second, .val (.long ((q3 &&& (9223372036854775807 : Int64)) % (9223372036854776 : Int64))), .second, .unset, .unset, .unset, .unset, .unset, .unset, .unset, .unset]) rfl k) ?_
  refine own_st (q' := s₁.setTop (mkF m 13 #[.val (.int p1), .val (.int p2), .val (.long q3), .second, .val (.long q4), .second, .val (.long q5), .second, .val (.long q6), .second, .val (.long ((q3 &&& (9223372036854775807 : Int64)) % (9223372036854776 : Int64))), .second, .unset, .unset, .unset, .unset, .unset, .unset, .unset, .unset] [(.long q5)])) (fun _ k => XS.lload X0.here hx rfl (hb hby at_11) rfl k) ?_
  refine own_st (q' := s₁.setTop (mkF m 16 #[.val (.int p1), .val (.int p2), .val (.long q3), .second, .val (.long q4), .second, .val (.long q5), .second, .val (.long q6), .second, .val (.long ((q3 &&& (9223372036854775807 : Int64)) % (9223372036854776 : Int64))), .second, .unset, .unset, .unset, .unset, .unset, .unset, .unset, .unset] [(.long (9223372036854775807 : Int64)), (.long q5)])) (fun _ k => X0.ldc2Long hx hown (mvT hZ (hw _ (List.mem_of_getElem? (i := 0) rfl))) (g := (mkF m 13 #[.val (.int p1), .val (.int p2), .val (.long q3), .second, .val (.long q4), .second, .val (.long q5), .second, .val (.long q6), .second, .val (.long ((q3 &&& (9223372036854775807 : Int64)) % (9223372036854776 : Int64))), .second, .unset, .unset, .unset, .unset, .unset, .unset, .unset, .unset] [(.long q5)])) rfl (hb hby at_13) _ k) ?_
  refine own_st (q' := s₁.setTop (mkF m 17 #[.val (.int p1), .val (.int p2), .val (.long q3), .second, .val (.long q4), .second, .val (.long q5), .second, .val (.long q6), .second, .val (.long ((q3 &&& (9223372036854775807 : Int64)) % (9223372036854776 : Int64))), .second, .unset, .unset, .unset, .unset, .unset, .unset, .unset, .unset] [(.long (q5 &&& (9223372036854775807 : Int64)))])) (fun _ k => XS.land X0.here hx rfl (hb hby at_16) rfl k) ?_
  refine own_st (q' := s₁.setTop (mkF m 19 #[.val (.int p1), .val (.int p2), .val (.long q3), .second, .val (.long q4), .second, .val (.long q5), .second, .val (.long q6), .second, .val (.long ((q3 &&& (9223372036854775807 : Int64)) % (9223372036854776 : Int64))), .second, .val (.long (q5 &&& (9223372036854775807 : Int64))), .second, .unset, .unset, .unset, .unset, .unset, .unset] [])) (fun _ k => XS.lstore X0.here hx rfl (hb hby at_17) rfl (l' := #[.val (.int p1), .val (.int p2), .val (.long q3), .second, .val (.long q4), .second, .val (.long q5), .second, .val (.long q6), .second, .val (.long ((q3 &&& (9223372036854775807 : Int64)) % (9223372036854776 : Int64))), .second, .val (.long (q5 &&& (9223372036854775807 : Int64))), .second, .unset, .unset, .unset, .unset, .unset, .unset]) rfl k) ?_
  refine own_st (q' := s₁.setTop (mkF m 21 #[.val (.int p1), .val (.int p2), .val (.long q3), .second, .val (.long q4), .second, .val (.long q5), .second, .val (.long q6), .second, .val (.long ((q3 &&& (9223372036854775807 : Int64)) % (9223372036854776 : Int64))), .second, .val (.long (q5 &&& (9223372036854775807 : Int64))), .second, .unset, .unset, .unset, .unset, .unset, .unset] [(.long q6)])) (fun _ k => XS.lload X0.here hx rfl (hb hby at_19) rfl k) ?_
  refine own_st (q' := s₁.setTop (mkF m 24 #[.val (.int p1), .val (.int p2), .val (.long q3), .second, .val (.long q4), .second, .val (.long q5), .second, .val (.long q6), .second, .val (.long ((q3 &&& (9223372036854775807 : Int64)) % (9223372036854776 : Int64))), .second, .val (.long (q5 &&& (9223372036854775807 : Int64))), .second, .unset, .unset, .unset, .unset, .unset, .unset] [(.long (9223372036854775807 : Int64)), (.long q6)])) (fun _ k => X0.ldc2Long hx hown (mvT hZ (hw _ (List.mem_of_getElem? (i := 0) rfl))) (g := (mkF m 21 #[.val (.int p1), .val (.int p2), .val (.long q3), .second, .val (.long q4), .second, .val (.long q5), .second, .val (.long q6), .second, .val (.long ((q3 &&& (9223372036854775807 : Int64)) % (9223372036854776 : Int64))), .second, .val (.long (q5 &&& (9223372036854775807 : Int64))), .second, .unset, .unset, .unset, .unset, .unset, .unset] [(.long q6)])) rfl (hb hby at_21) _ k) ?_
  refine own_st (q' := s₁.setTop (mkF m 25 #[.val (.int p1), .val (.int p2), .val (.long q3), .second, .val (.long q4), .second, .val (.long q5), .second, .val (.long q6), .second, .val (.long ((q3 &&& (9223372036854775807 : Int64)) % (9223372036854776 : Int64))), .second, .val (.long (q5 &&& (9223372036854775807 : Int64))), .second, .unset, .unset, .unset, .unset, .unset, .unset] [(.long (q6 &&& (9223372036854775807 : Int64)))])) (fun _ k => XS.land X0.here hx rfl (hb hby at_24) rfl k) ?_
  refine own_st (q' := s₁.setTop (mkF m 27 #[.val (.int p1), .val (.int p2), .val (.long q3), .second, .val (.long q4), .second, .val (.long q5), .second, .val (.long q6), .second, .val (.long ((q3 &&& (9223372036854775807 : Int64)) % (9223372036854776 : Int64))), .second, .val (.long (q5 &&& (9223372036854775807 : Int64))), .second, .val (.long (q6 &&& (9223372036854775807 : Int64))), .second, .unset, .unset, .unset, .unset] [])) (fun _ k => XS.lstore X0.here hx rfl (hb hby at_25) rfl (l' := #[.val (.int p1), .val (.int p2), .val (.long q3), .second, .val (.long q4), .second, .val (.long q5), .second, .val (.long q6), .second, .val (.long ((q3 &&& (9223372036854775807 : Int64)) % (9223372036854776 : Int64))), .second, .val (.long (q5 &&& (9223372036854775807 : Int64))), .second, .val (.long (q6 &&& (9223372036854775807 : Int64))), .second, .unset, .unset, .unset, .unset]) rfl k) ?_
  generalize hz1 : ((q3 &&& (9223372036854775807 : Int64)) % (9223372036854776 : Int64)) = z1
  generalize hz2 : (q5 &&& (9223372036854775807 : Int64)) = z2
  generalize hz3 : (q6 &&& (9223372036854775807 : Int64)) = z3
  have b2 : 0 ≤ z2.toInt := by rw [← hz2, c_maskL _ _ 63 (by decide) (by decide)]; omega
  have b3 : 0 ≤ z3.toInt := by rw [← hz3, c_maskL _ _ 63 (by decide) (by decide)]; omega
  have b1 : 0 ≤ z1.toInt ∧ z1.toInt ≤ 9223372036854775 := by
    have l1 : (9223372036854776 : Int64).toInt = 9223372036854776 := rfl
    rw [← hz1, Int64.toInt_mod, l1, c_maskL _ _ 63 (by decide) (by decide), Int.tmod_eq_emod_of_nonneg (by omega)]
    omega
  show own_Dn p e below s (fun v h L => v = some (.int 1) ∧ Fr n0 L) room_1.cells room_1.slots (s₁.setTop (mkF m 27 #[.val (.int p1), .val (.int p2), .val (.long q3), .second, .val (.long q4), .second, .val (.long q5), .second, .val (.long q6), .second, .val (.long z1), .second, .val (.long z2), .second, .val (.long z3), .second, .unset, .unset, .unset, .unset] []))
  obtain ⟨T101, h101, X101, e101, E101, A101, D101, -, st101⟩ := newO X0 hx hZ hown (hw _ (List.mem_of_getElem? (i := 2) rfl)) (hw _ (List.mem_of_getElem? (i := 3) rfl)) (hw _ (List.mem_of_getElem? (i := 4) rfl)) e0 (g := (mkF m 27 #[.val (.int p1), .val (.int p2), .val (.long q3), .second, .val (.long q4), .second, .val (.long q5), .second, .val (.long q6), .second, .val (.long z1), .second, .val (.long z2), .second, .val (.long z3), .second, .unset, .unset, .unset, .unset] [])) rfl (hb hby at_27) (by decide) (by decide)
  obtain ⟨b101, g101⟩ : ∃ z, z = h0.size := ⟨_, rfl⟩
  rw [← g101] at A101 D101 st101
  have ge_b101 : n0 ≤ b101 := Nat.le_trans Z0 (Nat.le_of_eq g101.symm)
  have sz_b101 : h0.size ≤ b101 := Nat.le_trans (Keep.refl h0 []).1 (Nat.le_of_eq g101.symm)
  have K102 : Keep h0 h101 [] := ((Keep.refl h0 []).ext E101)
  have F_timeToLive_b101 : Fld Z h101 b101 "com/example/ashurbanipal/ashurbanipal/store/VersionRules" "timeToLive" "I" (.int (0 : Int32)) := D101 (Or.inr (hw _ (List.mem_of_getElem? (i := 12) rfl))) (ty := .int) (by decide)
  have F_maxVersions_b101 : Fld Z h101 b101 "com/example/ashurbanipal/ashurbanipal/store/VersionRules" "maxVersions" "I" (.int (0 : Int32)) := D101 (Or.inr (hw _ (List.mem_of_getElem? (i := 14) rfl))) (ty := .int) (by decide)
  have F_maxVersionOffset_b101 : Fld Z h101 b101 "com/example/ashurbanipal/ashurbanipal/store/VersionRules" "maxVersionOffset" "J" (.long (0 : Int64)) := D101 (Or.inr (hw _ (List.mem_of_getElem? (i := 16) rfl))) (ty := .long) (by decide)
  have F_visibilityChanged_b101 : Fld Z h101 b101 "com/example/ashurbanipal/ashurbanipal/store/VersionRules" "visibilityChanged" "J" (.long (0 : Int64)) := D101 (Or.inr (hw _ (List.mem_of_getElem? (i := 18) rfl))) (ty := .long) (by decide)
  refine own_st (q' := T101.setTop (mkF m 30 #[.val (.int p1), .val (.int p2), .val (.long q3), .second, .val (.long q4), .second, .val (.long q5), .second, .val (.long q6), .second, .val (.long z1), .second, .val (.long z2), .second, .val (.long z3), .second, .unset, .unset, .unset, .unset] [(.ref b101)])) st101 ?_
  refine own_st (q' := T101.setTop (mkF m 31 #[.val (.int p1), .val (.int p2), .val (.long q3), .second, .val (.long q4), .second, .val (.long q5), .second, .val (.long q6), .second, .val (.long z1), .second, .val (.long z2), .second, .val (.long z3), .second, .unset, .unset, .unset, .unset] [(.ref b101), (.ref b101)])) (fun _ k => XS.dup X101.here hx rfl (hb hby at_30) rfl rfl k) ?_
  refine own_st (q' := T101.setTop (mkF m 32 #[.val (.int p1), .val (.int p2), .val (.long q3), .second, .val (.long q4), .second, .val (.long q5), .second, .val (.long q6), .second, .val (.long z1), .second, .val (.long z2), .second, .val (.long z3), .second, .unset, .unset, .unset, .unset] [(.int p1), (.ref b101), (.ref b101)])) (fun _ k => XS.iloadN X101.here hx rfl (hb hby at_31) rfl k) ?_
  refine own_st (q' := T101.setTop (mkF m 33 #[.val (.int p1), .val (.int p2), .val (.long q3), .second, .val (.long q4), .second, .val (.long q5), .second, .val (.long q6), .second, .val (.long z1), .second, .val (.long z2), .second, .val (.long z3), .second, .unset, .unset, .unset, .unset] [(.int p2), (.int p1), (.ref b101), (.ref b101)])) (fun _ k => XS.iloadN X101.here hx rfl (hb hby at_32) rfl k) ?_
  refine own_st (q' := T101.setTop (mkF m 35 #[.val (.int p1), .val (.int p2), .val (.long q3), .second, .val (.long q4), .second, .val (.long q5), .second, .val (.long q6), .second, .val (.long z1), .second, .val (.long z2), .second, .val (.long z3), .second, .unset, .unset, .unset, .unset] [(.long z1), (.int p2), (.int p1), (.ref b101), (.ref b101)])) (fun _ k => XS.lload X101.here hx rfl (hb hby at_33) rfl k) ?_
  refine own_st (q' := T101.setTop (mkF m 37 #[.val (.int p1), .val (.int p2), .val (.long q3), .second, .val (.long q4), .second, .val (.long q5), .second, .val (.long q6), .second, .val (.long z1), .second, .val (.long z2), .second, .val (.long z3), .second, .unset, .unset, .unset, .unset] [(.long q4), (.long z1), (.int p2), (.int p1), (.ref b101), (.ref b101)])) (fun _ k => XS.lload X101.here hx rfl (hb hby at_35) rfl k) ?_
  refine own_callI (y := (⟨"com/example/ashurbanipal/ashurbanipal/store/VersionRules", "<init>", "(IIJJ)V"⟩ : MethodName)) X101 hx hZ hown rfl (hw _ (List.mem_of_getElem? (i := 5) rfl)) (hw _ (List.mem_of_getElem? (i := 6) rfl)) (hw _ (List.mem_of_getElem? (i := 4) rfl)) (hw _ (List.mem_of_getElem? (i := 7) rfl)) (by decide) (rmI l Z a0 hw [] b101 p1 p2 z1 q4 h101 n0 (Nat.le_trans Z0 E101.1) A101 ge_b101 F_timeToLive_b101 F_maxVersions_b101 F_maxVersionOffset_b101 F_visibilityChanged_b101) e101 (W := 1) (by decide) (by decide) (by decide) (by decide) (g := (mkF m 37 #[.val (.int p1), .val (.int p2), .val (.long q3), .second, .val (.long q4), .second, .val (.long q5), .second, .val (.long q6), .second, .val (.long z1), .second, .val (.long z2), .second, .val (.long z3), .second, .unset, .unset, .unset, .unset] [(.long q4), (.long z1), (.int p2), (.int p1), (.ref b101), (.ref b101)])) rfl (by rw [hml]; rfl) (a := b101) (argsL := [(.int p1), (.int p2), (.long z1), (.long q4)]) (rest := [(.ref b101)]) rfl (lenOf pd_0 rfl) rfl (by show 2 * 0 + _ ≤ _; exact Nat.le_of_eq rfl) (hb hby at_37) ?_
  intro v103 T103 L103 hQ103 X103
  obtain ⟨rfl, NN103, KK103, q103_0, q103_1⟩ := hQ103
  have N103 := Fr.app N0 NN103
  have K104 : Keep h0 T103.heap [] := (K102.trans KK103 (allS (Or.inr sz_b101) all0))
  show own_Dn p e below s (fun v h L => v = some (.int 1) ∧ Fr n0 L) room_1.cells room_1.slots (T103.setTop (mkF m 40 #[.val (.int p1), .val (.int p2), .val (.long q3), .second, .val (.long q4), .second, .val (.long q5), .second, .val (.long q6), .second, .val (.long z1), .second, .val (.long z2), .second, .val (.long z3), .second, .unset, .unset, .unset, .unset] [(.ref b101)]))
  refine own_st (q' := T103.setTop (mkF m 42 #[.val (.int p1), .val (.int p2), .val (.long q3), .second, .val (.long q4), .second, .val (.long q5), .second, .val (.long q6), .second, .val (.long z1), .second, .val (.long z2), .second, .val (.long z3), .second, .val (.ref b101), .unset, .unset, .unset] [])) (fun _ k => XS.astore X103.here hx rfl (hb hby at_40) rfl rfl (l' := #[.val (.int p1), .val (.int p2), .val (.long q3), .second, .val (.long q4), .second, .val (.long q5), .second, .val (.long q6), .second, .val (.long z1), .second, .val (.long z2), .second, .val (.long z3), .second, .val (.ref b101), .unset, .unset, .unset]) rfl k) ?_
  refine own_st (q' := T103.setTop (mkF m 44 #[.val (.int p1), .val (.int p2), .val (.long q3), .second, .val (.long q4), .second, .val (.long q5), .second, .val (.long q6), .second, .val (.long z1), .second, .val (.long z2), .second, .val (.long z3), .second, .val (.ref b101), .unset, .unset, .unset] [(.long z1)])) (fun _ k => XS.lload X103.here hx rfl (hb hby at_42) rfl k) ?_
  refine own_st (q' := T103.setTop (mkF m 47 #[.val (.int p1), .val (.int p2), .val (.long q3), .second, .val (.long q4), .second, .val (.long q5), .second, .val (.long q6), .second, .val (.long z1), .second, .val (.long z2), .second, .val (.long z3), .second, .val (.ref b101), .unset, .unset, .unset] [(.long (1000 : Int64)), (.long z1)])) (fun _ k => X103.ldc2Long hx hown (mvT hZ (hw _ (List.mem_of_getElem? (i := 19) rfl))) (g := (mkF m 44 #[.val (.int p1), .val (.int p2), .val (.long q3), .second, .val (.long q4), .second, .val (.long q5), .second, .val (.long q6), .second, .val (.long z1), .second, .val (.long z2), .second, .val (.long z3), .second, .val (.ref b101), .unset, .unset, .unset] [(.long z1)])) rfl (hb hby at_44) _ k) ?_
  refine own_st (q' := T103.setTop (mkF m 48 #[.val (.int p1), .val (.int p2), .val (.long q3), .second, .val (.long q4), .second, .val (.long q5), .second, .val (.long q6), .second, .val (.long z1), .second, .val (.long z2), .second, .val (.long z3), .second, .val (.ref b101), .unset, .unset, .unset] [(.long (z1 * (1000 : Int64)))])) (fun _ k => XS.lmul X103.here hx rfl (hb hby at_47) rfl k) ?_
  refine own_st (q' := T103.setTop (mkF m 50 #[.val (.int p1), .val (.int p2), .val (.long q3), .second, .val (.long q4), .second, .val (.long q5), .second, .val (.long q6), .second, .val (.long z1), .second, .val (.long z2), .second, .val (.long z3), .second, .val (.ref b101), .val (.long (z1 * (1000 : Int64))), .second, .unset] [])) (fun _ k => XS.lstore X103.here hx rfl (hb hby at_48) rfl (l' := #[.val (.int p1), .val (.int p2), .val (.long q3), .second, .val (.long q4), .second, .val (.long q5), .second, .val (.long q6), .second, .val (.long z1), .second, .val (.long z2), .second, .val (.long z3), .second, .val (.ref b101), .val (.long (z1 * (1000 : Int64))), .second, .unset]) rfl k) ?_
  refine own_st (q' := T103.setTop (mkF m 52 #[.val (.int p1), .val (.int p2), .val (.long q3), .second, .val (.long q4), .second, .val (.long q5), .second, .val (.long q6), .second, .val (.long z1), .second, .val (.long z2), .second, .val (.long z3), .second, .val (.ref b101), .val (.long (z1 * (1000 : Int64))), .second, .unset] [(.long z2)])) (fun _ k => XS.lload X103.here hx rfl (hb hby at_50) rfl k) ?_
  refine own_st (q' := T103.setTop (mkF m 54 #[.val (.int p1), .val (.int p2), .val (.long q3), .second, .val (.long q4), .second, .val (.long q5), .second, .val (.long q6), .second, .val (.long z1), .second, .val (.long z2), .second, .val (.long z3), .second, .val (.ref b101), .val (.long (z1 * (1000 : Int64))), .second, .unset] [(.long z3), (.long z2)])) (fun _ k => XS.lload X103.here hx rfl (hb hby at_52) rfl k) ?_
  refine own_st (q' := T103.setTop (mkF m 55 #[.val (.int p1), .val (.int p2), .val (.long q3), .second, .val (.long q4), .second, .val (.long q5), .second, .val (.long q6), .second, .val (.long z1), .second, .val (.long z2), .second, .val (.long z3), .second, .val (.ref b101), .val (.long (z1 * (1000 : Int64))), .second, .unset] [(.int (lcmpW z2 z3))])) (fun _ k => XS.lcmp X103.here hx rfl (hb hby at_54) rfl k) ?_
  by_cases hc55_105 : (lcmpW z2 z3) < (0 : Int32)
  · skip
    have hc55_105I : ((lcmpW z2 z3)).toInt < (0 : Int) := own_ltT hc55_105
    refine own_st (q' := T103.setTop (mkF m 79 #[.val (.int p1), .val (.int p2), .val (.long q3), .second, .val (.long q4), .second, .val (.long q5), .second, .val (.long q6), .second, .val (.long z1), .second, .val (.long z2), .second, .val (.long z3), .second, .val (.ref b101), .val (.long (z1 * (1000 : Int64))), .second, .unset] [])) (fun _ k => XS.ifYes X103.here hx rfl (pc0 := 55) (pc' := 79) rfl (hb hby at_55) rfl ((if0 _ _).trans (tlt hc55_105).1) (by decide) (by decide) k) ?_
    refine own_st (q' := T103.setTop (mkF m 81 #[.val (.int p1), .val (.int p2), .val (.long q3), .second, .val (.long q4), .second, .val (.long q5), .second, .val (.long q6), .second, .val (.long z1), .second, .val (.long z2), .second, .val (.long z3), .second, .val (.ref b101), .val (.long (z1 * (1000 : Int64))), .second, .unset] [(.long z3)])) (fun _ k => XS.lload X103.here hx rfl (hb hby at_79) rfl k) ?_
    refine own_st (q' := T103.setTop (mkF m 83 #[.val (.int p1), .val (.int p2), .val (.long q3), .second, .val (.long q4), .second, .val (.long q5), .second, .val (.long q6), .second, .val (.long z1), .second, .val (.long z2), .second, .val (.long z3), .second, .val (.ref b101), .val (.long (z1 * (1000 : Int64))), .second, .unset] [(.long z2), (.long z3)])) (fun _ k => XS.lload X103.here hx rfl (hb hby at_81) rfl k) ?_
    refine own_st (q' := T103.setTop (mkF m 84 #[.val (.int p1), .val (.int p2), .val (.long q3), .second, .val (.long q4), .second, .val (.long q5), .second, .val (.long q6), .second, .val (.long z1), .second, .val (.long z2), .second, .val (.long z3), .second, .val (.ref b101), .val (.long (z1 * (1000 : Int64))), .second, .unset] [(.long (z3 - z2))])) (fun _ k => XS.lsub X103.here hx rfl (hb hby at_83) rfl k) ?_
    refine own_st (q' := T103.setTop (mkF m 86 #[.val (.int p1), .val (.int p2), .val (.long q3), .second, .val (.long q4), .second, .val (.long q5), .second, .val (.long q6), .second, .val (.long z1), .second, .val (.long z2), .second, .val (.long z3), .second, .val (.ref b101), .val (.long (z1 * (1000 : Int64))), .second, .unset] [(.long (z1 * (1000 : Int64))), (.long (z3 - z2))])) (fun _ k => XS.lload X103.here hx rfl (hb hby at_84) rfl k) ?_
    refine own_st (q' := T103.setTop (mkF m 87 #[.val (.int p1), .val (.int p2), .val (.long q3), .second, .val (.long q4), .second, .val (.long q5), .second, .val (.long q6), .second, .val (.long z1), .second, .val (.long z2), .second, .val (.long z3), .second, .val (.ref b101), .val (.long (z1 * (1000 : Int64))), .second, .unset] [(.int (lcmpW (z3 - z2) (z1 * (1000 : Int64))))])) (fun _ k => XS.lcmp X103.here hx rfl (hb hby at_86) rfl k) ?_
    by_cases hc87_106 : (0 : Int32) < (lcmpW (z3 - z2) (z1 * (1000 : Int64)))
    · skip
      have hc87_106I : (0 : Int) < ((lcmpW (z3 - z2) (z1 * (1000 : Int64)))).toInt := own_ltT hc87_106
      refine own_st (q' := T103.setTop (mkF m 94 #[.val (.int p1), .val (.int p2), .val (.long q3), .second, .val (.long q4), .second, .val (.long q5), .second, .val (.long q6), .second, .val (.long z1), .second, .val (.long z2), .second, .val (.long z3), .second, .val (.ref b101), .val (.long (z1 * (1000 : Int64))), .second, .unset] [])) (fun _ k => XS.ifYes X103.here hx rfl (pc0 := 87) (pc' := 94) rfl (hb hby at_87) rfl ((if0 _ _).trans (tlt hc87_106).2.2.1) (by decide) (by decide) k) ?_
      refine own_st (q' := T103.setTop (mkF m 95 #[.val (.int p1), .val (.int p2), .val (.long q3), .second, .val (.long q4), .second, .val (.long q5), .second, .val (.long q6), .second, .val (.long z1), .second, .val (.long z2), .second, .val (.long z3), .second, .val (.ref b101), .val (.long (z1 * (1000 : Int64))), .second, .unset] [(.int (0 : Int32))])) (fun _ k => XS.iconst X103.here hx rfl (hb hby at_94) k) ?_
      refine own_st (q' := T103.setTop (mkF m 97 #[.val (.int p1), .val (.int p2), .val (.long q3), .second, .val (.long q4), .second, .val (.long q5), .second, .val (.long q6), .second, .val (.long z1), .second, .val (.long z2), .second, .val (.long z3), .second, .val (.ref b101), .val (.long (z1 * (1000 : Int64))), .second, .val (.int (0 : Int32))] [])) (fun _ k => XS.istore X103.here hx rfl (hb hby at_95) rfl (l' := #[.val (.int p1), .val (.int p2), .val (.long q3), .second, .val (.long q4), .second, .val (.long q5), .second, .val (.long q6), .second, .val (.long z1), .second, .val (.long z2), .second, .val (.long z3), .second, .val (.ref b101), .val (.long (z1 * (1000 : Int64))), .second, .val (.int (0 : Int32))]) rfl k) ?_
      refine own_st (q' := T103.setTop (mkF m 99 #[.val (.int p1), .val (.int p2), .val (.long q3), .second, .val (.long q4), .second, .val (.long q5), .second, .val (.long q6), .second, .val (.long z1), .second, .val (.long z2), .second, .val (.long z3), .second, .val (.ref b101), .val (.long (z1 * (1000 : Int64))), .second, .val (.int (0 : Int32))] [(.ref b101)])) (fun _ k => XS.aload X103.here hx rfl (hb hby at_97) rfl rfl k) ?_
      refine own_st (q' := T103.setTop (mkF m 101 #[.val (.int p1), .val (.int p2), .val (.long q3), .second, .val (.long q4), .second, .val (.long q5), .second, .val (.long q6), .second, .val (.long z1), .second, .val (.long z2), .second, .val (.long z3), .second, .val (.ref b101), .val (.long (z1 * (1000 : Int64))), .second, .val (.int (0 : Int32))] [(.long z2), (.ref b101)])) (fun _ k => XS.lload X103.here hx rfl (hb hby at_99) rfl k) ?_
      refine own_st (q' := T103.setTop (mkF m 103 #[.val (.int p1), .val (.int p2), .val (.long q3), .second, .val (.long q4), .second, .val (.long q5), .second, .val (.long q6), .second, .val (.long z1), .second, .val (.long z2), .second, .val (.long z3), .second, .val (.ref b101), .val (.long (z1 * (1000 : Int64))), .second, .val (.int (0 : Int32))] [(.long z3), (.long z2), (.ref b101)])) (fun _ k => XS.lload X103.here hx rfl (hb hby at_101) rfl k) ?_
      refine own_callV (y := (⟨"com/example/ashurbanipal/ashurbanipal/store/VersionRules", "isWithinOffset", "(JJ)Z"⟩ : MethodName)) X103 hx hZ hown (hw _ (List.mem_of_getElem? (i := 20) rfl)) (hw _ (List.mem_of_getElem? (i := 21) rfl)) (hw _ (List.mem_of_getElem? (i := 23) rfl)) (hw _ (List.mem_of_getElem? (i := 22) rfl)) (hw _ (List.mem_of_getElem? (i := 4) rfl)) (hw _ (List.mem_of_getElem? (i := 24) rfl)) (by decide) (rm3 l Z a0 hw [] b101 z2 z3 z1 T103.heap n0 (Nat.le_trans (Nat.le_trans Z0 E101.1) KK103.1) q103_1) (rfl : T103.heap = T103.heap) q103_0 (W := 0) (by decide) (by decide) (by decide) (by decide) (g := (mkF m 103 #[.val (.int p1), .val (.int p2), .val (.long q3), .second, .val (.long q4), .second, .val (.long q5), .second, .val (.long q6), .second, .val (.long z1), .second, .val (.long z2), .second, .val (.long z3), .second, .val (.ref b101), .val (.long (z1 * (1000 : Int64))), .second, .val (.int (0 : Int32))] [(.long z3), (.long z2), (.ref b101)])) rfl (by rw [hml]; rfl) (argsL := [(.long z2), (.long z3)]) (rest := []) rfl (lenOf pd_1 rfl) rfl (by show 2 * 0 + _ ≤ _; exact Nat.le_of_eq rfl) (hb hby at_103) ?_
      intro v107 T107 L107 hQ107 X107
      obtain ⟨rfl, NN107, e107⟩ := hQ107
      have N107 := Fr.app N103 NN107
      show own_Dn p e below s (fun v h L => v = some (.int 1) ∧ Fr n0 L) room_1.cells room_1.slots (T107.setTop (mkF m 106 #[.val (.int p1), .val (.int p2), .val (.long q3), .second, .val (.long q4), .second, .val (.long q5), .second, .val (.long q6), .second, .val (.long z1), .second, .val (.long z2), .second, .val (.long z3), .second, .val (.ref b101), .val (.long (z1 * (1000 : Int64))), .second, .val (.int (0 : Int32))] [(.int (own_wi z1 z2 z3))]))
      refine own_st (q' := T107.setTop (mkF m 108 #[.val (.int p1), .val (.int p2), .val (.long q3), .second, .val (.long q4), .second, .val (.long q5), .second, .val (.long q6), .second, .val (.long z1), .second, .val (.long z2), .second, .val (.long z3), .second, .val (.ref b101), .val (.long (z1 * (1000 : Int64))), .second, .val (.int (0 : Int32))] [(.int (0 : Int32)), (.int (own_wi z1 z2 z3))])) (fun _ k => XS.iload X107.here hx rfl (hb hby at_106) rfl k) ?_
      refine own_st (q' := T107.setTop (mkF m 111 #[.val (.int p1), .val (.int p2), .val (.long q3), .second, .val (.long q4), .second, .val (.long q5), .second, .val (.long q6), .second, .val (.long z1), .second, .val (.long z2), .second, .val (.long z3), .second, .val (.ref b101), .val (.long (z1 * (1000 : Int64))), .second, .val (.int (0 : Int32))] [])) (fun _ k => XS.icmpNo X107.here hx rfl (hb hby at_108) rfl (teq (by rw [own_plain _ _ _ b1.1 b1.2 b2 b3, if_pos hc55_105, if_pos hc87_106])).2 k) ?_
      refine own_st (q' := T107.setTop (mkF m 112 #[.val (.int p1), .val (.int p2), .val (.long q3), .second, .val (.long q4), .second, .val (.long q5), .second, .val (.long q6), .second, .val (.long z1), .second, .val (.long z2), .second, .val (.long z3), .second, .val (.ref b101), .val (.long (z1 * (1000 : Int64))), .second, .val (.int (0 : Int32))] [(.int (1 : Int32))])) (fun _ k => XS.iconst X107.here hx rfl (hb hby at_111) k) ?_
      refine own_st (q' := T107.setTop (mkF m 116 #[.val (.int p1), .val (.int p2), .val (.long q3), .second, .val (.long q4), .second, .val (.long q5), .second, .val (.long q6), .second, .val (.long z1), .second, .val (.long z2), .second, .val (.long z3), .second, .val (.ref b101), .val (.long (z1 * (1000 : Int64))), .second, .val (.int (0 : Int32))] [(.int (1 : Int32))])) (fun _ k => XS.goto X107.here hx rfl (pc0 := 112) (pc' := 116) rfl (hb hby at_112) (by decide) (by decide) k) ?_
      exact own_retN X107 hx hlk (t := .boolean) hret (by simp) (hb hby at_116) e107 (by exact ⟨rfl, N107⟩) (by decide) (by decide)
    · skip
      have hc87_106I : ((lcmpW (z3 - z2) (z1 * (1000 : Int64)))).toInt ≤ (0 : Int) := own_ltF hc87_106
      refine own_st (q' := T103.setTop (mkF m 90 #[.val (.int p1), .val (.int p2), .val (.long q3), .second, .val (.long q4), .second, .val (.long q5), .second, .val (.long q6), .second, .val (.long z1), .second, .val (.long z2), .second, .val (.long z3), .second, .val (.ref b101), .val (.long (z1 * (1000 : Int64))), .second, .unset] [])) (fun _ k => XS.ifNo X103.here hx rfl (hb hby at_87) rfl ((if0 _ _).trans (flt hc87_106).2.2.1) k) ?_
      refine own_st (q' := T103.setTop (mkF m 91 #[.val (.int p1), .val (.int p2), .val (.long q3), .second, .val (.long q4), .second, .val (.long q5), .second, .val (.long q6), .second, .val (.long z1), .second, .val (.long z2), .second, .val (.long z3), .second, .val (.ref b101), .val (.long (z1 * (1000 : Int64))), .second, .unset] [(.int (1 : Int32))])) (fun _ k => XS.iconst X103.here hx rfl (hb hby at_90) k) ?_
      refine own_st (q' := T103.setTop (mkF m 95 #[.val (.int p1), .val (.int p2), .val (.long q3), .second, .val (.long q4), .second, .val (.long q5), .second, .val (.long q6), .second, .val (.long z1), .second, .val (.long z2), .second, .val (.long z3), .second, .val (.ref b101), .val (.long (z1 * (1000 : Int64))), .second, .unset] [(.int (1 : Int32))])) (fun _ k => XS.goto X103.here hx rfl (pc0 := 91) (pc' := 95) rfl (hb hby at_91) (by decide) (by decide) k) ?_
      refine own_st (q' := T103.setTop (mkF m 97 #[.val (.int p1), .val (.int p2), .val (.long q3), .second, .val (.long q4), .second, .val (.long q5), .second, .val (.long q6), .second, .val (.long z1), .second, .val (.long z2), .second, .val (.long z3), .second, .val (.ref b101), .val (.long (z1 * (1000 : Int64))), .second, .val (.int (1 : Int32))] [])) (fun _ k => XS.istore X103.here hx rfl (hb hby at_95) rfl (l' := #[.val (.int p1), .val (.int p2), .val (.long q3), .second, .val (.long q4), .second, .val (.long q5), .second, .val (.long q6), .second, .val (.long z1), .second, .val (.long z2), .second, .val (.long z3), .second, .val (.ref b101), .val (.long (z1 * (1000 : Int64))), .second, .val (.int (1 : Int32))]) rfl k) ?_
      refine own_st (q' := T103.setTop (mkF m 99 #[.val (.int p1), .val (.int p2), .val (.long q3), .second, .val (.long q4), .second, .val (.long q5), .second, .val (.long q6), .second, .val (.long z1), .second, .val (.long z2), .second, .val (.long z3), .second, .val (.ref b101), .val (.long (z1 * (1000 : Int64))), .second, .val (.int (1 : Int32))] [(.ref b101)])) (fun _ k => XS.aload X103.here hx rfl (hb hby at_97) rfl rfl k) ?_
      refine own_st (q' := T103.setTop (mkF m 101 #[.val (.int p1), .val (.int p2), .val (.long q3), .second, .val (.long q4), .second, .val (.long q5), .second, .val (.long q6), .second, .val (.long z1), .second, .val (.long z2), .second, .val (.long z3), .second, .val (.ref b101), .val (.long (z1 * (1000 : Int64))), .second, .val (.int (1 : Int32))] [(.long z2), (.ref b101)])) (fun _ k => XS.lload X103.here hx rfl (hb hby at_99) rfl k) ?_
      refine own_st (q' := T103.setTop (mkF m 103 #[.val (.int p1), .val (.int p2), .val (.long q3), .second, .val (.long q4), .second, .val (.long q5), .second, .val (.long q6), .second, .val (.long z1), .second, .val (.long z2), .second, .val (.long z3), .second, .val (.ref b101), .val (.long (z1 * (1000 : Int64))), .second, .val (.int (1 : Int32))] [(.long z3), (.long z2), (.ref b101)])) (fun _ k => XS.lload X103.here hx rfl (hb hby at_101) rfl k) ?_
      refine own_callV (y := (⟨"com/example/ashurbanipal/ashurbanipal/store/VersionRules", "isWithinOffset", "(JJ)Z"⟩ : MethodName)) X103 hx hZ hown (hw _ (List.mem_of_getElem? (i := 20) rfl)) (hw _ (List.mem_of_getElem? (i := 21) rfl)) (hw _ (List.mem_of_getElem? (i := 23) rfl)) (hw _ (List.mem_of_getElem? (i := 22) rfl)) (hw _ (List.mem_of_getElem? (i := 4) rfl)) (hw _ (List.mem_of_getElem? (i := 24) rfl)) (by decide) (rm3 l Z a0 hw [] b101 z2 z3 z1 T103.heap n0 (Nat.le_trans (Nat.le_trans Z0 E101.1) KK103.1) q103_1) (rfl : T103.heap = T103.heap) q103_0 (W := 0) (by decide) (by decide) (by decide) (by decide) (g := (mkF m 103 #[.val (.int p1), .val (.int p2), .val (.long q3), .second, .val (.long q4), .second, .val (.long q5), .second, .val (.long q6), .second, .val (.long z1), .second, .val (.long z2), .second, .val (.long z3), .second, .val (.ref b101), .val (.long (z1 * (1000 : Int64))), .second, .val (.int (1 : Int32))] [(.long z3), (.long z2), (.ref b101)])) rfl (by rw [hml]; rfl) (argsL := [(.long z2), (.long z3)]) (rest := []) rfl (lenOf pd_1 rfl) rfl (by show 2 * 0 + _ ≤ _; exact Nat.le_of_eq rfl) (hb hby at_103) ?_
      intro v108 T108 L108 hQ108 X108
      obtain ⟨rfl, NN108, e108⟩ := hQ108
      have N108 := Fr.app N103 NN108
      show own_Dn p e below s (fun v h L => v = some (.int 1) ∧ Fr n0 L) room_1.cells room_1.slots (T108.setTop (mkF m 106 #[.val (.int p1), .val (.int p2), .val (.long q3), .second, .val (.long q4), .second, .val (.long q5), .second, .val (.long q6), .second, .val (.long z1), .second, .val (.long z2), .second, .val (.long z3), .second, .val (.ref b101), .val (.long (z1 * (1000 : Int64))), .second, .val (.int (1 : Int32))] [(.int (own_wi z1 z2 z3))]))
      refine own_st (q' := T108.setTop (mkF m 108 #[.val (.int p1), .val (.int p2), .val (.long q3), .second, .val (.long q4), .second, .val (.long q5), .second, .val (.long q6), .second, .val (.long z1), .second, .val (.long z2), .second, .val (.long z3), .second, .val (.ref b101), .val (.long (z1 * (1000 : Int64))), .second, .val (.int (1 : Int32))] [(.int (1 : Int32)), (.int (own_wi z1 z2 z3))])) (fun _ k => XS.iload X108.here hx rfl (hb hby at_106) rfl k) ?_
      refine own_st (q' := T108.setTop (mkF m 111 #[.val (.int p1), .val (.int p2), .val (.long q3), .second, .val (.long q4), .second, .val (.long q5), .second, .val (.long q6), .second, .val (.long z1), .second, .val (.long z2), .second, .val (.long z3), .second, .val (.ref b101), .val (.long (z1 * (1000 : Int64))), .second, .val (.int (1 : Int32))] [])) (fun _ k => XS.icmpNo X108.here hx rfl (hb hby at_108) rfl (teq (by rw [own_plain _ _ _ b1.1 b1.2 b2 b3, if_pos hc55_105, if_neg hc87_106])).2 k) ?_
      refine own_st (q' := T108.setTop (mkF m 112 #[.val (.int p1), .val (.int p2), .val (.long q3), .second, .val (.long q4), .second, .val (.long q5), .second, .val (.long q6), .second, .val (.long z1), .second, .val (.long z2), .second, .val (.long z3), .second, .val (.ref b101), .val (.long (z1 * (1000 : Int64))), .second, .val (.int (1 : Int32))] [(.int (1 : Int32))])) (fun _ k => XS.iconst X108.here hx rfl (hb hby at_111) k) ?_
      refine own_st (q' := T108.setTop (mkF m 116 #[.val (.int p1), .val (.int p2), .val (.long q3), .second, .val (.long q4), .second, .val (.long q5), .second, .val (.long q6), .second, .val (.long z1), .second, .val (.long z2), .second, .val (.long z3), .second, .val (.ref b101), .val (.long (z1 * (1000 : Int64))), .second, .val (.int (1 : Int32))] [(.int (1 : Int32))])) (fun _ k => XS.goto X108.here hx rfl (pc0 := 112) (pc' := 116) rfl (hb hby at_112) (by decide) (by decide) k) ?_
      exact own_retN X108 hx hlk (t := .boolean) hret (by simp) (hb hby at_116) e108 (by exact ⟨rfl, N108⟩) (by decide) (by decide)
  · skip
    have hc55_105I : (0 : Int) ≤ ((lcmpW z2 z3)).toInt := own_ltF hc55_105
    refine own_st (q' := T103.setTop (mkF m 58 #[.val (.int p1), .val (.int p2), .val (.long q3), .second, .val (.long q4), .second, .val (.long q5), .second, .val (.long q6), .second, .val (.long z1), .second, .val (.long z2), .second, .val (.long z3), .second, .val (.ref b101), .val (.long (z1 * (1000 : Int64))), .second, .unset] [])) (fun _ k => XS.ifNo X103.here hx rfl (hb hby at_55) rfl ((if0 _ _).trans (flt hc55_105).1) k) ?_
    refine own_st (q' := T103.setTop (mkF m 60 #[.val (.int p1), .val (.int p2), .val (.long q3), .second, .val (.long q4), .second, .val (.long q5), .second, .val (.long q6), .second, .val (.long z1), .second, .val (.long z2), .second, .val (.long z3), .second, .val (.ref b101), .val (.long (z1 * (1000 : Int64))), .second, .unset] [(.long z2)])) (fun _ k => XS.lload X103.here hx rfl (hb hby at_58) rfl k) ?_
    refine own_st (q' := T103.setTop (mkF m 62 #[.val (.int p1), .val (.int p2), .val (.long q3), .second, .val (.long q4), .second, .val (.long q5), .second, .val (.long q6), .second, .val (.long z1), .second, .val (.long z2), .second, .val (.long z3), .second, .val (.ref b101), .val (.long (z1 * (1000 : Int64))), .second, .unset] [(.long z3), (.long z2)])) (fun _ k => XS.lload X103.here hx rfl (hb hby at_60) rfl k) ?_
    refine own_st (q' := T103.setTop (mkF m 63 #[.val (.int p1), .val (.int p2), .val (.long q3), .second, .val (.long q4), .second, .val (.long q5), .second, .val (.long q6), .second, .val (.long z1), .second, .val (.long z2), .second, .val (.long z3), .second, .val (.ref b101), .val (.long (z1 * (1000 : Int64))), .second, .unset] [(.long (z2 - z3))])) (fun _ k => XS.lsub X103.here hx rfl (hb hby at_62) rfl k) ?_
    refine own_st (q' := T103.setTop (mkF m 65 #[.val (.int p1), .val (.int p2), .val (.long q3), .second, .val (.long q4), .second, .val (.long q5), .second, .val (.long q6), .second, .val (.long z1), .second, .val (.long z2), .second, .val (.long z3), .second, .val (.ref b101), .val (.long (z1 * (1000 : Int64))), .second, .unset] [(.long (z1 * (1000 : Int64))), (.long (z2 - z3))])) (fun _ k => XS.lload X103.here hx rfl (hb hby at_63) rfl k) ?_
    refine own_st (q' := T103.setTop (mkF m 66 #[.val (.int p1), .val (.int p2), .val (.long q3), .second, .val (.long q4), .second, .val (.long q5), .second, .val (.long q6), .second, .val (.long z1), .second, .val (.long z2), .second, .val (.long z3), .second, .val (.ref b101), .val (.long (z1 * (1000 : Int64))), .second, .unset] [(.int (lcmpW (z2 - z3) (z1 * (1000 : Int64))))])) (fun _ k => XS.lcmp X103.here hx rfl (hb hby at_65) rfl k) ?_
    by_cases hc66_109 : (lcmpW (z2 - z3) (z1 * (1000 : Int64))) < (0 : Int32)
    · skip
      have hc66_109I : ((lcmpW (z2 - z3) (z1 * (1000 : Int64)))).toInt < (0 : Int) := own_ltT hc66_109
      refine own_st (q' := T103.setTop (mkF m 69 #[.val (.int p1), .val (.int p2), .val (.long q3), .second, .val (.long q4), .second, .val (.long q5), .second, .val (.long q6), .second, .val (.long z1), .second, .val (.long z2), .second, .val (.long z3), .second, .val (.ref b101), .val (.long (z1 * (1000 : Int64))), .second, .unset] [])) (fun _ k => XS.ifNo X103.here hx rfl (hb hby at_66) rfl ((if0 _ _).trans (tlt hc66_109).2.1) k) ?_
      refine own_st (q' := T103.setTop (mkF m 70 #[.val (.int p1), .val (.int p2), .val (.long q3), .second, .val (.long q4), .second, .val (.long q5), .second, .val (.long q6), .second, .val (.long z1), .second, .val (.long z2), .second, .val (.long z3), .second, .val (.ref b101), .val (.long (z1 * (1000 : Int64))), .second, .unset] [(.int (1 : Int32))])) (fun _ k => XS.iconst X103.here hx rfl (hb hby at_69) k) ?_
      refine own_st (q' := T103.setTop (mkF m 74 #[.val (.int p1), .val (.int p2), .val (.long q3), .second, .val (.long q4), .second, .val (.long q5), .second, .val (.long q6), .second, .val (.long z1), .second, .val (.long z2), .second, .val (.long z3), .second, .val (.ref b101), .val (.long (z1 * (1000 : Int64))), .second, .unset] [(.int (1 : Int32))])) (fun _ k => XS.goto X103.here hx rfl (pc0 := 70) (pc' := 74) rfl (hb hby at_70) (by decide) (by decide) k) ?_
      refine own_st (q' := T103.setTop (mkF m 76 #[.val (.int p1), .val (.int p2), .val (.long q3), .second, .val (.long q4), .second, .val (.long q5), .second, .val (.long q6), .second, .val (.long z1), .second, .val (.long z2), .second, .val (.long z3), .second, .val (.ref b101), .val (.long (z1 * (1000 : Int64))), .second, .val (.int (1 : Int32))] [])) (fun _ k => XS.istore X103.here hx rfl (hb hby at_74) rfl (l' := #[.val (.int p1), .val (.int p2), .val (.long q3), .second, .val (.long q4), .second, .val (.long q5), .second, .val (.long q6), .second, .val (.long z1), .second, .val (.long z2), .second, .val (.long z3), .second, .val (.ref b101), .val (.long (z1 * (1000 : Int64))), .second, .val (.int (1 : Int32))]) rfl k) ?_
      refine own_st (q' := T103.setTop (mkF m 97 #[.val (.int p1), .val (.int p2), .val (.long q3), .second, .val (.long q4), .second, .val (.long q5), .second, .val (.long q6), .second, .val (.long z1), .second, .val (.long z2), .second, .val (.long z3), .second, .val (.ref b101), .val (.long (z1 * (1000 : Int64))), .second, .val (.int (1 : Int32))] [])) (fun _ k => XS.goto X103.here hx rfl (pc0 := 76) (pc' := 97) rfl (hb hby at_76) (by decide) (by decide) k) ?_
      refine own_st (q' := T103.setTop (mkF m 99 #[.val (.int p1), .val (.int p2), .val (.long q3), .second, .val (.long q4), .second, .val (.long q5), .second, .val (.long q6), .second, .val (.long z1), .second, .val (.long z2), .second, .val (.long z3), .second, .val (.ref b101), .val (.long (z1 * (1000 : Int64))), .second, .val (.int (1 : Int32))] [(.ref b101)])) (fun _ k => XS.aload X103.here hx rfl (hb hby at_97) rfl rfl k) ?_
      refine own_st (q' := T103.setTop (mkF m 101 #[.val (.int p1), .val (.int p2), .val (.long q3), .second, .val (.long q4), .second, .val (.long q5), .second, .val (.long q6), .second, .val (.long z1), .second, .val (.long z2), .second, .val (.long z3), .second, .val (.ref b101), .val (.long (z1 * (1000 : Int64))), .second, .val (.int (1 : Int32))] [(.long z2), (.ref b101)])) (fun _ k => XS.lload X103.here hx rfl (hb hby at_99) rfl k) ?_
      refine own_st (q' := T103.setTop (mkF m 103 #[.val (.int p1), .val (.int p2), .val (.long q3), .second, .val (.long q4), .second, .val (.long q5), .second, .val (.long q6), .second, .val (.long z1), .second, .val (.long z2), .second, .val (.long z3), .second, .val (.ref b101), .val (.long (z1 * (1000 : Int64))), .second, .val (.int (1 : Int32))] [(.long z3), (.long z2), (.ref b101)])) (fun _ k => XS.lload X103.here hx rfl (hb hby at_101) rfl k) ?_
      refine own_callV (y := (⟨"com/example/ashurbanipal/ashurbanipal/store/VersionRules", "isWithinOffset", "(JJ)Z"⟩ : MethodName)) X103 hx hZ hown (hw _ (List.mem_of_getElem? (i := 20) rfl)) (hw _ (List.mem_of_getElem? (i := 21) rfl)) (hw _ (List.mem_of_getElem? (i := 23) rfl)) (hw _ (List.mem_of_getElem? (i := 22) rfl)) (hw _ (List.mem_of_getElem? (i := 4) rfl)) (hw _ (List.mem_of_getElem? (i := 24) rfl)) (by decide) (rm3 l Z a0 hw [] b101 z2 z3 z1 T103.heap n0 (Nat.le_trans (Nat.le_trans Z0 E101.1) KK103.1) q103_1) (rfl : T103.heap = T103.heap) q103_0 (W := 0) (by decide) (by decide) (by decide) (by decide) (g := (mkF m 103 #[.val (.int p1), .val (.int p2), .val (.long q3), .second, .val (.long q4), .second, .val (.long q5), .second, .val (.long q6), .second, .val (.long z1), .second, .val (.long z2), .second, .val (.long z3), .second, .val (.ref b101), .val (.long (z1 * (1000 : Int64))), .second, .val (.int (1 : Int32))] [(.long z3), (.long z2), (.ref b101)])) rfl (by rw [hml]; rfl) (argsL := [(.long z2), (.long z3)]) (rest := []) rfl (lenOf pd_1 rfl) rfl (by show 2 * 0 + _ ≤ _; exact Nat.le_of_eq rfl) (hb hby at_103) ?_
      intro v110 T110 L110 hQ110 X110
      obtain ⟨rfl, NN110, e110⟩ := hQ110
      have N110 := Fr.app N103 NN110
      show own_Dn p e below s (fun v h L => v = some (.int 1) ∧ Fr n0 L) room_1.cells room_1.slots (T110.setTop (mkF m 106 #[.val (.int p1), .val (.int p2), .val (.long q3), .second, .val (.long q4), .second, .val (.long q5), .second, .val (.long q6), .second, .val (.long z1), .second, .val (.long z2), .second, .val (.long z3), .second, .val (.ref b101), .val (.long (z1 * (1000 : Int64))), .second, .val (.int (1 : Int32))] [(.int (own_wi z1 z2 z3))]))
      refine own_st (q' := T110.setTop (mkF m 108 #[.val (.int p1), .val (.int p2), .val (.long q3), .second, .val (.long q4), .second, .val (.long q5), .second, .val (.long q6), .second, .val (.long z1), .second, .val (.long z2), .second, .val (.long z3), .second, .val (.ref b101), .val (.long (z1 * (1000 : Int64))), .second, .val (.int (1 : Int32))] [(.int (1 : Int32)), (.int (own_wi z1 z2 z3))])) (fun _ k => XS.iload X110.here hx rfl (hb hby at_106) rfl k) ?_
      refine own_st (q' := T110.setTop (mkF m 111 #[.val (.int p1), .val (.int p2), .val (.long q3), .second, .val (.long q4), .second, .val (.long q5), .second, .val (.long q6), .second, .val (.long z1), .second, .val (.long z2), .second, .val (.long z3), .second, .val (.ref b101), .val (.long (z1 * (1000 : Int64))), .second, .val (.int (1 : Int32))] [])) (fun _ k => XS.icmpNo X110.here hx rfl (hb hby at_108) rfl (teq (by rw [own_plain _ _ _ b1.1 b1.2 b2 b3, if_neg hc55_105, if_pos hc66_109])).2 k) ?_
      refine own_st (q' := T110.setTop (mkF m 112 #[.val (.int p1), .val (.int p2), .val (.long q3), .second, .val (.long q4), .second, .val (.long q5), .second, .val (.long q6), .second, .val (.long z1), .second, .val (.long z2), .second, .val (.long z3), .second, .val (.ref b101), .val (.long (z1 * (1000 : Int64))), .second, .val (.int (1 : Int32))] [(.int (1 : Int32))])) (fun _ k => XS.iconst X110.here hx rfl (hb hby at_111) k) ?_
      refine own_st (q' := T110.setTop (mkF m 116 #[.val (.int p1), .val (.int p2), .val (.long q3), .second, .val (.long q4), .second, .val (.long q5), .second, .val (.long q6), .second, .val (.long z1), .second, .val (.long z2), .second, .val (.long z3), .second, .val (.ref b101), .val (.long (z1 * (1000 : Int64))), .second, .val (.int (1 : Int32))] [(.int (1 : Int32))])) (fun _ k => XS.goto X110.here hx rfl (pc0 := 112) (pc' := 116) rfl (hb hby at_112) (by decide) (by decide) k) ?_
      exact own_retN X110 hx hlk (t := .boolean) hret (by simp) (hb hby at_116) e110 (by exact ⟨rfl, N110⟩) (by decide) (by decide)
    · skip
      have hc66_109I : (0 : Int) ≤ ((lcmpW (z2 - z3) (z1 * (1000 : Int64)))).toInt := own_ltF hc66_109
      refine own_st (q' := T103.setTop (mkF m 73 #[.val (.int p1), .val (.int p2), .val (.long q3), .second, .val (.long q4), .second, .val (.long q5), .second, .val (.long q6), .second, .val (.long z1), .second, .val (.long z2), .second, .val (.long z3), .second, .val (.ref b101), .val (.long (z1 * (1000 : Int64))), .second, .unset] [])) (fun _ k => XS.ifYes X103.here hx rfl (pc0 := 66) (pc' := 73) rfl (hb hby at_66) rfl ((if0 _ _).trans (flt hc66_109).2.1) (by decide) (by decide) k) ?_
      refine own_st (q' := T103.setTop (mkF m 74 #[.val (.int p1), .val (.int p2), .val (.long q3), .second, .val (.long q4), .second, .val (.long q5), .second, .val (.long q6), .second, .val (.long z1), .second, .val (.long z2), .second, .val (.long z3), .second, .val (.ref b101), .val (.long (z1 * (1000 : Int64))), .second, .unset] [(.int (0 : Int32))])) (fun _ k => XS.iconst X103.here hx rfl (hb hby at_73) k) ?_
      refine own_st (q' := T103.setTop (mkF m 76 #[.val (.int p1), .val (.int p2), .val (.long q3), .second, .val (.long q4), .second, .val (.long q5), .second, .val (.long q6), .second, .val (.long z1), .second, .val (.long z2), .second, .val (.long z3), .second, .val (.ref b101), .val (.long (z1 * (1000 : Int64))), .second, .val (.int (0 : Int32))] [])) (fun _ k => XS.istore X103.here hx rfl (hb hby at_74) rfl (l' := #[.val (.int p1), .val (.int p2), .val (.long q3), .second, .val (.long q4), .second, .val (.long q5), .second, .val (.long q6), .second, .val (.long z1), .second, .val (.long z2), .second, .val (.long z3), .second, .val (.ref b101), .val (.long (z1 * (1000 : Int64))), .second, .val (.int (0 : Int32))]) rfl k) ?_
      refine own_st (q' := T103.setTop (mkF m 97 #[.val (.int p1), .val (.int p2), .val (.long q3), .second, .val (.long q4), .second, .val (.long q5), .second, .val (.long q6), .second, .val (.long z1), .second, .val (.long z2), .second, .val (.long z3), .second, .val (.ref b101), .val (.long (z1 * (1000 : Int64))), .second, .val (.int (0 : Int32))] [])) (fun _ k => XS.goto X103.here hx rfl (pc0 := 76) (pc' := 97) rfl (hb hby at_76) (by decide) (by decide) k) ?_
      refine own_st (q' := T103.setTop (mkF m 99 #[.val (.int p1), .val (.int p2), .val (.long q3), .second, .val (.long q4), .second, .val (.long q5), .second, .val (.long q6), .second, .val (.long z1), .second, .val (.long z2), .second, .val (.long z3), .second, .val (.ref b101), .val (.long (z1 * (1000 : Int64))), .second, .val (.int (0 : Int32))] [(.ref b101)])) (fun _ k => XS.aload X103.here hx rfl (hb hby at_97) rfl rfl k) ?_
      refine own_st (q' := T103.setTop (mkF m 101 #[.val (.int p1), .val (.int p2), .val (.long q3), .second, .val (.long q4), .second, .val (.long q5), .second, .val (.long q6), .second, .val (.long z1), .second, .val (.long z2), .second, .val (.long z3), .second, .val (.ref b101), .val (.long (z1 * (1000 : Int64))), .second, .val (.int (0 : Int32))] [(.long z2), (.ref b101)])) (fun _ k => XS.lload X103.here hx rfl (hb hby at_99) rfl k) ?_
      refine own_st (q' := T103.setTop (mkF m 103 #[.val (.int p1), .val (.int p2), .val (.long q3), .second, .val (.long q4), .second, .val (.long q5), .second, .val (.long q6), .second, .val (.long z1), .second, .val (.long z2), .second, .val (.long z3), .second, .val (.ref b101), .val (.long (z1 * (1000 : Int64))), .second, .val (.int (0 : Int32))] [(.long z3), (.long z2), (.ref b101)])) (fun _ k => XS.lload X103.here hx rfl (hb hby at_101) rfl k) ?_
      refine own_callV (y := (⟨"com/example/ashurbanipal/ashurbanipal/store/VersionRules", "isWithinOffset", "(JJ)Z"⟩ : MethodName)) X103 hx hZ hown (hw _ (List.mem_of_getElem? (i := 20) rfl)) (hw _ (List.mem_of_getElem? (i := 21) rfl)) (hw _ (List.mem_of_getElem? (i := 23) rfl)) (hw _ (List.mem_of_getElem? (i := 22) rfl)) (hw _ (List.mem_of_getElem? (i := 4) rfl)) (hw _ (List.mem_of_getElem? (i := 24) rfl)) (by decide) (rm3 l Z a0 hw [] b101 z2 z3 z1 T103.heap n0 (Nat.le_trans (Nat.le_trans Z0 E101.1) KK103.1) q103_1) (rfl : T103.heap = T103.heap) q103_0 (W := 0) (by decide) (by decide) (by decide) (by decide) (g := (mkF m 103 #[.val (.int p1), .val (.int p2), .val (.long q3), .second, .val (.long q4), .second, .val (.long q5), .second, .val (.long q6), .second, .val (.long z1), .second, .val (.long z2), .second, .val (.long z3), .second, .val (.ref b101), .val (.long (z1 * (1000 : Int64))), .second, .val (.int (0 : Int32))] [(.long z3), (.long z2), (.ref b101)])) rfl (by rw [hml]; rfl) (argsL := [(.long z2), (.long z3)]) (rest := []) rfl (lenOf pd_1 rfl) rfl (by show 2 * 0 + _ ≤ _; exact Nat.le_of_eq rfl) (hb hby at_103) ?_
      intro v111 T111 L111 hQ111 X111
      obtain ⟨rfl, NN111, e111⟩ := hQ111
      have N111 := Fr.app N103 NN111
      show own_Dn p e below s (fun v h L => v = some (.int 1) ∧ Fr n0 L) room_1.cells room_1.slots (T111.setTop (mkF m 106 #[.val (.int p1), .val (.int p2), .val (.long q3), .second, .val (.long q4), .second, .val (.long q5), .second, .val (.long q6), .second, .val (.long z1), .second, .val (.long z2), .second, .val (.long z3), .second, .val (.ref b101), .val (.long (z1 * (1000 : Int64))), .second, .val (.int (0 : Int32))] [(.int (own_wi z1 z2 z3))]))
      refine own_st (q' := T111.setTop (mkF m 108 #[.val (.int p1), .val (.int p2), .val (.long q3), .second, .val (.long q4), .second, .val (.long q5), .second, .val (.long q6), .second, .val (.long z1), .second, .val (.long z2), .second, .val (.long z3), .second, .val (.ref b101), .val (.long (z1 * (1000 : Int64))), .second, .val (.int (0 : Int32))] [(.int (0 : Int32)), (.int (own_wi z1 z2 z3))])) (fun _ k => XS.iload X111.here hx rfl (hb hby at_106) rfl k) ?_
      refine own_st (q' := T111.setTop (mkF m 111 #[.val (.int p1), .val (.int p2), .val (.long q3), .second, .val (.long q4), .second, .val (.long q5), .second, .val (.long q6), .second, .val (.long z1), .second, .val (.long z2), .second, .val (.long z3), .second, .val (.ref b101), .val (.long (z1 * (1000 : Int64))), .second, .val (.int (0 : Int32))] [])) (fun _ k => XS.icmpNo X111.here hx rfl (hb hby at_108) rfl (teq (by rw [own_plain _ _ _ b1.1 b1.2 b2 b3, if_neg hc55_105, if_neg hc66_109])).2 k) ?_
      refine own_st (q' := T111.setTop (mkF m 112 #[.val (.int p1), .val (.int p2), .val (.long q3), .second, .val (.long q4), .second, .val (.long q5), .second, .val (.long q6), .second, .val (.long z1), .second, .val (.long z2), .second, .val (.long z3), .second, .val (.ref b101), .val (.long (z1 * (1000 : Int64))), .second, .val (.int (0 : Int32))] [(.int (1 : Int32))])) (fun _ k => XS.iconst X111.here hx rfl (hb hby at_111) k) ?_
      refine own_st (q' := T111.setTop (mkF m 116 #[.val (.int p1), .val (.int p2), .val (.long q3), .second, .val (.long q4), .second, .val (.long q5), .second, .val (.long q6), .second, .val (.long z1), .second, .val (.long z2), .second, .val (.long z3), .second, .val (.ref b101), .val (.long (z1 * (1000 : Int64))), .second, .val (.int (0 : Int32))] [(.int (1 : Int32))])) (fun _ k => XS.goto X111.here hx rfl (pc0 := 112) (pc' := 116) rfl (hb hby at_112) (by decide) (by decide) k) ?_
      exact own_retN X111 hx hlk (t := .boolean) hret (by simp) (hb hby at_116) e111 (by exact ⟨rfl, N111⟩) (by decide) (by decide)
set_option maxRecDepth 65536 in
set_option maxHeartbeats 40000000 in
theorem comes_1 {Post : Tables → Env → Array Value → State → Outcome → State → Prop} (hpost : ∀ tb e args s v u, (limb_1_1.after args s (.returned v) u = true ∧ limb_1_2.after args s (.returned v) u = true ∧ True) → FrameEnd s (.returned v) u (Jvm.fieldLocs frame_1_writes args s ++ Jvm.arrayLocs frame_1_arrays args s ++ Jvm.staticLocs frame_1_statics s) 16 128 → Post tb e args s (.returned v) u) :
    ArmFor flags0 classFile x code maxLocals ret World_1 tables_1 room_1 Calls_1 rest_1 Pre_1 Post := by
  intro l hfl _ _ p e ha hc hk s m args below hf hA hF happ hP
  obtain ⟨hcalls, hrest, hpre⟩ := hP
  obtain ⟨-, -, -, hnamed, -, -, -, hat⟩ := (Spec.applies_iff hf).mp happ
  obtain ⟨hg, hn⟩ := and_e (Cond.before_iff.mp (show (Jvm.Cond.and given_1 narrow_1).before args s = true from hpre))
  obtain ⟨hcount, g0⟩ := and_e hg
  obtain ⟨hi0, g1⟩ := and_e g0
  obtain ⟨hi1, g2⟩ := and_e g1
  obtain ⟨hi2, g3⟩ := and_e g2
  obtain ⟨hi3, g4⟩ := and_e g3
  obtain ⟨hi4, g5⟩ := and_e g4
  have hi5 := g5
  obtain ⟨w0, w1, w2, w3, w4, w5, rfl⟩ : ∃ w0 w1 w2 w3 w4 w5 : Value, args = #[w0, w1, w2, w3, w4, w5] := by
    have hs : args.size = 6 := by simpa [Cond.value, given_1] using hcount
    obtain ⟨L⟩ := args
    match L, hs with
    | [w0, w1, w2, w3, w4, w5], _ => exact ⟨w0, w1, w2, w3, w4, w5, rfl⟩
  have hw := fun d (hd : d ∈ tables_1) => atoms_spec (ws := Jvm.Cond.code x code maxLocals ret :: tables_1) hat d (List.mem_cons_of_mem _ hd)
  have hfit : Fit s := fun {y c} hc i hi => by
    obtain ⟨ha, rfl⟩ := Array.getElem?_eq_some_iff.mp hc
    have q := List.all_eq_true.mp ((Array.all_eq_true_iff_forall_mem.mp hF) _ (Array.getElem_mem ha)) i (List.mem_range.mpr hi)
    simpa [Array.getElem?_eq_getElem hi] using q
  obtain ⟨i0, ei0⟩ := is_v hi0
  obtain rfl : w0 = (.int i0) := Option.some.inj ei0
  obtain ⟨i1, ei1⟩ := is_v hi1
  obtain rfl : w1 = (.int i1) := Option.some.inj ei1
  obtain ⟨i2, ei2⟩ := isL_v hi2
  obtain rfl : w2 = (.long i2) := Option.some.inj ei2
  obtain ⟨i3, ei3⟩ := isL_v hi3
  obtain rfl : w3 = (.long i3) := Option.some.inj ei3
  obtain ⟨i4, ei4⟩ := isL_v hi4
  obtain rfl : w4 = (.long i4) := Option.some.inj ei4
  obtain ⟨i5, ei5⟩ := isL_v hi5
  obtain rfl : w5 = (.long i5) := Option.some.inj ei5
  obtain ⟨n, o, h1, h2, h3, _, L, rfl, ⟨rfl, N⟩, hq⟩ := rm0 l s _ hw tables_1 i0 i1 i2 i3 i4 i5 s.heap s.heap.size (Nat.le_refl _) p e ha hc hk s m _ below hf ((Spec.applies_iff_loose hf).mp happ).1 ⟨rfl, State.Warmed39.refl s, rfl⟩ trivial
  refine ⟨n, _, h1, h2, h3, hpost _ _ _ _ _ _ ⟨Cond.after_iff.mpr rfl, Cond.after_iff.mpr (eq_i res_at (Term.int_eval (1)) rfl), trivial⟩ ⟨hq.1, hq.2.1, (hq.2.2.sift fun y hy => Or.inr (N y hy)).mono (by decide) (by decide)⟩⟩
theorem main_1_1 : Claimed_1_1 := comes_1 fun _ _ _ _ _ _ h hF => ⟨h.1, hF⟩
theorem main_1_2 : Claimed_1_2 := comes_1 fun _ _ _ _ _ _ h hF => ⟨h.2.1, hF⟩
end Jvm.Pilot.@@N@@
namespace Jvm.Pilot.@@N@@
open Jvm Jvm.ClassFile Sem Op Lib Jvm.Free Jvm.Stand Jvm.Pilot.@@N@@.Jvm.D
/-! MADE BY PROGRAM (witnessworld.py) out of the Statement's table words and the real class files: 9 classes; the members and pool entries that the words name. The judged class is class 1, her method 1. -/
namespace start1
open Jvm.ClassFile
def u (s : String) : CpInfo := .utf8 (stringToUtf16 s)
/-- a pool by its gaps: so many unusable entries, then the entry; so many at the end -/
def gap : Nat → List CpInfo → List CpInfo
  | 0, r => r
  | n + 1, r => .unusable :: gap n r
def poolList (es : List (Nat × CpInfo)) (last : Nat) : List CpInfo := es.foldr (fun e r => gap e.1 (e.2 :: r)) (gap last [])
def pool (es : List (Nat × CpInfo)) (last : Nat) : Array CpInfo := ⟨poolList es last⟩
def fileOf (pool : Array CpInfo) (this : Nat) (attrs : Array Attribute := #[]) (ms : Array MethodInfo := #[]) (fl : Nat := 33) (sup : Nat := 0) (ifs : Array Nat := #[]) (fds : Array FieldInfo := #[]) : ClassFile where
  minorVersion := 0
  majorVersion := 65
  constantPool := pool
  accessFlags := fl
  thisClass := this
  superClass := sup
  interfaces := ifs
  fields := fds
  methods := ms
  attributes := attrs
def plain (name : String) (sup : Option ClassId) : Class where
  name := name
  kind := .ordinary
  loader := none
  accessFlags := 33
  super := sup
  interfaces := #[]
  cf := none
  fields := #[]
  methods := #[]
  instanceTypes := #[]
  staticTypes := #[]
  resolved := #[]
  callSites := []
  init := .initialized
  statics := none
  mirror := none

def pool0 : Array CpInfo := pool [(5, u "<init>"), (0, u "()V"), (1, .class_ 10), (1, u "java/lang/Object")] 113

def k0c0 : Code := { maxStack := 0, maxLocals := 1, code := object_method_1_code, exceptionTable := #[], attributes := #[] }
def k0m0 : Method := { name := "<init>", desc := "()V", sig := { parameters := [], returnType := none }, accessFlags := 1, code := some k0c0 }
/-- java/lang/Object -/
def k0 : Class := { plain "java/lang/Object" none with
  accessFlags := 33
  interfaces := #[]
  cf := some (fileOf pool0 8 #[] #[{ accessFlags := 1, nameIndex := 5, descriptorIndex := 6, attributes := #[] }] 33 0 #[] #[])
  fields := #[]
  methods := #[k0m0]
  instanceTypes := #[]
  staticTypes := #[]
  resolved := Array.replicate 124 none
  statics := none }

def pool1 : Array CpInfo := pool [(2, .class_ 4), (1, u "java/lang/Object"), (0, u "<init>"), (0, u "()V"), (2, .long 9223372036854775807), (1, .class_ 12), (0, u "com/example/ashurbanipal/ashurbanipal/store/VersionRules"), (0, .long 9223372036854776), (1, .methodref 11 16), (0, .nameAndType 5 17), (0, u "(IIJJ)V"), (0, .long 1000), (1, .methodref 11 21), (0, .nameAndType 22 23), (0, u "isWithinOffset"), (0, u "(JJ)Z"), (0, .class_ 25), (0, u "com/example/ashurbanipal/ashurbanipal/store/VersionRulesIsWithinOffsetPinLaw"), (2, u "law"), (0, u "(IIJJJJ)Z")] 3

def k1m0 : Method := { name := "<init>", desc := "()V", sig := { parameters := [], returnType := none }, accessFlags := 1, code := none }
def k1c1 : Code := { maxStack := 8, maxLocals := 20, code := code, exceptionTable := #[], attributes := #[] }
def k1m1 : Method := { name := "law", desc := "(IIJJJJ)Z", sig := { parameters := [.int, .int, .long, .long, .long, .long], returnType := some .boolean }, accessFlags := 9, code := some k1c1 }
/-- com/example/ashurbanipal/ashurbanipal/store/VersionRulesIsWithinOffsetPinLaw -/
def k1 : Class := { plain "com/example/ashurbanipal/ashurbanipal/store/VersionRulesIsWithinOffsetPinLaw" (some 0) with
  accessFlags := 49
  interfaces := #[]
  cf := some (fileOf pool1 24 #[] #[{ accessFlags := 1, nameIndex := 5, descriptorIndex := 6, attributes := #[] }, { accessFlags := 9, nameIndex := 28, descriptorIndex := 29, attributes := #[] }] 49 2 #[] #[])
  fields := #[]
  methods := #[k1m0, k1m1]
  instanceTypes := #[]
  staticTypes := #[]
  resolved := Array.replicate 33 none
  statics := none }

def pool2 : Array CpInfo := pool [(3, .methodref 4 5), (0, .class_ 6), (0, .nameAndType 7 8), (0, u "java/lang/Object"), (0, u "<init>"), (0, u "()V"), (0, .fieldref 10 11), (0, .class_ 12), (0, .nameAndType 13 14), (0, u "com/example/ashurbanipal/ashurbanipal/store/VersionRules"), (0, u "timeToLive"), (0, u "I"), (0, .fieldref 10 16), (0, .nameAndType 17 14), (0, u "maxVersions"), (0, .fieldref 10 19), (0, .nameAndType 20 21), (0, u "maxVersionOffset"), (0, u "J"), (0, .fieldref 10 23), (0, .nameAndType 24 21), (0, u "visibilityChanged"), (2, u "(IIJJ)V"), (0, .long 1000), (37, u "(JJ)Z"), (46, u "NEVER_EXPIRE"), (2, u "MAX_VERSION_OFFSET_LIMIT"), (2, u "REMOVAL_DELAY_MILLIS"), (0, u "MILLIS_PER_SECOND"), (5, u "isWithinOffset")] 40

def k2c0 : Code := { maxStack := 3, maxLocals := 7, code := prog_28_method_1_code, exceptionTable := #[], attributes := #[] }
def k2m0 : Method := { name := "<init>", desc := "(IIJJ)V", sig := { parameters := [.int, .int, .long, .long], returnType := none }, accessFlags := 1, code := some k2c0 }
def k2c1 : Code := { maxStack := 4, maxLocals := 9, code := prog_28_method_7_code, exceptionTable := #[], attributes := #[] }
def k2m1 : Method := { name := "isWithinOffset", desc := "(JJ)Z", sig := { parameters := [.long, .long], returnType := some .boolean }, accessFlags := 1, code := some k2c1 }
/-- com/example/ashurbanipal/ashurbanipal/store/VersionRules -/
def k2 : Class := { plain "com/example/ashurbanipal/ashurbanipal/store/VersionRules" (some 0) with
  accessFlags := 33
  interfaces := #[]
  cf := some (fileOf pool2 10 #[] #[{ accessFlags := 1, nameIndex := 7, descriptorIndex := 27, attributes := #[] }, { accessFlags := 1, nameIndex := 126, descriptorIndex := 66, attributes := #[] }] 33 4 #[] #[{ accessFlags := 25, nameIndex := 113, descriptorIndex := 14, attributes := #[] }, { accessFlags := 25, nameIndex := 116, descriptorIndex := 21, attributes := #[] }, { accessFlags := 24, nameIndex := 119, descriptorIndex := 21, attributes := #[] }, { accessFlags := 26, nameIndex := 120, descriptorIndex := 21, attributes := #[] }, { accessFlags := 18, nameIndex := 13, descriptorIndex := 14, attributes := #[] }, { accessFlags := 18, nameIndex := 17, descriptorIndex := 14, attributes := #[] }, { accessFlags := 18, nameIndex := 20, descriptorIndex := 21, attributes := #[] }, { accessFlags := 18, nameIndex := 24, descriptorIndex := 21, attributes := #[] }])
  fields := #[{ name := "NEVER_EXPIRE", type := .int, accessFlags := 25, slot := 0, constantValue := 0 }, { name := "MAX_VERSION_OFFSET_LIMIT", type := .long, accessFlags := 25, slot := 1, constantValue := 0 }, { name := "REMOVAL_DELAY_MILLIS", type := .long, accessFlags := 24, slot := 2, constantValue := 0 }, { name := "MILLIS_PER_SECOND", type := .long, accessFlags := 26, slot := 3, constantValue := 0 }, { name := "timeToLive", type := .int, accessFlags := 18, slot := 0, constantValue := 0 }, { name := "maxVersions", type := .int, accessFlags := 18, slot := 1, constantValue := 0 }, { name := "maxVersionOffset", type := .long, accessFlags := 18, slot := 2, constantValue := 0 }, { name := "visibilityChanged", type := .long, accessFlags := 18, slot := 3, constantValue := 0 }]
  methods := #[k2m0, k2m1]
  instanceTypes := #[.int, .int, .long, .long]
  staticTypes := #[.int, .long, .long, .long]
  resolved := Array.replicate 167 none
  statics := none }

def pool3 : Array CpInfo := pool [(1, u "java/lang/Cloneable"), (0, .class_ 1), (0, u "java/lang/Object"), (0, .class_ 3)] 3

/-- java/lang/Cloneable -/
def k3 : Class := { plain "java/lang/Cloneable" (some 0) with
  accessFlags := 1537
  interfaces := #[]
  cf := some (fileOf pool3 2 #[] #[] 1537 4 #[] #[])
  fields := #[]
  methods := #[]
  instanceTypes := #[]
  staticTypes := #[]
  resolved := Array.replicate 8 none
  statics := none }

def pool4 : Array CpInfo := pool [(1, u "java/io/Serializable"), (0, .class_ 1), (0, u "java/lang/Object"), (0, .class_ 3)] 3

/-- java/io/Serializable -/
def k4 : Class := { plain "java/io/Serializable" (some 0) with
  accessFlags := 1537
  interfaces := #[]
  cf := some (fileOf pool4 2 #[] #[] 1537 4 #[] #[])
  fields := #[]
  methods := #[]
  instanceTypes := #[]
  staticTypes := #[]
  resolved := Array.replicate 8 none
  statics := none }

/-- the primitive byte -/
def k5 : Class := { plain "byte" none with kind := .primitive 'B', accessFlags := 0x411 }
/-- [B -/
def k6 : Class := { plain "[B" (some 0) with kind := .array 5 .byte, interfaces := #[3, 4], accessFlags := 1041 }

/-- the primitive int -/
def k7 : Class := { plain "int" none with kind := .primitive 'I', accessFlags := 0x411 }
/-- [I -/
def k8 : Class := { plain "[I" (some 0) with kind := .array 7 .int, interfaces := #[3, 4], accessFlags := 1041 }

def heap : Heap := #[]
def classes : Array Class := #[k0, k1, k2, k3, k4, k5, k6, k7, k8]
def interned : List (Array UInt16 × Addr) := []
def slotsUsed : Nat := 0
def theMethod : MethodId := ⟨1, 1⟩
def args0 : Array Value := #[.int 5, .int 7, .long 3, .long 2, .long 9, .long 5]
def aboutOver (below : List Frame) : State where
  vm := { classes := classes, interned := interned.toArray }
  heap := heap
  slotsUsed := slotsUsed
  threads := #[{ frames := .invoking theMethod args0 :: below }]
def below0 : List Frame := [.native { method := ⟨0, 0⟩, args := #[] }]
def about1 : State := aboutOver below0
def p0 : Program := .bare "" "" ""
def e0 : Env := launch0.env 0 0 0
theorem w_frames : about1.frames = Frame.invoking theMethod args0 :: below0 := rfl
set_option maxRecDepth 65536 in
theorem w_args : argsFit about1.vm theMethod args0 = true := by decide +kernel
set_option maxRecDepth 65536 in
theorem w_heap : heapFits about1 = true := by decide +kernel
set_option maxRecDepth 65536 in
theorem w_runnable : about1.curStatus? = some .runnable := by decide +kernel
set_option maxRecDepth 65536 in
theorem w_alone : about1.alone = true := by decide +kernel
set_option maxRecDepth 65536 in
theorem w_named : about1.methodNamed? x = some theMethod := by decide +kernel
set_option maxRecDepth 65536 in
theorem w_hears : about1.hears theMethod below0 = true := by decide +kernel
set_option maxRecDepth 65536 in
theorem w_ripe : about1.ripe theMethod args0 below0 = true := by decide +kernel
theorem w_running : about1.status = .running := rfl
set_option maxRecDepth 65536 in
theorem w_room : about1.hasRoom e0.platform room_1 = true :=
  launch0.hasRoom_least _ room_1 (by decide +kernel) (by decide +kernel) (by decide +kernel) (by decide +kernel) (by decide +kernel) (by decide +kernel)
theorem allAtoms_all (ts : List Jvm.Cond) (a : Array Jvm.Value) (st : Jvm.State) : (allAtoms ts).before a st = ts.all (fun c => c.before a st) := by
  induction ts with
  | nil => rfl
  | cons c t ih =>
    show (Jvm.Cond.and c (allAtoms t)).before a st = _
    rw [Jvm.Cond.before_and, ih, List.all_cons]
def words1 : List Jvm.Cond := Jvm.Cond.code x code maxLocals ret :: tables_1
/-- a 'code' word, met by the world's own term for the bytes: nothing is compared byte by byte -/
theorem code_word {y : MethodName} {bytes : ByteArray} {mx : Nat} {rt : Option FieldType} {a : Array Value} {s : State} {m : MethodId} {meth : Method} {c : Code} (h1 : s.methodNamed? y = some m) (h2 : s.vm.method? m = some meth) (h3 : meth.code = some c) (h4 : c.code = bytes)
    (h5 : (c.maxLocals == mx && c.exceptionTable.isEmpty && decide (c.maxStack ≤ mostOperands) && decide (meth.sig.returnType = rt) && !meth.locks && decide (parseMethodDescriptor y.desc = some meth.sig)) = true) : (Jvm.Cond.code y bytes mx rt).before a s = true := by
  simp only [Bool.and_eq_true, beq_iff_eq, Bool.not_eq_true', decide_eq_true_eq] at h5
  obtain ⟨⟨⟨⟨⟨g1, g2⟩, g3⟩, g4⟩, g5⟩, g6⟩ := h5
  simp [Cond.before, Cond.holds, Cond.value, h1, h2, h3, h4, g1, g2, g3, g4, g5, g6]
def isCode : Jvm.Cond → Bool
  | .code _ _ _ _ => true
  | _ => false
theorem all_split {L : List Jvm.Cond} {P : Jvm.Cond → Bool} (h1 : L.all (fun c => isCode c || P c) = true) (h2 : ∀ c ∈ L.filter isCode, P c = true) : L.all P = true := by
  refine List.all_eq_true.mpr fun c hc => ?_
  have h := List.all_eq_true.mp h1 c hc
  rcases Bool.eq_false_or_eq_true (isCode c) with hi | hi
  · exact h2 c (List.mem_filter.mpr ⟨hc, hi⟩)
  · simpa [hi] using h
set_option maxRecDepth 65536 in
theorem w_c0 : (Jvm.Cond.code x code maxLocals ret).before args0 about1 = true := code_word (m := ⟨1, 1⟩) (meth := k1m1) (c := k1c1) (by decide +kernel) rfl rfl rfl (by decide +kernel)
set_option maxRecDepth 65536 in
theorem w_c1 : (Jvm.Cond.code ({ cls := "com/example/ashurbanipal/ashurbanipal/store/VersionRules", name := "<init>", desc := "(IIJJ)V" } : Jvm.MethodName) prog_28_method_1_code (7 : Nat) (Option.none : Option Jvm.ClassFile.FieldType)).before args0 about1 = true := code_word (m := ⟨2, 0⟩) (meth := k2m0) (c := k2c0) (by decide +kernel) rfl rfl rfl (by decide +kernel)
set_option maxRecDepth 65536 in
theorem w_c2 : (Jvm.Cond.code ({ cls := "java/lang/Object", name := "<init>", desc := "()V" } : Jvm.MethodName) object_method_1_code (1 : Nat) (Option.none : Option Jvm.ClassFile.FieldType)).before args0 about1 = true := code_word (m := ⟨0, 0⟩) (meth := k0m0) (c := k0c0) (by decide +kernel) rfl rfl rfl (by decide +kernel)
set_option maxRecDepth 65536 in
theorem w_c3 : (Jvm.Cond.code ({ cls := "com/example/ashurbanipal/ashurbanipal/store/VersionRules", name := "isWithinOffset", desc := "(JJ)Z" } : Jvm.MethodName) prog_28_method_7_code (9 : Nat) (Option.some Jvm.ClassFile.FieldType.boolean)).before args0 about1 = true := code_word (m := ⟨2, 1⟩) (meth := k2m1) (c := k2c1) (by decide +kernel) rfl rfl rfl (by decide +kernel)
def codes1 : List Jvm.Cond := [Jvm.Cond.code x code maxLocals ret, Jvm.Cond.code ({ cls := "com/example/ashurbanipal/ashurbanipal/store/VersionRules", name := "<init>", desc := "(IIJJ)V" } : Jvm.MethodName) prog_28_method_1_code (7 : Nat) (Option.none : Option Jvm.ClassFile.FieldType), Jvm.Cond.code ({ cls := "java/lang/Object", name := "<init>", desc := "()V" } : Jvm.MethodName) object_method_1_code (1 : Nat) (Option.none : Option Jvm.ClassFile.FieldType), Jvm.Cond.code ({ cls := "com/example/ashurbanipal/ashurbanipal/store/VersionRules", name := "isWithinOffset", desc := "(JJ)Z" } : Jvm.MethodName) prog_28_method_7_code (9 : Nat) (Option.some Jvm.ClassFile.FieldType.boolean)]
set_option maxRecDepth 65536 in
theorem codes_eq : words1.filter isCode = codes1 := rfl
theorem w_codes : ∀ c ∈ words1.filter isCode, c.before args0 about1 = true := by
  rw [codes_eq]
  intro c hc
  simp only [codes1, List.mem_cons, List.not_mem_nil, or_false] at hc
  rcases hc with rfl | rfl | rfl | rfl
  · exact w_c0
  · exact w_c1
  · exact w_c2
  · exact w_c3
set_option maxRecDepth 65536 in
theorem w_t1 : (words1.take 24).all (fun c => isCode c || c.before args0 about1) = true := by decide +kernel
set_option maxRecDepth 65536 in
theorem w_t2 : (words1.drop 24).all (fun c => isCode c || c.before args0 about1) = true := by decide +kernel
theorem w_tables : (allAtoms (Jvm.Cond.code x code maxLocals ret :: tables_1)).before args0 about1 = true := by
  rw [allAtoms_all]
  show words1.all (fun c => c.before args0 about1) = true
  refine all_split ?_ w_codes
  rw [← List.take_append_drop 24 words1, List.all_append, w_t1, w_t2]
  rfl
set_option maxRecDepth 65536 in
theorem w_case : (Jvm.Cond.and given_1 narrow_1).before args0 about1 = true := by decide +kernel
theorem w_applies : (headSpec (Jvm.Cond.code x code maxLocals ret :: tables_1) room_1).applies x e0.platform about1 = true :=
  (Spec.applies_iff w_frames).mpr ⟨w_running, w_runnable, w_alone, w_named, w_hears, w_ripe, w_room, w_tables⟩
theorem atStart : AtStart classFile x code maxLocals ret World_1 tables_1 room_1 Calls_1 rest_1 Pre_1 launch0 p0 e0 about1 theMethod args0 below0 :=
  ⟨lists_1, trivial, launch0.admits_env _ _ _, launch0.least_env, fairChoices_fair.cas, fairChoices_fair.clock, w_frames, w_args, w_heap, w_applies, trivial, trivial, w_case⟩
end start1
theorem witness_1 : WitnessClaimed_1 := ⟨start1.p0, start1.e0, start1.about1, start1.theMethod, start1.args0, start1.below0, start1.atStart⟩
end Jvm.Pilot.@@N@@
