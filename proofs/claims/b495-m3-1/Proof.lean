import JvmDerived
import JvmDerived.Pilot.@@N@@Statement
import JvmDerived.Pilot.@@N@@Code
set_option linter.unusedVariables false
set_option linter.unusedSimpArgs false
namespace Jvm.RoadKit
open Sem ClassFile Op Lib Jvm.Stand Jvm.Free Jvm.LawKit
section New
variable {p : Program} {l : Launch} {e : Env} {R : Room} {s : State} {m : MethodId} {args : Array Value} {below : List Frame} {meth : Method} {c : Code} {T : State} {locs : List Loc} {cells slots : Nat}
theorem retI (X : Stand p l e R s m args below meth c T locs cells slots) (hx : p.tables.exec = Jvm.exec) {pc : Nat} {Ls : Array Slot} {z : Int32} {rest : List Value} (hret : meth.sig.returnType = some .int) (hd : decode c.code pc = .ok (.ireturn, 1)) {fs : List Frame}
    (hl : ∀ (f : JFrame) (acts : List Action), f.method = m → f.locked = none → f.entered = [] → (doReturn e (T.setTop f) acts (some (.int z))).1 = T.setFrames fs) : Steps p.tables e below (T.setTop (mkF m pc Ls (.int z :: rest))) (T.setFrames fs) := by
  have hm' : T.vm.method? m = some meth := X.method'
  have hn : narrow .int (.int z) = .int z := rfl
  show Steps p.tables e below (T.setTop { method := m, pc := pc, locals := Ls, stack := _ :: rest, locked := none }) _
  jvm_step X.here [X.here.top, hx, hd, hm', hret, hn]
  first | (intro acts; rw [hl _ acts rfl rfl rfl]) | rw [hl _ _ rfl rfl rfl]
  exact Steps.refl _
end New
end Jvm.RoadKit
namespace Jvm.Pilot.@@N@@
open Jvm Jvm.ClassFile Sem Op Lib Jvm.Free Jvm.Stand Jvm.LawKit Jvm.RoadKit Bundle Jvm.Pilot.@@N@@.Jvm.D
section Own
variable {p : Program} {l : Launch} {e : Env} {R : Room} {s : State} {m : MethodId} {args : Array Value} {below : List Frame} {meth : Method} {c : Code} {T : State} {locs : List Loc} {cells slots : Nat} {Q : Option Value → Heap → List Loc → Prop} {nc ns : Nat}
/-- from here the run comes to an end of which Q speaks -/
def own_Dn (p : Program) (e : Env) (below : List Frame) (s : State) (Q : Option Value → Heap → List Loc → Prop) (nc ns : Nat) (q : State) : Prop :=
  ∃ t o, Steps p.tables e below q t ∧ t.status = .running ∧ Ended t below o ∧ ∃ v L, o = .returned v ∧ Q v t.heap L ∧ FrameEnd s o t L nc ns
theorem own_st {q q' : State} (h : ∀ t, Steps p.tables e below q' t → Steps p.tables e below q t) (d : own_Dn p e below s Q nc ns q') : own_Dn p e below s Q nc ns q := by
  obtain ⟨t, o, h1, r⟩ := d
  exact ⟨t, o, h _ h1, r⟩
/-- a body's contract -/
def own_Met (l : Launch) (Z : State) (y : MethodName) (ws : List Jvm.Cond) (bytes : ByteArray) (maxL : Nat) (ret : Option FieldType) (rm : Room) (as : Array Value) (h0 : Heap) (Q : Option Value → Heap → List Loc → Prop) : Prop :=
  MetFree l y (head1 (Jvm.Cond.code y bytes maxL ret :: ws) rm) (fun a U => a = as ∧ Z.Warmed39 U.vm ∧ U.heap = h0) (fun _ _ _ _ _ => True) (fun _ U o U' => ∃ v L, o = .returned v ∧ Q v U'.heap L ∧ FrameEnd U o U' L rm.cells rm.slots)
theorem own_body {Z : State} {y : MethodName} {ws : List Jvm.Cond} {bytes : ByteArray} {maxL : Nat} {ret : Option FieldType} {rm : Room} {as : Array Value} {h0 : Heap} (hp : plainFor y = true)
    (body : ∀ p e s m below meth c s₁, p.tables.exec = Jvm.exec → c.code = bytes → c.maxLocals = maxL → s.vm.findClass y.cls = some m.cls → meth.name = y.name → meth.sig.returnType = ret → meth.locks = false → Z.Warmed39 s.vm → Stand p l e rm s m as below meth c s₁ [] 0 0 → s₁.heap = h0 → own_Dn p e below s Q rm.cells rm.slots (s₁.setTop (entryFrame m as maxL))) :
    own_Met l Z y ws bytes maxL ret rm as h0 Q := by
  refine MetFree.of_bodySF hp hisR ?_
  intro p e s m args below meth c s₁ Bd hml0 hP hK
  obtain ⟨rfl, hZ, hh⟩ := hP
  exact body p e s m below meth c s₁ Bd.exec Bd.bytes hml0 (findClass_of_methodNamed Bd.named) (name_of_methodNamed Bd.named Bd.method).1 Bd.returns Bd.notSynchronized hZ (Stand.of_body Bd) (by rw [← hh, Bd.state]; rfl)
theorem own_entry {m : MethodId} {as : Array Value} {maxL : Nat} {g : JFrame} (q : entryFrame m as maxL = g) (d : own_Dn p e below s Q nc ns (T.setTop g)) : own_Dn p e below s Q nc ns (T.setTop (entryFrame m as maxL)) := q ▸ d
theorem own_retI (X : Stand p l e R s m args below meth c T locs cells slots) (hx : p.tables.exec = Jvm.exec) (hlk : meth.locks = false) {pc : Nat} {Ls : Array Slot} {z : Int32} {rest : List Value} (hret : meth.sig.returnType = some .int) (hd : decode c.code pc = .ok (.ireturn, 1)) {h : Heap} (eT : T.heap = h) (hQ : Q (some (.int z)) h locs) (hc : cells ≤ nc) (hs : slots ≤ ns) :
    own_Dn p e below s Q nc ns (T.setTop (mkF m pc Ls (.int z :: rest))) := by
  obtain ⟨fs, hr, hrun, hended, hW, hsame⟩ := X.leave (v := some (.int z)) (fun h => by rw [hret] at h; cases h) hlk
  subst eT
  exact ⟨_, _, retI X hx hret hd hr, hrun, hended, _, _, rfl, hQ, ⟨_, rfl⟩, hW, hsame.mono hc hs⟩
theorem own_retN (X : Stand p l e R s m args below meth c T locs cells slots) (hx : p.tables.exec = Jvm.exec) (hlk : meth.locks = false) {t : FieldType} {pc : Nat} {Ls : Array Slot} {z : Int32} {rest : List Value} (hret : meth.sig.returnType = some t) (ht : t = .boolean ∨ t = .byte ∨ t = .char ∨ t = .short) (hd : decode c.code pc = .ok (.ireturn, 1)) {h : Heap} (eT : T.heap = h) (hQ : Q (some (.int (nar t z))) h locs) (hc : cells ≤ nc) (hs : slots ≤ ns) :
    own_Dn p e below s Q nc ns (T.setTop (mkF m pc Ls (.int z :: rest))) := by
  obtain ⟨fs, hr, hrun, hended, hW, hsame⟩ := X.leave (v := some (.int (nar t z))) (fun h => by rw [hret] at h; cases h) hlk
  subst eT
  exact ⟨_, _, retN X hx hret ht hd hr, hrun, hended, _, _, rfl, hQ, ⟨_, rfl⟩, hW, hsame.mono hc hs⟩
theorem own_retV (X : Stand p l e R s m args below meth c T locs cells slots) (hx : p.tables.exec = Jvm.exec) (hlk : meth.locks = false) {pc : Nat} {Ls : Array Slot} (hret : meth.sig.returnType = none) (hd : decode c.code pc = .ok (.return_, 1)) {h : Heap} (eT : T.heap = h) (hQ : Q none h locs) (hc : cells ≤ nc) (hs : slots ≤ ns) :
    own_Dn p e below s Q nc ns (T.setTop (mkF m pc Ls [])) := by
  obtain ⟨fs, hr, hrun, hended, hW, hsame⟩ := X.leave (v := none) (fun _ => rfl) hlk
  subst eT
  exact ⟨_, _, X.returnOut hx hret hd hr, hrun, hended, _, _, rfl, hQ, ⟨_, rfl⟩, hW, hsame.mono hc hs⟩
theorem own_retO (X : Stand p l e R s m args below meth c T locs cells slots) (hx : p.tables.exec = Jvm.exec) (hlk : meth.locks = false) {t : FieldType} {w : Value} {i : Instr} {pc : Nat} {Ls : Array Slot} {rest : List Value} (hret : meth.sig.returnType = some t) (hn : narrow t w = w)
    (hi : (i = .ireturn ∧ (t = .int ∨ t = .boolean ∨ t = .byte ∨ t = .char ∨ t = .short) ∧ ∃ z, w = .int z) ∨ (i = .lreturn ∧ t = .long ∧ ∃ z, w = .long z) ∨ (i = .dreturn ∧ t = .double ∧ ∃ z, w = .double z) ∨ (i = .freturn ∧ t = .float ∧ ∃ z, w = .float z) ∨ (i = .areturn ∧ t.isReference = true ∧ w.isRef = true))
    (hd : decode c.code pc = .ok (i, 1)) {h : Heap} (eT : T.heap = h) (hQ : Q (some w) h locs) (hc : cells ≤ nc) (hs : slots ≤ ns) : own_Dn p e below s Q nc ns (T.setTop (mkF m pc Ls (w :: rest))) := by
  obtain ⟨fs, hr, hrun, hended, hW, hsame⟩ := X.leave (v := some w) (fun h => by rw [hret] at h; cases h) hlk
  subst eT
  exact ⟨_, _, retOut X hx hret hn hi hd hr, hrun, hended, _, _, rfl, hQ, ⟨_, rfl⟩, hW, hsame.mono hc hs⟩
theorem own_mono {cells' slots' : Nat} (X : Stand p l e R s m args below meth c T locs cells slots) (h1 : cells ≤ cells') (h2 : slots ≤ slots') : Stand p l e R s m args below meth c T locs cells' slots' :=
  ⟨X.admits, X.cas, X.clock, X.frames, X.room, X.hears, X.method, X.code, X.here, X.tail, X.warmed, X.limits, X.bytes, X.same.mono h1 h2⟩
theorem own_callS {Z : State} {a0 : Array Value} {h : Heap} {own : String} {index : Nat} {y : MethodName} {bytes : ByteArray} {maxL : Nat} {ret : Option FieldType} {rm : Room} {as : Array Value} {Q' : Option Value → Heap → List Loc → Prop}
    (X : Stand p l e R s m args below meth c T locs cells slots) (hx : p.tables.exec = Jvm.exec) (hZ : Z.Warmed39 s.vm) (hown : s.vm.findClass own = some m.cls)
    (w1 : (Cond.methodLink own index y).before a0 Z = true) (w2 : (Cond.static y).before a0 Z = true) (w3 : (Cond.initialized y.cls).before a0 Z = true) (w4 : (Cond.code y bytes maxL ret).before a0 Z = true) (hy : y.cls ≠ "java/lang/invoke/MethodHandle" ∧ y.cls ≠ "java/lang/invoke/VarHandle")
    (M : own_Met l Z y [] bytes maxL ret rm as h Q') (eT : T.heap = h) {W : Nat} (hf : rm.frames + 1 ≤ R.frames) (hl : W + (maxL + 11) + rm.locals ≤ R.locals) (hc : cells + rm.cells ≤ R.cells) (hs : slots + rm.slots ≤ R.slots)
    {g : JFrame} (hg : g.method = m) (hsize : g.locals.size = c.maxLocals) {argsL rest : List Value} (has : argsL.toArray = as) (hlen : ∀ sig, parseMethodDescriptor y.desc = some sig → argsL.length = sig.parameters.length)
    (hstack : g.stack = argsL.reverse ++ rest) (hW : 2 * g.monitorRoom + (rest.map fun v => v.category).sum ≤ W) (hd : decode c.code g.pc = .ok (.invokestatic index, 3))
    (k : ∀ v T' L, Q' v T'.heap L → Stand p l e R s m args below meth c T' (locs ++ L) (cells + rm.cells) (slots + rm.slots) → own_Dn p e below s Q nc ns (T'.setTop { g with pc := g.pc + 3, stack := v.toList ++ rest })) :
    own_Dn p e below s Q nc ns (T.setTop g) := by
  obtain ⟨v, _, ⟨T', L', k', n'⟩, -, X', ⟨Lc, hQ, l1, y1, z1⟩, st⟩ := Jvm.LawKit.callS X hx hown (mvT hZ w1) (mvT hZ w2) (mvT hZ w3) (mvT hZ w4) hy (backOf (W := W) M hZ w4 w3 hf hl) hg hsize (argsL := argsL) (rest := rest) hlen hstack hW hd (fun _ _ => ⟨has, eT, hc, hs⟩)
  dsimp only [Pt.U, Pt.locs, Pt.cells, Pt.slots] at X' l1 y1 z1 st hQ
  subst l1 y1 z1
  exact own_st (fun t q => st t q) (k v T' Lc hQ X')
theorem own_callI {Z : State} {a0 : Array Value} {h : Heap} {own : String} {index : Nat} {y : MethodName} {bytes : ByteArray} {maxL : Nat} {rm : Room} {as : Array Value} {Q' : Option Value → Heap → List Loc → Prop}
    (X : Stand p l e R s m args below meth c T locs cells slots) (hx : p.tables.exec = Jvm.exec) (hZ : Z.Warmed39 s.vm) (hown : s.vm.findClass own = some m.cls) (hy1 : y.name = "<init>")
    (w1 : (Cond.methodLink own index y).before a0 Z = true) (w2 : (Cond.instanceMethod y).before a0 Z = true) (w3 : (Cond.initialized y.cls).before a0 Z = true) (w4 : (Cond.code y bytes maxL none).before a0 Z = true) (hy : y.cls ≠ "java/lang/invoke/MethodHandle" ∧ y.cls ≠ "java/lang/invoke/VarHandle")
    (M : own_Met l Z y [] bytes maxL none rm as h Q') (eT : T.heap = h) {W : Nat} (hf : rm.frames + 1 ≤ R.frames) (hl : W + (maxL + 11) + rm.locals ≤ R.locals) (hc : cells + rm.cells ≤ R.cells) (hs : slots + rm.slots ≤ R.slots)
    {g : JFrame} (hg : g.method = m) (hsize : g.locals.size = c.maxLocals) {a : Addr} {argsL rest : List Value} (has : (.ref a :: argsL).toArray = as) (hlen : ∀ sig, parseMethodDescriptor y.desc = some sig → argsL.length = sig.parameters.length)
    (hstack : g.stack = argsL.reverse ++ .ref a :: rest) (hW : 2 * g.monitorRoom + (rest.map fun v => v.category).sum ≤ W) (hd : decode c.code g.pc = .ok (.invokespecial index, 3))
    (k : ∀ v T' L, Q' v T'.heap L → Stand p l e R s m args below meth c T' (locs ++ L) (cells + rm.cells) (slots + rm.slots) → own_Dn p e below s Q nc ns (T'.setTop { g with pc := g.pc + 3, stack := v.toList ++ rest })) :
    own_Dn p e below s Q nc ns (T.setTop g) := by
  obtain ⟨v, _, ⟨T', L', k', n'⟩, -, X', ⟨Lc, hQ, l1, y1, z1⟩, st⟩ := X.specialBack hx hy1 hown (mvT hZ w1) (mvT hZ w2) (mvT hZ w4) hy (backOf (W := W) M hZ w4 w3 hf hl) hg hsize (Steps.refl _) (a := a) (argsL := argsL) (rest := rest) hlen hstack hW hd (fun _ _ => ⟨has, eT, hc, hs⟩)
  dsimp only [Pt.U, Pt.locs, Pt.cells, Pt.slots] at X' l1 y1 z1 st hQ
  subst l1 y1 z1
  exact own_st (fun t q => st.trans q) (k v T' Lc hQ X')
theorem own_callV {Z : State} {a0 : Array Value} {h : Heap} {own C : String} {index : Nat} {y : MethodName} {bytes : ByteArray} {maxL : Nat} {ret : Option FieldType} {rm : Room} {as : Array Value} {Q' : Option Value → Heap → List Loc → Prop}
    (X : Stand p l e R s m args below meth c T locs cells slots) (hx : p.tables.exec = Jvm.exec) (hZ : Z.Warmed39 s.vm) (hown : s.vm.findClass own = some m.cls)
    (w1 : (Cond.methodLink own index y).before a0 Z = true) (w2 : (Cond.declares y).before a0 Z = true) (w5 : (Cond.selects C y y).before a0 Z = true) (w6 : (Cond.instanceMethod y).before a0 Z = true) (w3 : (Cond.initialized y.cls).before a0 Z = true) (w4 : (Cond.code y bytes maxL ret).before a0 Z = true) (hy : y.cls ≠ "java/lang/invoke/MethodHandle" ∧ y.cls ≠ "java/lang/invoke/VarHandle")
    (M : own_Met l Z y [] bytes maxL ret rm as h Q') (eT : T.heap = h) {b : Addr} (E : Exa Z h b C) {W : Nat} (hf : rm.frames + 1 ≤ R.frames) (hl : W + (maxL + 11) + rm.locals ≤ R.locals) (hc : cells + rm.cells ≤ R.cells) (hs : slots + rm.slots ≤ R.slots)
    {g : JFrame} (hg : g.method = m) (hsize : g.locals.size = c.maxLocals) {argsL rest : List Value} (has : (.ref b :: argsL).toArray = as) (hlen : ∀ sig, parseMethodDescriptor y.desc = some sig → argsL.length = sig.parameters.length)
    (hstack : g.stack = argsL.reverse ++ .ref b :: rest) (hW : 2 * g.monitorRoom + (rest.map fun v => v.category).sum ≤ W) (hd : decode c.code g.pc = .ok (.invokevirtual index, 3))
    (k : ∀ v T' L, Q' v T'.heap L → Stand p l e R s m args below meth c T' (locs ++ L) (cells + rm.cells) (slots + rm.slots) → own_Dn p e below s Q nc ns (T'.setTop { g with pc := g.pc + 3, stack := v.toList ++ rest })) :
    own_Dn p e below s Q nc ns (T.setTop g) := by
  obtain ⟨cq, kq, qa, qb, qc⟩ := isOf hZ eT E
  obtain ⟨v, _, ⟨T', L', k', n'⟩, -, X', ⟨Lc, hQ, l1, y1, z1⟩, st⟩ := X.virtualBack hx hown (mvT hZ w1) (mvT hZ w2) (notFace_of_selects (args := #[]) (mvT hZ w5)) (mvT hZ w5) (mvT hZ w6) hy (backOf (W := W) M hZ w4 w3 hf hl) qa qc hg hsize (Steps.refl _) (argsL := argsL) (rest := rest) hlen hstack hW hd (fun _ _ => ⟨has, eT, hc, hs⟩)
  dsimp only [Pt.U, Pt.locs, Pt.cells, Pt.slots] at X' l1 y1 z1 st hQ
  subst l1 y1 z1
  exact own_st (fun t q => st.trans q) (k v T' Lc hQ X')
theorem own_callF {Z : State} {a0 : Array Value} {h : Heap} {own C : String} {index count : Nat} {xi y : MethodName} {bytes : ByteArray} {maxL : Nat} {ret : Option FieldType} {rm : Room} {as : Array Value} {Q' : Option Value → Heap → List Loc → Prop}
    (X : Stand p l e R s m args below meth c T locs cells slots) (hx : p.tables.exec = Jvm.exec) (hZ : Z.Warmed39 s.vm) (hown : s.vm.findClass own = some m.cls)
    (w1 : (Cond.methodLink own index xi).before a0 Z = true) (w2 : (Cond.declares xi).before a0 Z = true) (wf : (Cond.interfaceMethod xi.cls xi.cls xi.name xi.desc).before a0 Z = true) (w5 : (Cond.selects C xi y).before a0 Z = true) (w6 : (Cond.instanceMethod y).before a0 Z = true)
    (wp : (Cond.publicMethod y).before a0 Z = true) (wu : (Cond.unhidden C xi.name xi.desc).before a0 Z = true) (wk : (Cond.castable C xi.cls).before a0 Z = true) (w3 : (Cond.initialized y.cls).before a0 Z = true) (w4 : (Cond.code y bytes maxL ret).before a0 Z = true) (hy : xi.cls ≠ "java/lang/invoke/MethodHandle" ∧ xi.cls ≠ "java/lang/invoke/VarHandle")
    (M : own_Met l Z y [] bytes maxL ret rm as h Q') (eT : T.heap = h) {b : Addr} (E : Exa Z h b C) {W : Nat} (hf : rm.frames + 1 ≤ R.frames) (hl : W + (maxL + 11) + rm.locals ≤ R.locals) (hc : cells + rm.cells ≤ R.cells) (hs : slots + rm.slots ≤ R.slots)
    {g : JFrame} (hg : g.method = m) (hsize : g.locals.size = c.maxLocals) {argsL rest : List Value} (has : (.ref b :: argsL).toArray = as) (hlen : ∀ sig, parseMethodDescriptor xi.desc = some sig → argsL.length = sig.parameters.length)
    (hstack : g.stack = argsL.reverse ++ .ref b :: rest) (hW : 2 * g.monitorRoom + (rest.map fun v => v.category).sum ≤ W) (hd : decode c.code g.pc = .ok (.invokeinterface index count, 5))
    (k : ∀ v T' L, Q' v T'.heap L → Stand p l e R s m args below meth c T' (locs ++ L) (cells + rm.cells) (slots + rm.slots) → own_Dn p e below s Q nc ns (T'.setTop { g with pc := g.pc + 5, stack := v.toList ++ rest })) :
    own_Dn p e below s Q nc ns (T.setTop g) := by
  obtain ⟨cq, kq, qa, qb, qc⟩ := isOf hZ eT E
  have hfc : ((Cond.interfaceMethod xi.cls xi.cls xi.name xi.desc).onTables && (Cond.interfaceMethod xi.cls xi.cls xi.name xi.desc).keepsFace) = true := by simp [Cond.onTables, Cond.keepsFace, Cond.keeps, Cond.steady, Cond.faceAtom, hy.1, hy.2]
  obtain ⟨v, _, ⟨T', L', k', n'⟩, -, X', ⟨Lc, hQ, l1, y1, z1⟩, st⟩ := X.interfaceBack hx hown (mvT hZ w1) (mvT hZ w2) (mvT hZ wf hfc) (mvT hZ w5) (mvT hZ w6) (mvT hZ wp) (mvT hZ wu) (mvT hZ wk) hy (backOf (W := W) M hZ w4 w3 hf hl) qa qb qc hg hsize (Steps.refl _) (argsL := argsL) (rest := rest) hlen hstack hW hd (fun _ _ => ⟨has, eT, hc, hs⟩)
  dsimp only [Pt.U, Pt.locs, Pt.cells, Pt.slots] at X' l1 y1 z1 st hQ
  subst l1 y1 z1
  exact own_st (fun t q => st.trans q) (k v T' Lc hQ X')
theorem own_lrem {tb : Tables} [Ours tb] {e : Env} {below : List Frame} {T target : State} {m : MethodId} {c : Code} {g : JFrame} (h : At T m c below) (hx : tb.exec = Jvm.exec) (hg : g.method = m) {x y : Int64} {rest : List Value} (hd : decode c.code g.pc = .ok (.lrem, 1)) (hs : g.stack = .long y :: .long x :: rest) (hy : y ≠ 0)
    (hr : Steps tb e below (T.setTop { g with pc := g.pc + 1, stack := .long (x % y) :: rest }) target) : Steps tb e below (T.setTop g) target :=
  Jvm.Free.XT.lrem h hx hg hd hs hy (by rw [lrem_mod]; exact hr)
theorem own_ltT {x y : Int32} (h : x < y) : x.toInt < y.toInt := Int32.lt_iff_toInt_lt.mp h
theorem own_ltF {x y : Int32} (h : ¬ x < y) : y.toInt ≤ x.toInt := by rw [Int32.lt_iff_toInt_lt] at h; omega
theorem own_eqT {x y : Int32} (h : x = y) : x.toInt = y.toInt := congrArg _ h
theorem own_eqF {x y : Int32} (h : ¬ x = y) : ¬ x.toInt = y.toInt := fun q => h (Int32.toInt_inj.mp q)
theorem own_lt {x y : Int32} (h : x.toInt < y.toInt) : x < y := Int32.lt_iff_toInt_lt.mpr h
theorem own_nlt {x y : Int32} (h : y.toInt ≤ x.toInt) : ¬ x < y := by rw [Int32.lt_iff_toInt_lt]; omega
theorem own_eq {x y : Int32} (h : x.toInt = y.toInt) : x = y := Int32.toInt_inj.mp h
theorem own_ne {x y : Int32} (h : ¬ x.toInt = y.toInt) : ¬ x = y := fun q => h (congrArg _ q)
theorem own_cat1 {v : Value} (h : v.isRef = true) : v.category = 1 := by cases v <;> simp_all [Value.isRef, Value.category]
theorem own_dupX2 {tb : Tables} [Ours tb] {e : Env} {below : List Frame} {T target : State} {m : MethodId} {c : Code} {g : JFrame} (h : At T m c below) (hx : tb.exec = Jvm.exec) (hg : g.method = m) {x y z : Value} {rest : List Value} (hd : decode c.code g.pc = .ok (.dup_x2, 1)) (hs : g.stack = x :: y :: z :: rest) (hc : x.category = 1) (hc' : y.category = 1) (hc'' : z.category = 1)
    (hr : Steps tb e below (T.setTop { g with pc := g.pc + 1, stack := x :: y :: z :: x :: rest }) target) : Steps tb e below (T.setTop g) target := by
  subst hg
  jvm_step h [h.top, hx, hd, hs, hc, hc', hc'']
  exact hr
end Own
def own_var (a s b : Addr) : Int32 := if Value.ref a = Value.ref s then 1 else if Value.ref a = Value.ref b then 1 else 0
theorem pn_0 : plainName "com/example/ashurbanipal/ashurbanipal/row/ValueType" = true := by first | (simp [plainName, overriddenIn]; done) | decide +kernel
theorem ef_rm1 (m : MethodId) (x0 : Addr) : entryFrame m #[(.ref x0)] 1 = mkF m 0 #[.val (.ref x0)] [] := by first | (simp [entryFrame, mkF, argsToLocals, Value.category]; done) | rfl
theorem d_rm1_0 : decode prog_19_method_5_code 0 = .ok (.aload_n 0, 1) := by decide +kernel
theorem d_rm1_1 : decode prog_19_method_5_code 1 = .ok (.getstatic 13, 3) := by decide +kernel
theorem d_rm1_4 : decode prog_19_method_5_code 4 = .ok (.if_acmp .eq 10, 3) := by decide +kernel
theorem d_rm1_7 : decode prog_19_method_5_code 7 = .ok (.aload_n 0, 1) := by decide +kernel
theorem d_rm1_8 : decode prog_19_method_5_code 8 = .ok (.getstatic 19, 3) := by decide +kernel
theorem d_rm1_11 : decode prog_19_method_5_code 11 = .ok (.if_acmp .ne 7, 3) := by decide +kernel
theorem d_rm1_14 : decode prog_19_method_5_code 14 = .ok (.iconst 1, 1) := by decide +kernel
theorem d_rm1_15 : decode prog_19_method_5_code 15 = .ok (.goto 4, 3) := by decide +kernel
theorem d_rm1_18 : decode prog_19_method_5_code 18 = .ok (.iconst 0, 1) := by decide +kernel
theorem d_rm1_19 : decode prog_19_method_5_code 19 = .ok (.ireturn, 1) := by decide +kernel
set_option maxRecDepth 65536 in
set_option maxHeartbeats 40000000 in
theorem rm1 (l : Launch) (Z : State) (a0 : Array Value) (hw : ∀ d ∈ tables_1, d.before a0 Z = true) (ws : List Jvm.Cond) (a c3 c5 : Addr) (h0 : Heap) (n0 : Nat) (Z0 : n0 ≤ h0.size) (S3 : Sta Z h0 "com/example/ashurbanipal/ashurbanipal/row/ValueType" "STRING" "Lcom/example/ashurbanipal/ashurbanipal/row/ValueType;" (.ref c3)) (S5 : Sta Z h0 "com/example/ashurbanipal/ashurbanipal/row/ValueType" "BINARY" "Lcom/example/ashurbanipal/ashurbanipal/row/ValueType;" (.ref c5)) :
    own_Met l Z (⟨"com/example/ashurbanipal/ashurbanipal/row/ValueType", "isVariableLength", "()Z"⟩ : MethodName) ws prog_19_method_5_code 1 (some .boolean) ({ frames := 0, cells := 0, slots := 0, locals := 0 } : Room) #[(.ref a)] h0 (fun v h L => v = some (.int (own_var a c3 c5)) ∧ Fr n0 L ∧ h = h0) := by
  refine own_body (y := (⟨"com/example/ashurbanipal/ashurbanipal/row/ValueType", "isVariableLength", "()Z"⟩ : MethodName)) (plainFor_of_name pn_0) ?_
  intro p e s m below meth c s₁ hx hby hml hown hnm hret hlk hZ X0 e0
  have hml : c.maxLocals = 1 := hml
  have hown : s.vm.findClass "com/example/ashurbanipal/ashurbanipal/row/ValueType" = some m.cls := hown
  have N0 := Fr.nil n0
  refine own_entry (ef_rm1 m a) ?_
  show own_Dn p e below s (fun v h L => v = some (.int (own_var a c3 c5)) ∧ Fr n0 L ∧ h = h0) ({ frames := 0, cells := 0, slots := 0, locals := 0 } : Room).cells ({ frames := 0, cells := 0, slots := 0, locals := 0 } : Room).slots (s₁.setTop (mkF m 0 #[.val (.ref a)] []))
  refine own_st (q' := s₁.setTop (mkF m 1 #[.val (.ref a)] [(.ref a)])) (fun _ k => XS.aloadN X0.here hx rfl (hb hby d_rm1_0) rfl rfl k) ?_
  obtain ⟨T101, X101, e101, st101⟩ := getS2 X0 hx hZ hown (host := "") (Or.inl (hw _ (List.mem_of_getElem? (i := 28) rfl))) Via.refl e0 S3 (g := (mkF m 1 #[.val (.ref a)] [(.ref a)])) rfl (hb hby d_rm1_1)
  refine own_st (q' := T101.setTop (mkF m 4 #[.val (.ref a)] [(.ref c3), (.ref a)])) st101 ?_
  by_cases ha4_102 : (Value.ref a) = (Value.ref c3)
  · skip
    refine own_st (q' := T101.setTop (mkF m 14 #[.val (.ref a)] [])) (fun _ k => Jvm.RoadKit.acmp (g := (mkF m 4 #[.val (.ref a)] [(.ref c3), (.ref a)])) X101 hx rfl rfl rfl (pc0 := 4) (pc' := 14) (same := true) rfl (hb hby d_rm1_4) rfl (decide_eq_true (ha4_102)) (by decide) (by decide) k) ?_
    refine own_st (q' := T101.setTop (mkF m 15 #[.val (.ref a)] [(.int (1 : Int32))])) (fun _ k => XS.iconst X101.here hx rfl (hb hby d_rm1_14) k) ?_
    refine own_st (q' := T101.setTop (mkF m 19 #[.val (.ref a)] [(.int (1 : Int32))])) (fun _ k => XS.goto X101.here hx rfl (pc0 := 15) (pc' := 19) rfl (hb hby d_rm1_15) (by decide) (by decide) k) ?_
    exact own_retN X101 hx hlk (t := .boolean) hret (by simp) (hb hby d_rm1_19) e101 (by exact ⟨(by unfold own_var; rw [if_pos ha4_102]; rfl), N0, rfl⟩) (by decide) (by decide)
  · skip
    refine own_st (q' := T101.setTop (mkF m 7 #[.val (.ref a)] [])) (fun _ k => Jvm.RoadKit.acmp (g := (mkF m 4 #[.val (.ref a)] [(.ref c3), (.ref a)])) X101 hx rfl rfl rfl (pc0 := 4) (pc' := 7) (same := false) rfl (hb hby d_rm1_4) rfl (decide_eq_false (ha4_102)) (by decide) (by decide) k) ?_
    refine own_st (q' := T101.setTop (mkF m 8 #[.val (.ref a)] [(.ref a)])) (fun _ k => XS.aloadN X101.here hx rfl (hb hby d_rm1_7) rfl rfl k) ?_
    obtain ⟨T103, X103, e103, st103⟩ := getS2 X101 hx hZ hown (host := "") (Or.inl (hw _ (List.mem_of_getElem? (i := 29) rfl))) Via.refl e101 S5 (g := (mkF m 8 #[.val (.ref a)] [(.ref a)])) rfl (hb hby d_rm1_8)
    refine own_st (q' := T103.setTop (mkF m 11 #[.val (.ref a)] [(.ref c5), (.ref a)])) st103 ?_
    by_cases ha11_104 : (Value.ref a) = (Value.ref c5)
    · skip
      refine own_st (q' := T103.setTop (mkF m 14 #[.val (.ref a)] [])) (fun _ k => Jvm.RoadKit.acmp (g := (mkF m 11 #[.val (.ref a)] [(.ref c5), (.ref a)])) X103 hx rfl rfl rfl (pc0 := 11) (pc' := 14) (same := true) rfl (hb hby d_rm1_11) rfl (decide_eq_true (ha11_104)) (by decide) (by decide) k) ?_
      refine own_st (q' := T103.setTop (mkF m 15 #[.val (.ref a)] [(.int (1 : Int32))])) (fun _ k => XS.iconst X103.here hx rfl (hb hby d_rm1_14) k) ?_
      refine own_st (q' := T103.setTop (mkF m 19 #[.val (.ref a)] [(.int (1 : Int32))])) (fun _ k => XS.goto X103.here hx rfl (pc0 := 15) (pc' := 19) rfl (hb hby d_rm1_15) (by decide) (by decide) k) ?_
      exact own_retN X103 hx hlk (t := .boolean) hret (by simp) (hb hby d_rm1_19) e103 (by exact ⟨(by unfold own_var; rw [if_neg ha4_102, if_pos ha11_104]; rfl), N0, rfl⟩) (by decide) (by decide)
    · skip
      refine own_st (q' := T103.setTop (mkF m 18 #[.val (.ref a)] [])) (fun _ k => Jvm.RoadKit.acmp (g := (mkF m 11 #[.val (.ref a)] [(.ref c5), (.ref a)])) X103 hx rfl rfl rfl (pc0 := 11) (pc' := 18) (same := false) rfl (hb hby d_rm1_11) rfl (decide_eq_false (ha11_104)) (by decide) (by decide) k) ?_
      refine own_st (q' := T103.setTop (mkF m 19 #[.val (.ref a)] [(.int (0 : Int32))])) (fun _ k => XS.iconst X103.here hx rfl (hb hby d_rm1_18) k) ?_
      exact own_retN X103 hx hlk (t := .boolean) hret (by simp) (hb hby d_rm1_19) e103 (by exact ⟨(by unfold own_var; rw [if_neg ha4_102, if_neg ha11_104]; rfl), N0, rfl⟩) (by decide) (by decide)
section OwnRef
variable {p : Program} {l : Launch} {e : Env} {R : Room} {s : State} {m : MethodId} {args : Array Value} {below : List Frame} {meth : Method} {c : Code} {T : State} {locs : List Loc} {cells slots : Nat} {Q : Option Value → Heap → List Loc → Prop} {nc ns : Nat} {Z : State} {h h' : Heap} {a b : Addr} {vs : List Value} {sl : Nat} {v : Value} {C : String}
/-- an array of objects of class C at a; it holds vs -/
def own_RA (Z : State) (h : Heap) (a : Addr) (C : String) (vs : List Value) : Prop := ∃ cl : Cell, Arr Z h a cl (.object C) ∧ Ovr Z cl.cls C ∧ cl.slots.size = vs.length ∧ ∀ i, i < vs.length → cl.slots[i]? = some (vs.getD i .null)
theorem own_RA.lt (F : own_RA Z h a C vs) : a < h.size := by obtain ⟨_, A, -⟩ := F; exact A.lt
theorem own_RA.ext (F : own_RA Z h a C vs) (E : Ext h h') : own_RA Z h' a C vs := by obtain ⟨cl, A, r⟩ := F; exact ⟨cl, A.ext E, r⟩
theorem own_RA.other (F : own_RA Z h a C vs) (W : Wr h h' b sl v) (q : a ≠ b) : own_RA Z h' a C vs := by obtain ⟨cl, A, r⟩ := F; exact ⟨cl, A.other W q, r⟩
theorem own_RA.set {j : Nat} (F : own_RA Z h a C vs) (W : Wr h h' a j v) : own_RA Z h' a C (vs.set j v) := by
  obtain ⟨cl, A, O, S, H⟩ := F
  obtain ⟨cl', h1, h2, h3, h4, -, h6, h7⟩ := wr_at W A.1
  obtain ⟨e1, e2, -⟩ := h7 rfl
  refine ⟨cl.setSlot j v, A.same W, O, by rw [sz_set, S, List.length_set], fun i hi => ?_⟩
  rw [List.length_set] at hi
  rw [← e1]
  by_cases q : i = j
  · subst q
    rw [e2, List.getD_eq_getElem?_getD, List.getElem?_set_self hi]; rfl
  · rw [h6 i q, H i hi, List.getD_eq_getElem?_getD, List.getD_eq_getElem?_getD, List.getElem?_set_ne (Ne.symm q)]
theorem own_RA.new {k : ClassId} {n : Int32} (A : Arr Z h a (newA k (.object C) n) (.object C)) (O : Ovr Z k C) : own_RA Z h a C (List.replicate n.toNatClampNeg .null) :=
  ⟨_, A, O, by rw [sz_new, List.length_replicate], fun i hi => by rw [List.length_replicate] at hi; simp [newA, hi, defaultValue]⟩
theorem own_rinb {j : Int32} {cl : Cell} {n : Nat} (S : cl.slots.size = n) (h0 : 0 ≤ j.toInt) (h1 : j.toInt < n) : ¬ (j < 0 ∨ cl.slots.size ≤ j.toNatClampNeg) := by
  have e1 : (j.toNatClampNeg : Int) = j.toInt := by rw [Int32.toNatClampNeg]; exact Int.toNat_of_nonneg h0
  rintro (q | q)
  · have := own_ltT q
    have e0 : (0 : Int32).toInt = 0 := rfl
    omega
  · omega
theorem own_aastore (X : Stand p l e R s m args below meth c T locs cells slots) (hx : p.tables.exec = Jvm.exec) (hZ : Z.Warmed39 s.vm) (eT : T.heap = h) (F : own_RA Z h a C vs) {y : Addr} (I : Ins Z h y C true) {j : Int32} (h0 : 0 ≤ j.toInt) (h1 : j.toInt < vs.length)
    {g : JFrame} (hg : g.method = m) {rest : List Value} (hs : g.stack = .ref y :: .int j :: .ref a :: rest) (hd : decode c.code g.pc = .ok (.aastore, 1)) :
    ∃ T' h', Stand p l e R s m args below meth c T' (locs ++ [⟨a, j.toNatClampNeg⟩]) cells slots ∧ T'.heap = h' ∧ Wr h h' a j.toNatClampNeg (.ref y) ∧ own_RA Z h' a C (vs.set j.toNatClampNeg (.ref y)) ∧ ∀ target, Steps p.tables e below (T'.setTop { g with pc := g.pc + 1, stack := rest }) target → Steps p.tables e below (T.setTop g) target := by
  obtain ⟨cl, A, O, S, H⟩ := F
  obtain ⟨T', h', X', e', W', st'⟩ := stR X hx hZ eT A (own_rinb S h0 h1) rfl (Sto.of A O I) hg hs hd
  exact ⟨T', h', X', e', W', own_RA.set ⟨cl, A, O, S, H⟩ W', st'⟩
theorem own_aaload (X : Stand p l e R s m args below meth c T locs cells slots) (hx : p.tables.exec = Jvm.exec) (hZ : Z.Warmed39 s.vm) (eT : T.heap = h) (F : own_RA Z h a C vs) {j : Int32} {w : Value} (h0 : 0 ≤ j.toInt) (h1 : j.toInt < vs.length) (hw : vs.getD j.toNatClampNeg .null = w)
    {g : JFrame} (hg : g.method = m) {rest : List Value} (hs : g.stack = .int j :: .ref a :: rest) (hd : decode c.code g.pc = .ok (.aaload, 1)) (k : own_Dn p e below s Q nc ns (T.setTop { g with pc := g.pc + 1, stack := w :: rest })) : own_Dn p e below s Q nc ns (T.setTop g) := by
  obtain ⟨cl, A, O, S, H⟩ := F
  have e1 : (j.toNatClampNeg : Int) = j.toInt := by rw [Int32.toNatClampNeg]; exact Int.toNat_of_nonneg h0
  subst hw
  exact own_st (fun t q => X.aaload hx (by rw [eT]; exact A.1) (State.isArrayOf_alike hZ.alike A.2.1) rfl A.2.2 (own_rinb S h0 h1) (H _ (by omega)) hg hs hd t q) k
theorem own_ord {t : Term} {k : Int32} (ev : t.eval args s none [] s = some (.ref a)) (hv : (Jvm.Cond.eq (Term.field t "java/lang/Enum" "ordinal" "I") (Term.int k)).value args s none s [] = some true) : Fld s s.heap a "java/lang/Enum" "ordinal" "I" (.int k) := by
  obtain ⟨x, y, e1, e2, k1, k2⟩ := cmp_v (Or.inl hv)
  have e3 : (Term.int k).eval args s none [] s = some (.int k) := Term.int_eval k
  cases e3.symm.trans e2
  obtain ⟨z, rfl⟩ := k2
  have q := gotT (Cond.eq_ints e1 e3) hv
  subst q
  rw [fld_at ev] at e1
  exact Fld.start e1
theorem own_nine {z : Int32} (h0 : 0 ≤ z.toInt) (h1 : z.toInt ≤ 8) : z = 0 ∨ z = 1 ∨ z = 2 ∨ z = 3 ∨ z = 4 ∨ z = 5 ∨ z = 6 ∨ z = 7 ∨ z = 8 := by
  have : z.toInt = 0 ∨ z.toInt = 1 ∨ z.toInt = 2 ∨ z.toInt = 3 ∨ z.toInt = 4 ∨ z.toInt = 5 ∨ z.toInt = 6 ∨ z.toInt = 7 ∨ z.toInt = 8 := by omega
  rcases this with q | q | q | q | q | q | q | q | q
  · exact Or.inl (own_eq q)
  · exact Or.inr (Or.inl (own_eq q))
  · exact Or.inr (Or.inr (Or.inl (own_eq q)))
  · exact Or.inr (Or.inr (Or.inr (Or.inl (own_eq q))))
  · exact Or.inr (Or.inr (Or.inr (Or.inr (Or.inl (own_eq q)))))
  · exact Or.inr (Or.inr (Or.inr (Or.inr (Or.inr (Or.inl (own_eq q))))))
  · exact Or.inr (Or.inr (Or.inr (Or.inr (Or.inr (Or.inr (Or.inl (own_eq q)))))))
  · exact Or.inr (Or.inr (Or.inr (Or.inr (Or.inr (Or.inr (Or.inr (Or.inl (own_eq q))))))))
  · exact Or.inr (Or.inr (Or.inr (Or.inr (Or.inr (Or.inr (Or.inr (Or.inr (own_eq q))))))))
end OwnRef
theorem pn_1 : plainName "com/example/ashurbanipal/ashurbanipal/row/ValueTypeIsVariableLengthPinLaw" = true := by first | (simp [plainName, overriddenIn]; done) | decide +kernel
theorem ef_rm0 (m : MethodId) (x0 : Int32) : entryFrame m #[(.int x0)] maxLocals = mkF m 0 #[.val (.int x0), .unset, .unset, .unset, .unset] [] := by first | (simp [entryFrame, mkF, argsToLocals, Value.category, maxLocals]; done) | rfl
theorem pd_0 : parseMethodDescriptor "()Z" = some ⟨[], some .boolean⟩ := by decide +kernel
set_option maxRecDepth 65536 in
set_option maxHeartbeats 40000000 in
theorem rm0 (l : Launch) (Z : State) (a0 : Array Value) (hw : ∀ d ∈ tables_1, d.before a0 Z = true) (ws : List Jvm.Cond) (x0 : Int32) (c0 c1 c2 c3 c4 c5 c6 c7 c8 : Addr) (h0 : Heap) (n0 : Nat) (Z0 : n0 ≤ h0.size) (S0 : Sta Z h0 "com/example/ashurbanipal/ashurbanipal/row/ValueType" "INTEGER" "Lcom/example/ashurbanipal/ashurbanipal/row/ValueType;" (.ref c0)) (S1 : Sta Z h0 "com/example/ashurbanipal/ashurbanipal/row/ValueType" "DOUBLE" "Lcom/example/ashurbanipal/ashurbanipal/row/ValueType;" (.ref c1)) (S2 : Sta Z h0 "com/example/ashurbanipal/ashurbanipal/row/ValueType" "BOOLEAN" "Lcom/example/ashurbanipal/ashurbanipal/row/ValueType;" (.ref c2)) (S3 : Sta Z h0 "com/example/ashurbanipal/ashurbanipal/row/ValueType" "STRING" "Lcom/example/ashurbanipal/ashurbanipal/row/ValueType;" (.ref c3)) (S4 : Sta Z h0 "com/example/ashurbanipal/ashurbanipal/row/ValueType" "NULL" "Lcom/example/ashurbanipal/ashurbanipal/row/ValueType;" (.ref c4)) (S5 : Sta Z h0 "com/example/ashurbanipal/ashurbanipal/row/ValueType" "BINARY" "Lcom/example/ashurbanipal/ashurbanipal/row/ValueType;" (.ref c5)) (S6 : Sta Z h0 "com/example/ashurbanipal/ashurbanipal/row/ValueType" "INF_MIN" "Lcom/example/ashurbanipal/ashurbanipal/row/ValueType;" (.ref c6)) (S7 : Sta Z h0 "com/example/ashurbanipal/ashurbanipal/row/ValueType" "INF_MAX" "Lcom/example/ashurbanipal/ashurbanipal/row/ValueType;" (.ref c7)) (S8 : Sta Z h0 "com/example/ashurbanipal/ashurbanipal/row/ValueType" "AUTO_INCREMENT" "Lcom/example/ashurbanipal/ashurbanipal/row/ValueType;" (.ref c8)) (E0 : Exa Z h0 c0 "com/example/ashurbanipal/ashurbanipal/row/ValueType") (E1 : Exa Z h0 c1 "com/example/ashurbanipal/ashurbanipal/row/ValueType") (E2 : Exa Z h0 c2 "com/example/ashurbanipal/ashurbanipal/row/ValueType") (E3 : Exa Z h0 c3 "com/example/ashurbanipal/ashurbanipal/row/ValueType") (E4 : Exa Z h0 c4 "com/example/ashurbanipal/ashurbanipal/row/ValueType") (E5 : Exa Z h0 c5 "com/example/ashurbanipal/ashurbanipal/row/ValueType") (E6 : Exa Z h0 c6 "com/example/ashurbanipal/ashurbanipal/row/ValueType") (E7 : Exa Z h0 c7 "com/example/ashurbanipal/ashurbanipal/row/ValueType") (E8 : Exa Z h0 c8 "com/example/ashurbanipal/ashurbanipal/row/ValueType") (ne03 : c0 ≠ c3) (ne05 : c0 ≠ c5) (ne13 : c1 ≠ c3) (ne15 : c1 ≠ c5) (ne23 : c2 ≠ c3) (ne25 : c2 ≠ c5) (ne35 : c3 ≠ c5) (ne43 : c4 ≠ c3) (ne45 : c4 ≠ c5) (ne53 : c5 ≠ c3) (ne63 : c6 ≠ c3) (ne65 : c6 ≠ c5) (ne73 : c7 ≠ c3) (ne75 : c7 ≠ c5) (ne83 : c8 ≠ c3) (ne85 : c8 ≠ c5) :
    own_Met l Z x ws code maxLocals ret room_1 #[(.int x0)] h0 (fun v h L => v = some (.int 1) ∧ Fr n0 L) := by
  refine own_body (y := x) (plainFor_of_name pn_1) ?_
  intro p e s m below meth c s₁ hx hby hml hown hnm hret hlk hZ X0 e0
  have hml : c.maxLocals = 5 := hml
  have hown : s.vm.findClass "com/example/ashurbanipal/ashurbanipal/row/ValueTypeIsVariableLengthPinLaw" = some m.cls := hown
  have N0 := Fr.nil n0
  refine own_entry (ef_rm0 m x0) ?_
  show own_Dn p e below s (fun v h L => v = some (.int 1) ∧ Fr n0 L) room_1.cells room_1.slots (s₁.setTop (mkF m 0 #[.val (.int x0), .unset, .unset, .unset, .unset] []))
  refine own_st (q' := s₁.setTop (mkF m 2 #[.val (.int x0), .unset, .unset, .unset, .unset] [(.int (9 : Int32))])) (fun _ k => XS.bipush X0.here hx rfl (hb hby at_0) k) ?_
  obtain ⟨T101, h101, k101, X101, e101, E101, A101, O101, st101⟩ := newR X0 hx hZ hown (hw _ (List.mem_of_getElem? (i := 0) rfl)) (hw _ (List.mem_of_getElem? (i := 1) rfl)) e0 (g := (mkF m 2 #[.val (.int x0), .unset, .unset, .unset, .unset] [(.int (9 : Int32))])) rfl (hb hby at_2) rfl (by decide) (cap := 9) (by decide) (by decide) (by decide) (by decide)
  obtain ⟨b101, g101⟩ : ∃ z, z = h0.size := ⟨_, rfl⟩
  rw [← g101] at A101 st101
  have ne_c0_b101 : c0 ≠ b101 := Nat.ne_of_lt (Nat.lt_of_lt_of_le E0.lt (Nat.le_of_eq g101.symm))
  have ne_c1_b101 : c1 ≠ b101 := Nat.ne_of_lt (Nat.lt_of_lt_of_le E1.lt (Nat.le_of_eq g101.symm))
  have ne_c2_b101 : c2 ≠ b101 := Nat.ne_of_lt (Nat.lt_of_lt_of_le E2.lt (Nat.le_of_eq g101.symm))
  have ne_c3_b101 : c3 ≠ b101 := Nat.ne_of_lt (Nat.lt_of_lt_of_le E3.lt (Nat.le_of_eq g101.symm))
  have ne_c4_b101 : c4 ≠ b101 := Nat.ne_of_lt (Nat.lt_of_lt_of_le E4.lt (Nat.le_of_eq g101.symm))
  have ne_c5_b101 : c5 ≠ b101 := Nat.ne_of_lt (Nat.lt_of_lt_of_le E5.lt (Nat.le_of_eq g101.symm))
  have ne_c6_b101 : c6 ≠ b101 := Nat.ne_of_lt (Nat.lt_of_lt_of_le E6.lt (Nat.le_of_eq g101.symm))
  have ne_c7_b101 : c7 ≠ b101 := Nat.ne_of_lt (Nat.lt_of_lt_of_le E7.lt (Nat.le_of_eq g101.symm))
  have ne_c8_b101 : c8 ≠ b101 := Nat.ne_of_lt (Nat.lt_of_lt_of_le E8.lt (Nat.le_of_eq g101.symm))
  have ge_b101 : n0 ≤ b101 := Nat.le_trans Z0 (Nat.le_of_eq g101.symm)
  have V101 : own_RA Z h101 b101 "com/example/ashurbanipal/ashurbanipal/row/ValueType" [.null, .null, .null, .null, .null, .null, .null, .null, .null] := own_RA.new A101 O101
  refine own_st (q' := T101.setTop (mkF m 5 #[.val (.int x0), .unset, .unset, .unset, .unset] [(.ref b101)])) st101 ?_
  refine own_st (q' := T101.setTop (mkF m 6 #[.val (.int x0), .unset, .unset, .unset, .unset] [(.ref b101), (.ref b101)])) (fun _ k => XS.dup X101.here hx rfl (hb hby at_5) rfl rfl k) ?_
  refine own_st (q' := T101.setTop (mkF m 7 #[.val (.int x0), .unset, .unset, .unset, .unset] [(.int (0 : Int32)), (.ref b101), (.ref b101)])) (fun _ k => XS.iconst X101.here hx rfl (hb hby at_6) k) ?_
  have f102 := (S0.ext E101)
  obtain ⟨T103, X103, e103, st103⟩ := getS2 X101 hx hZ hown (host := "") (Or.inl (hw _ (List.mem_of_getElem? (i := 2) rfl))) Via.refl e101 f102 (g := (mkF m 7 #[.val (.int x0), .unset, .unset, .unset, .unset] [(.int (0 : Int32)), (.ref b101), (.ref b101)])) rfl (hb hby at_7)
  refine own_st (q' := T103.setTop (mkF m 10 #[.val (.int x0), .unset, .unset, .unset, .unset] [(.ref c0), (.int (0 : Int32)), (.ref b101), (.ref b101)])) st103 ?_
  have f105 := (E0.ext E101)
  obtain ⟨T104, h104, X104, e104, W104, V104, st104⟩ := own_aastore X103 hx hZ e103 V101 (Ins.self f105) (by decide) (by show ((0 : Int32)).toInt < ((9 : Nat) : Int); decide) (g := (mkF m 10 #[.val (.int x0), .unset, .unset, .unset, .unset] [(.ref c0), (.int (0 : Int32)), (.ref b101), (.ref b101)])) rfl rfl (hb hby at_10)
  have N104 := Fr.snoc X104 N0 ge_b101
  have U104 : own_RA Z h104 b101 "com/example/ashurbanipal/ashurbanipal/row/ValueType" [(.ref c0), .null, .null, .null, .null, .null, .null, .null, .null] := V104
  refine own_st (q' := T104.setTop (mkF m 11 #[.val (.int x0), .unset, .unset, .unset, .unset] [(.ref b101)])) st104 ?_
  refine own_st (q' := T104.setTop (mkF m 12 #[.val (.int x0), .unset, .unset, .unset, .unset] [(.ref b101), (.ref b101)])) (fun _ k => XS.dup X104.here hx rfl (hb hby at_11) rfl rfl k) ?_
  refine own_st (q' := T104.setTop (mkF m 13 #[.val (.int x0), .unset, .unset, .unset, .unset] [(.int (1 : Int32)), (.ref b101), (.ref b101)])) (fun _ k => XS.iconst X104.here hx rfl (hb hby at_12) k) ?_
  have f106 := ((S1.ext E101).wr W104)
  obtain ⟨T107, X107, e107, st107⟩ := getS2 X104 hx hZ hown (host := "") (Or.inl (hw _ (List.mem_of_getElem? (i := 6) rfl))) Via.refl e104 f106 (g := (mkF m 13 #[.val (.int x0), .unset, .unset, .unset, .unset] [(.int (1 : Int32)), (.ref b101), (.ref b101)])) rfl (hb hby at_13)
  refine own_st (q' := T107.setTop (mkF m 16 #[.val (.int x0), .unset, .unset, .unset, .unset] [(.ref c1), (.int (1 : Int32)), (.ref b101), (.ref b101)])) st107 ?_
  have f109 := ((E1.ext E101).wr W104)
  obtain ⟨T108, h108, X108, e108, W108, V108, st108⟩ := own_aastore X107 hx hZ e107 U104 (Ins.self f109) (by decide) (by show ((1 : Int32)).toInt < ((9 : Nat) : Int); decide) (g := (mkF m 16 #[.val (.int x0), .unset, .unset, .unset, .unset] [(.ref c1), (.int (1 : Int32)), (.ref b101), (.ref b101)])) rfl rfl (hb hby at_16)
  have N108 := Fr.snoc X108 N104 ge_b101
  have U108 : own_RA Z h108 b101 "com/example/ashurbanipal/ashurbanipal/row/ValueType" [(.ref c0), (.ref c1), .null, .null, .null, .null, .null, .null, .null] := V108
  refine own_st (q' := T108.setTop (mkF m 17 #[.val (.int x0), .unset, .unset, .unset, .unset] [(.ref b101)])) st108 ?_
  refine own_st (q' := T108.setTop (mkF m 18 #[.val (.int x0), .unset, .unset, .unset, .unset] [(.ref b101), (.ref b101)])) (fun _ k => XS.dup X108.here hx rfl (hb hby at_17) rfl rfl k) ?_
  refine own_st (q' := T108.setTop (mkF m 19 #[.val (.int x0), .unset, .unset, .unset, .unset] [(.int (2 : Int32)), (.ref b101), (.ref b101)])) (fun _ k => XS.iconst X108.here hx rfl (hb hby at_18) k) ?_
  have f110 := (((S2.ext E101).wr W104).wr W108)
  obtain ⟨T111, X111, e111, st111⟩ := getS2 X108 hx hZ hown (host := "") (Or.inl (hw _ (List.mem_of_getElem? (i := 8) rfl))) Via.refl e108 f110 (g := (mkF m 19 #[.val (.int x0), .unset, .unset, .unset, .unset] [(.int (2 : Int32)), (.ref b101), (.ref b101)])) rfl (hb hby at_19)
  refine own_st (q' := T111.setTop (mkF m 22 #[.val (.int x0), .unset, .unset, .unset, .unset] [(.ref c2), (.int (2 : Int32)), (.ref b101), (.ref b101)])) st111 ?_
  have f113 := (((E2.ext E101).wr W104).wr W108)
  obtain ⟨T112, h112, X112, e112, W112, V112, st112⟩ := own_aastore X111 hx hZ e111 U108 (Ins.self f113) (by decide) (by show ((2 : Int32)).toInt < ((9 : Nat) : Int); decide) (g := (mkF m 22 #[.val (.int x0), .unset, .unset, .unset, .unset] [(.ref c2), (.int (2 : Int32)), (.ref b101), (.ref b101)])) rfl rfl (hb hby at_22)
  have N112 := Fr.snoc X112 N108 ge_b101
  have U112 : own_RA Z h112 b101 "com/example/ashurbanipal/ashurbanipal/row/ValueType" [(.ref c0), (.ref c1), (.ref c2), .null, .null, .null, .null, .null, .null] := V112
  refine own_st (q' := T112.setTop (mkF m 23 #[.val (.int x0), .unset, .unset, .unset, .unset] [(.ref b101)])) st112 ?_
  refine own_st (q' := T112.setTop (mkF m 24 #[.val (.int x0), .unset, .unset, .unset, .unset] [(.ref b101), (.ref b101)])) (fun _ k => XS.dup X112.here hx rfl (hb hby at_23) rfl rfl k) ?_
  refine own_st (q' := T112.setTop (mkF m 25 #[.val (.int x0), .unset, .unset, .unset, .unset] [(.int (3 : Int32)), (.ref b101), (.ref b101)])) (fun _ k => XS.iconst X112.here hx rfl (hb hby at_24) k) ?_
  have f114 := ((((S3.ext E101).wr W104).wr W108).wr W112)
  obtain ⟨T115, X115, e115, st115⟩ := getS2 X112 hx hZ hown (host := "") (Or.inl (hw _ (List.mem_of_getElem? (i := 10) rfl))) Via.refl e112 f114 (g := (mkF m 25 #[.val (.int x0), .unset, .unset, .unset, .unset] [(.int (3 : Int32)), (.ref b101), (.ref b101)])) rfl (hb hby at_25)
  refine own_st (q' := T115.setTop (mkF m 28 #[.val (.int x0), .unset, .unset, .unset, .unset] [(.ref c3), (.int (3 : Int32)), (.ref b101), (.ref b101)])) st115 ?_
  have f117 := ((((E3.ext E101).wr W104).wr W108).wr W112)
  obtain ⟨T116, h116, X116, e116, W116, V116, st116⟩ := own_aastore X115 hx hZ e115 U112 (Ins.self f117) (by decide) (by show ((3 : Int32)).toInt < ((9 : Nat) : Int); decide) (g := (mkF m 28 #[.val (.int x0), .unset, .unset, .unset, .unset] [(.ref c3), (.int (3 : Int32)), (.ref b101), (.ref b101)])) rfl rfl (hb hby at_28)
  have N116 := Fr.snoc X116 N112 ge_b101
  have U116 : own_RA Z h116 b101 "com/example/ashurbanipal/ashurbanipal/row/ValueType" [(.ref c0), (.ref c1), (.ref c2), (.ref c3), .null, .null, .null, .null, .null] := V116
  refine own_st (q' := T116.setTop (mkF m 29 #[.val (.int x0), .unset, .unset, .unset, .unset] [(.ref b101)])) st116 ?_
  refine own_st (q' := T116.setTop (mkF m 30 #[.val (.int x0), .unset, .unset, .unset, .unset] [(.ref b101), (.ref b101)])) (fun _ k => XS.dup X116.here hx rfl (hb hby at_29) rfl rfl k) ?_
  refine own_st (q' := T116.setTop (mkF m 31 #[.val (.int x0), .unset, .unset, .unset, .unset] [(.int (4 : Int32)), (.ref b101), (.ref b101)])) (fun _ k => XS.iconst X116.here hx rfl (hb hby at_30) k) ?_
  have f118 := (((((S4.ext E101).wr W104).wr W108).wr W112).wr W116)
  obtain ⟨T119, X119, e119, st119⟩ := getS2 X116 hx hZ hown (host := "") (Or.inl (hw _ (List.mem_of_getElem? (i := 12) rfl))) Via.refl e116 f118 (g := (mkF m 31 #[.val (.int x0), .unset, .unset, .unset, .unset] [(.int (4 : Int32)), (.ref b101), (.ref b101)])) rfl (hb hby at_31)
  refine own_st (q' := T119.setTop (mkF m 34 #[.val (.int x0), .unset, .unset, .unset, .unset] [(.ref c4), (.int (4 : Int32)), (.ref b101), (.ref b101)])) st119 ?_
  have f121 := (((((E4.ext E101).wr W104).wr W108).wr W112).wr W116)
  obtain ⟨T120, h120, X120, e120, W120, V120, st120⟩ := own_aastore X119 hx hZ e119 U116 (Ins.self f121) (by decide) (by show ((4 : Int32)).toInt < ((9 : Nat) : Int); decide) (g := (mkF m 34 #[.val (.int x0), .unset, .unset, .unset, .unset] [(.ref c4), (.int (4 : Int32)), (.ref b101), (.ref b101)])) rfl rfl (hb hby at_34)
  have N120 := Fr.snoc X120 N116 ge_b101
  have U120 : own_RA Z h120 b101 "com/example/ashurbanipal/ashurbanipal/row/ValueType" [(.ref c0), (.ref c1), (.ref c2), (.ref c3), (.ref c4), .null, .null, .null, .null] := V120
  refine own_st (q' := T120.setTop (mkF m 35 #[.val (.int x0), .unset, .unset, .unset, .unset] [(.ref b101)])) st120 ?_
  refine own_st (q' := T120.setTop (mkF m 36 #[.val (.int x0), .unset, .unset, .unset, .unset] [(.ref b101), (.ref b101)])) (fun _ k => XS.dup X120.here hx rfl (hb hby at_35) rfl rfl k) ?_
  refine own_st (q' := T120.setTop (mkF m 37 #[.val (.int x0), .unset, .unset, .unset, .unset] [(.int (5 : Int32)), (.ref b101), (.ref b101)])) (fun _ k => XS.iconst X120.here hx rfl (hb hby at_36) k) ?_
  have f122 := ((((((S5.ext E101).wr W104).wr W108).wr W112).wr W116).wr W120)
  obtain ⟨T123, X123, e123, st123⟩ := getS2 X120 hx hZ hown (host := "") (Or.inl (hw _ (List.mem_of_getElem? (i := 14) rfl))) Via.refl e120 f122 (g := (mkF m 37 #[.val (.int x0), .unset, .unset, .unset, .unset] [(.int (5 : Int32)), (.ref b101), (.ref b101)])) rfl (hb hby at_37)
  refine own_st (q' := T123.setTop (mkF m 40 #[.val (.int x0), .unset, .unset, .unset, .unset] [(.ref c5), (.int (5 : Int32)), (.ref b101), (.ref b101)])) st123 ?_
  have f125 := ((((((E5.ext E101).wr W104).wr W108).wr W112).wr W116).wr W120)
  obtain ⟨T124, h124, X124, e124, W124, V124, st124⟩ := own_aastore X123 hx hZ e123 U120 (Ins.self f125) (by decide) (by show ((5 : Int32)).toInt < ((9 : Nat) : Int); decide) (g := (mkF m 40 #[.val (.int x0), .unset, .unset, .unset, .unset] [(.ref c5), (.int (5 : Int32)), (.ref b101), (.ref b101)])) rfl rfl (hb hby at_40)
  have N124 := Fr.snoc X124 N120 ge_b101
  have U124 : own_RA Z h124 b101 "com/example/ashurbanipal/ashurbanipal/row/ValueType" [(.ref c0), (.ref c1), (.ref c2), (.ref c3), (.ref c4), (.ref c5), .null, .null, .null] := V124
  refine own_st (q' := T124.setTop (mkF m 41 #[.val (.int x0), .unset, .unset, .unset, .unset] [(.ref b101)])) st124 ?_
  refine own_st (q' := T124.setTop (mkF m 42 #[.val (.int x0), .unset, .unset, .unset, .unset] [(.ref b101), (.ref b101)])) (fun _ k => XS.dup X124.here hx rfl (hb hby at_41) rfl rfl k) ?_
  refine own_st (q' := T124.setTop (mkF m 44 #[.val (.int x0), .unset, .unset, .unset, .unset] [(.int (6 : Int32)), (.ref b101), (.ref b101)])) (fun _ k => XS.bipush X124.here hx rfl (hb hby at_42) k) ?_
  have f126 := (((((((S6.ext E101).wr W104).wr W108).wr W112).wr W116).wr W120).wr W124)
  obtain ⟨T127, X127, e127, st127⟩ := getS2 X124 hx hZ hown (host := "") (Or.inl (hw _ (List.mem_of_getElem? (i := 16) rfl))) Via.refl e124 f126 (g := (mkF m 44 #[.val (.int x0), .unset, .unset, .unset, .unset] [(.int (6 : Int32)), (.ref b101), (.ref b101)])) rfl (hb hby at_44)
  refine own_st (q' := T127.setTop (mkF m 47 #[.val (.int x0), .unset, .unset, .unset, .unset] [(.ref c6), (.int (6 : Int32)), (.ref b101), (.ref b101)])) st127 ?_
  have f129 := (((((((E6.ext E101).wr W104).wr W108).wr W112).wr W116).wr W120).wr W124)
  obtain ⟨T128, h128, X128, e128, W128, V128, st128⟩ := own_aastore X127 hx hZ e127 U124 (Ins.self f129) (by decide) (by show ((6 : Int32)).toInt < ((9 : Nat) : Int); decide) (g := (mkF m 47 #[.val (.int x0), .unset, .unset, .unset, .unset] [(.ref c6), (.int (6 : Int32)), (.ref b101), (.ref b101)])) rfl rfl (hb hby at_47)
  have N128 := Fr.snoc X128 N124 ge_b101
  have U128 : own_RA Z h128 b101 "com/example/ashurbanipal/ashurbanipal/row/ValueType" [(.ref c0), (.ref c1), (.ref c2), (.ref c3), (.ref c4), (.ref c5), (.ref c6), .null, .null] := V128
  refine own_st (q' := T128.setTop (mkF m 48 #[.val (.int x0), .unset, .unset, .unset, .unset] [(.ref b101)])) st128 ?_
  refine own_st (q' := T128.setTop (mkF m 49 #[.val (.int x0), .unset, .unset, .unset, .unset] [(.ref b101), (.ref b101)])) (fun _ k => XS.dup X128.here hx rfl (hb hby at_48) rfl rfl k) ?_
  refine own_st (q' := T128.setTop (mkF m 51 #[.val (.int x0), .unset, .unset, .unset, .unset] [(.int (7 : Int32)), (.ref b101), (.ref b101)])) (fun _ k => XS.bipush X128.here hx rfl (hb hby at_49) k) ?_
  have f130 := ((((((((S7.ext E101).wr W104).wr W108).wr W112).wr W116).wr W120).wr W124).wr W128)
  obtain ⟨T131, X131, e131, st131⟩ := getS2 X128 hx hZ hown (host := "") (Or.inl (hw _ (List.mem_of_getElem? (i := 18) rfl))) Via.refl e128 f130 (g := (mkF m 51 #[.val (.int x0), .unset, .unset, .unset, .unset] [(.int (7 : Int32)), (.ref b101), (.ref b101)])) rfl (hb hby at_51)
  refine own_st (q' := T131.setTop (mkF m 54 #[.val (.int x0), .unset, .unset, .unset, .unset] [(.ref c7), (.int (7 : Int32)), (.ref b101), (.ref b101)])) st131 ?_
  have f133 := ((((((((E7.ext E101).wr W104).wr W108).wr W112).wr W116).wr W120).wr W124).wr W128)
  obtain ⟨T132, h132, X132, e132, W132, V132, st132⟩ := own_aastore X131 hx hZ e131 U128 (Ins.self f133) (by decide) (by show ((7 : Int32)).toInt < ((9 : Nat) : Int); decide) (g := (mkF m 54 #[.val (.int x0), .unset, .unset, .unset, .unset] [(.ref c7), (.int (7 : Int32)), (.ref b101), (.ref b101)])) rfl rfl (hb hby at_54)
  have N132 := Fr.snoc X132 N128 ge_b101
  have U132 : own_RA Z h132 b101 "com/example/ashurbanipal/ashurbanipal/row/ValueType" [(.ref c0), (.ref c1), (.ref c2), (.ref c3), (.ref c4), (.ref c5), (.ref c6), (.ref c7), .null] := V132
  refine own_st (q' := T132.setTop (mkF m 55 #[.val (.int x0), .unset, .unset, .unset, .unset] [(.ref b101)])) st132 ?_
  refine own_st (q' := T132.setTop (mkF m 56 #[.val (.int x0), .unset, .unset, .unset, .unset] [(.ref b101), (.ref b101)])) (fun _ k => XS.dup X132.here hx rfl (hb hby at_55) rfl rfl k) ?_
  refine own_st (q' := T132.setTop (mkF m 58 #[.val (.int x0), .unset, .unset, .unset, .unset] [(.int (8 : Int32)), (.ref b101), (.ref b101)])) (fun _ k => XS.bipush X132.here hx rfl (hb hby at_56) k) ?_
  have f134 := (((((((((S8.ext E101).wr W104).wr W108).wr W112).wr W116).wr W120).wr W124).wr W128).wr W132)
  obtain ⟨T135, X135, e135, st135⟩ := getS2 X132 hx hZ hown (host := "") (Or.inl (hw _ (List.mem_of_getElem? (i := 20) rfl))) Via.refl e132 f134 (g := (mkF m 58 #[.val (.int x0), .unset, .unset, .unset, .unset] [(.int (8 : Int32)), (.ref b101), (.ref b101)])) rfl (hb hby at_58)
  refine own_st (q' := T135.setTop (mkF m 61 #[.val (.int x0), .unset, .unset, .unset, .unset] [(.ref c8), (.int (8 : Int32)), (.ref b101), (.ref b101)])) st135 ?_
  have f137 := (((((((((E8.ext E101).wr W104).wr W108).wr W112).wr W116).wr W120).wr W124).wr W128).wr W132)
  obtain ⟨T136, h136, X136, e136, W136, V136, st136⟩ := own_aastore X135 hx hZ e135 U132 (Ins.self f137) (by decide) (by show ((8 : Int32)).toInt < ((9 : Nat) : Int); decide) (g := (mkF m 61 #[.val (.int x0), .unset, .unset, .unset, .unset] [(.ref c8), (.int (8 : Int32)), (.ref b101), (.ref b101)])) rfl rfl (hb hby at_61)
  have N136 := Fr.snoc X136 N132 ge_b101
  have U136 : own_RA Z h136 b101 "com/example/ashurbanipal/ashurbanipal/row/ValueType" [(.ref c0), (.ref c1), (.ref c2), (.ref c3), (.ref c4), (.ref c5), (.ref c6), (.ref c7), (.ref c8)] := V136
  refine own_st (q' := T136.setTop (mkF m 62 #[.val (.int x0), .unset, .unset, .unset, .unset] [(.ref b101)])) st136 ?_
  refine own_st (q' := T136.setTop (mkF m 63 #[.val (.int x0), .val (.ref b101), .unset, .unset, .unset] [])) (fun _ k => XS.astoreN X136.here hx rfl (hb hby at_62) rfl rfl (l' := #[.val (.int x0), .val (.ref b101), .unset, .unset, .unset]) rfl k) ?_
  refine own_st (q' := T136.setTop (mkF m 64 #[.val (.int x0), .val (.ref b101), .unset, .unset, .unset] [(.int x0)])) (fun _ k => XS.iloadN X136.here hx rfl (hb hby at_63) rfl k) ?_
  refine own_st (q' := T136.setTop (mkF m 66 #[.val (.int x0), .val (.ref b101), .unset, .unset, .unset] [(.int (2147483647 : Int32)), (.int x0)])) (fun _ k => X136.ldcInt hx hown (mvT hZ (hw _ (List.mem_of_getElem? (i := 22) rfl))) (g := (mkF m 64 #[.val (.int x0), .val (.ref b101), .unset, .unset, .unset] [(.int x0)])) rfl (hb hby at_64) _ k) ?_
  refine own_st (q' := T136.setTop (mkF m 67 #[.val (.int x0), .val (.ref b101), .unset, .unset, .unset] [(.int (x0 &&& (2147483647 : Int32)))])) (fun _ k => XS.iand X136.here hx rfl (hb hby at_66) rfl k) ?_
  refine own_st (q' := T136.setTop (mkF m 69 #[.val (.int x0), .val (.ref b101), .unset, .unset, .unset] [(.int (9 : Int32)), (.int (x0 &&& (2147483647 : Int32)))])) (fun _ k => XS.bipush X136.here hx rfl (hb hby at_67) k) ?_
  refine own_st (q' := T136.setTop (mkF m 70 #[.val (.int x0), .val (.ref b101), .unset, .unset, .unset] [(.int ((x0 &&& (2147483647 : Int32)) % (9 : Int32)))])) (fun _ k => iremM X136 hx rfl (hb hby at_69) rfl (by decide) k) ?_
  refine own_st (q' := T136.setTop (mkF m 71 #[.val (.int x0), .val (.ref b101), .val (.int ((x0 &&& (2147483647 : Int32)) % (9 : Int32))), .unset, .unset] [])) (fun _ k => XS.istoreN X136.here hx rfl (hb hby at_70) rfl (l' := #[.val (.int x0), .val (.ref b101), .val (.int ((x0 &&& (2147483647 : Int32)) % (9 : Int32))), .unset, .unset]) rfl k) ?_
  generalize hz2 : ((x0 &&& (2147483647 : Int32)) % (9 : Int32)) = z2
  have b2 : 0 ≤ z2.toInt ∧ z2.toInt ≤ 8 := by
    have l9 : (9 : Int32).toInt = 9 := rfl
    have q := c_mask x0 2147483647 31 (by decide) (by decide)
    rw [← hz2, Int32.toInt_mod, l9, Int.tmod_eq_emod_of_nonneg (by omega)]
    omega
  have f138 := (((((((((f105.wr W104).wr W108).wr W112).wr W116).wr W120).wr W124).wr W128).wr W132).wr W136)
  have f139 := ((((((((f109.wr W108).wr W112).wr W116).wr W120).wr W124).wr W128).wr W132).wr W136)
  have f140 := (((((((f113.wr W112).wr W116).wr W120).wr W124).wr W128).wr W132).wr W136)
  have f141 := ((((((f117.wr W116).wr W120).wr W124).wr W128).wr W132).wr W136)
  have f142 := (((((f121.wr W120).wr W124).wr W128).wr W132).wr W136)
  have f143 := ((((f125.wr W124).wr W128).wr W132).wr W136)
  have f144 := (((f129.wr W128).wr W132).wr W136)
  have f145 := ((f133.wr W132).wr W136)
  have f146 := (f137.wr W136)
  have f147 := ((((((f114.wr W116).wr W120).wr W124).wr W128).wr W132).wr W136)
  have f148 := ((((f122.wr W124).wr W128).wr W132).wr W136)
  clear hz2
  rcases own_nine b2.1 b2.2 with rfl | rfl | rfl | rfl | rfl | rfl | rfl | rfl | rfl
  · skip
    show own_Dn p e below s (fun v h L => v = some (.int 1) ∧ Fr n0 L) room_1.cells room_1.slots (T136.setTop (mkF m 71 #[.val (.int x0), .val (.ref b101), .val (.int (0 : Int32)), .unset, .unset] []))
    refine own_st (q' := T136.setTop (mkF m 72 #[.val (.int x0), .val (.ref b101), .val (.int (0 : Int32)), .unset, .unset] [(.ref b101)])) (fun _ k => XS.aloadN X136.here hx rfl (hb hby at_71) rfl rfl k) ?_
    refine own_st (q' := T136.setTop (mkF m 73 #[.val (.int x0), .val (.ref b101), .val (.int (0 : Int32)), .unset, .unset] [(.int (0 : Int32)), (.ref b101)])) (fun _ k => XS.iloadN X136.here hx rfl (hb hby at_72) rfl k) ?_
    refine own_aaload X136 hx hZ e136 U136 (w := (.ref c0)) (by decide) (by show ((0 : Int32)).toInt < ((9 : Nat) : Int); decide) rfl (g := (mkF m 73 #[.val (.int x0), .val (.ref b101), .val (.int (0 : Int32)), .unset, .unset] [(.int (0 : Int32)), (.ref b101)])) rfl rfl (hb hby at_73) ?_
    show own_Dn p e below s (fun v h L => v = some (.int 1) ∧ Fr n0 L) room_1.cells room_1.slots (T136.setTop (mkF m 74 #[.val (.int x0), .val (.ref b101), .val (.int (0 : Int32)), .unset, .unset] [(.ref c0)]))
    refine own_st (q' := T136.setTop (mkF m 75 #[.val (.int x0), .val (.ref b101), .val (.int (0 : Int32)), .val (.ref c0), .unset] [])) (fun _ k => XS.astoreN X136.here hx rfl (hb hby at_74) rfl rfl (l' := #[.val (.int x0), .val (.ref b101), .val (.int (0 : Int32)), .val (.ref c0), .unset]) rfl k) ?_
    refine own_st (q' := T136.setTop (mkF m 76 #[.val (.int x0), .val (.ref b101), .val (.int (0 : Int32)), .val (.ref c0), .unset] [(.int (0 : Int32))])) (fun _ k => XS.iloadN X136.here hx rfl (hb hby at_75) rfl k) ?_
    refine own_st (q' := T136.setTop (mkF m 77 #[.val (.int x0), .val (.ref b101), .val (.int (0 : Int32)), .val (.ref c0), .unset] [(.int (3 : Int32)), (.int (0 : Int32))])) (fun _ k => XS.iconst X136.here hx rfl (hb hby at_76) k) ?_
    refine own_st (q' := T136.setTop (mkF m 80 #[.val (.int x0), .val (.ref b101), .val (.int (0 : Int32)), .val (.ref c0), .unset] [])) (fun _ k => XS.icmpNo X136.here hx rfl (hb hby at_77) rfl (feq (by decide : ¬ ((0 : Int32) = (3 : Int32)))).1 k) ?_
    refine own_st (q' := T136.setTop (mkF m 81 #[.val (.int x0), .val (.ref b101), .val (.int (0 : Int32)), .val (.ref c0), .unset] [(.int (0 : Int32))])) (fun _ k => XS.iloadN X136.here hx rfl (hb hby at_80) rfl k) ?_
    refine own_st (q' := T136.setTop (mkF m 82 #[.val (.int x0), .val (.ref b101), .val (.int (0 : Int32)), .val (.ref c0), .unset] [(.int (5 : Int32)), (.int (0 : Int32))])) (fun _ k => XS.iconst X136.here hx rfl (hb hby at_81) k) ?_
    refine own_st (q' := T136.setTop (mkF m 89 #[.val (.int x0), .val (.ref b101), .val (.int (0 : Int32)), .val (.ref c0), .unset] [])) (fun _ k => XS.icmpYes X136.here hx rfl (pc0 := 82) (pc' := 89) rfl (hb hby at_82) rfl (feq (by decide : ¬ ((0 : Int32) = (5 : Int32)))).2 (by decide) (by decide) k) ?_
    refine own_st (q' := T136.setTop (mkF m 90 #[.val (.int x0), .val (.ref b101), .val (.int (0 : Int32)), .val (.ref c0), .unset] [(.int (0 : Int32))])) (fun _ k => XS.iconst X136.here hx rfl (hb hby at_89) k) ?_
    refine own_st (q' := T136.setTop (mkF m 92 #[.val (.int x0), .val (.ref b101), .val (.int (0 : Int32)), .val (.ref c0), .val (.int (0 : Int32))] [])) (fun _ k => XS.istore X136.here hx rfl (hb hby at_90) rfl (l' := #[.val (.int x0), .val (.ref b101), .val (.int (0 : Int32)), .val (.ref c0), .val (.int (0 : Int32))]) rfl k) ?_
    refine own_st (q' := T136.setTop (mkF m 93 #[.val (.int x0), .val (.ref b101), .val (.int (0 : Int32)), .val (.ref c0), .val (.int (0 : Int32))] [(.ref c0)])) (fun _ k => XS.aloadN X136.here hx rfl (hb hby at_92) rfl rfl k) ?_
    refine own_callV (y := (⟨"com/example/ashurbanipal/ashurbanipal/row/ValueType", "isVariableLength", "()Z"⟩ : MethodName)) X136 hx hZ hown (hw _ (List.mem_of_getElem? (i := 23) rfl)) (hw _ (List.mem_of_getElem? (i := 24) rfl)) (hw _ (List.mem_of_getElem? (i := 26) rfl)) (hw _ (List.mem_of_getElem? (i := 25) rfl)) (hw _ (List.mem_of_getElem? (i := 3) rfl)) (hw _ (List.mem_of_getElem? (i := 27) rfl)) (by decide) (rm1 l Z a0 hw [] c0 c3 c5 h136 n0 (Nat.le_trans (Nat.le_trans (Nat.le_trans (Nat.le_trans (Nat.le_trans (Nat.le_trans (Nat.le_trans (Nat.le_trans (Nat.le_trans (Nat.le_trans Z0 E101.1) (Keep.of_wr W104).1) (Keep.of_wr W108).1) (Keep.of_wr W112).1) (Keep.of_wr W116).1) (Keep.of_wr W120).1) (Keep.of_wr W124).1) (Keep.of_wr W128).1) (Keep.of_wr W132).1) (Keep.of_wr W136).1) f147 f148) e136 f138 (W := 0) (by decide) (by decide) (by decide) (by decide) (g := (mkF m 93 #[.val (.int x0), .val (.ref b101), .val (.int (0 : Int32)), .val (.ref c0), .val (.int (0 : Int32))] [(.ref c0)])) rfl (by rw [hml]; rfl) (argsL := []) (rest := []) rfl (lenOf pd_0 rfl) rfl (by show 2 * 0 + _ ≤ _; exact Nat.le_of_eq rfl) (hb hby at_93) ?_
    intro v149 T149 L149 hQ149 X149
    obtain ⟨rfl, NN149, e149⟩ := hQ149
    have N149 := Fr.app N136 NN149
    show own_Dn p e below s (fun v h L => v = some (.int 1) ∧ Fr n0 L) room_1.cells room_1.slots (T149.setTop (mkF m 96 #[.val (.int x0), .val (.ref b101), .val (.int (0 : Int32)), .val (.ref c0), .val (.int (0 : Int32))] [(.int (own_var c0 c3 c5))]))
    refine own_st (q' := T149.setTop (mkF m 98 #[.val (.int x0), .val (.ref b101), .val (.int (0 : Int32)), .val (.ref c0), .val (.int (0 : Int32))] [(.int (0 : Int32)), (.int (own_var c0 c3 c5))])) (fun _ k => XS.iload X149.here hx rfl (hb hby at_96) rfl k) ?_
    refine own_st (q' := T149.setTop (mkF m 101 #[.val (.int x0), .val (.ref b101), .val (.int (0 : Int32)), .val (.ref c0), .val (.int (0 : Int32))] [])) (fun _ k => XS.icmpNo X149.here hx rfl (hb hby at_98) rfl (teq (by unfold own_var; rw [(if_neg fun q => ne03 (Value.ref.inj q)), (if_neg fun q => ne05 (Value.ref.inj q))])).2 k) ?_
    refine own_st (q' := T149.setTop (mkF m 102 #[.val (.int x0), .val (.ref b101), .val (.int (0 : Int32)), .val (.ref c0), .val (.int (0 : Int32))] [(.int (1 : Int32))])) (fun _ k => XS.iconst X149.here hx rfl (hb hby at_101) k) ?_
    refine own_st (q' := T149.setTop (mkF m 106 #[.val (.int x0), .val (.ref b101), .val (.int (0 : Int32)), .val (.ref c0), .val (.int (0 : Int32))] [(.int (1 : Int32))])) (fun _ k => XS.goto X149.here hx rfl (pc0 := 102) (pc' := 106) rfl (hb hby at_102) (by decide) (by decide) k) ?_
    exact own_retN X149 hx hlk (t := .boolean) hret (by simp) (hb hby at_106) e149 (by exact ⟨rfl, N149⟩) (by decide) (by decide)
  · skip
    show own_Dn p e below s (fun v h L => v = some (.int 1) ∧ Fr n0 L) room_1.cells room_1.slots (T136.setTop (mkF m 71 #[.val (.int x0), .val (.ref b101), .val (.int (1 : Int32)), .unset, .unset] []))
    refine own_st (q' := T136.setTop (mkF m 72 #[.val (.int x0), .val (.ref b101), .val (.int (1 : Int32)), .unset, .unset] [(.ref b101)])) (fun _ k => XS.aloadN X136.here hx rfl (hb hby at_71) rfl rfl k) ?_
    refine own_st (q' := T136.setTop (mkF m 73 #[.val (.int x0), .val (.ref b101), .val (.int (1 : Int32)), .unset, .unset] [(.int (1 : Int32)), (.ref b101)])) (fun _ k => XS.iloadN X136.here hx rfl (hb hby at_72) rfl k) ?_
    refine own_aaload X136 hx hZ e136 U136 (w := (.ref c1)) (by decide) (by show ((1 : Int32)).toInt < ((9 : Nat) : Int); decide) rfl (g := (mkF m 73 #[.val (.int x0), .val (.ref b101), .val (.int (1 : Int32)), .unset, .unset] [(.int (1 : Int32)), (.ref b101)])) rfl rfl (hb hby at_73) ?_
    show own_Dn p e below s (fun v h L => v = some (.int 1) ∧ Fr n0 L) room_1.cells room_1.slots (T136.setTop (mkF m 74 #[.val (.int x0), .val (.ref b101), .val (.int (1 : Int32)), .unset, .unset] [(.ref c1)]))
    refine own_st (q' := T136.setTop (mkF m 75 #[.val (.int x0), .val (.ref b101), .val (.int (1 : Int32)), .val (.ref c1), .unset] [])) (fun _ k => XS.astoreN X136.here hx rfl (hb hby at_74) rfl rfl (l' := #[.val (.int x0), .val (.ref b101), .val (.int (1 : Int32)), .val (.ref c1), .unset]) rfl k) ?_
    refine own_st (q' := T136.setTop (mkF m 76 #[.val (.int x0), .val (.ref b101), .val (.int (1 : Int32)), .val (.ref c1), .unset] [(.int (1 : Int32))])) (fun _ k => XS.iloadN X136.here hx rfl (hb hby at_75) rfl k) ?_
    refine own_st (q' := T136.setTop (mkF m 77 #[.val (.int x0), .val (.ref b101), .val (.int (1 : Int32)), .val (.ref c1), .unset] [(.int (3 : Int32)), (.int (1 : Int32))])) (fun _ k => XS.iconst X136.here hx rfl (hb hby at_76) k) ?_
    refine own_st (q' := T136.setTop (mkF m 80 #[.val (.int x0), .val (.ref b101), .val (.int (1 : Int32)), .val (.ref c1), .unset] [])) (fun _ k => XS.icmpNo X136.here hx rfl (hb hby at_77) rfl (feq (by decide : ¬ ((1 : Int32) = (3 : Int32)))).1 k) ?_
    refine own_st (q' := T136.setTop (mkF m 81 #[.val (.int x0), .val (.ref b101), .val (.int (1 : Int32)), .val (.ref c1), .unset] [(.int (1 : Int32))])) (fun _ k => XS.iloadN X136.here hx rfl (hb hby at_80) rfl k) ?_
    refine own_st (q' := T136.setTop (mkF m 82 #[.val (.int x0), .val (.ref b101), .val (.int (1 : Int32)), .val (.ref c1), .unset] [(.int (5 : Int32)), (.int (1 : Int32))])) (fun _ k => XS.iconst X136.here hx rfl (hb hby at_81) k) ?_
    refine own_st (q' := T136.setTop (mkF m 89 #[.val (.int x0), .val (.ref b101), .val (.int (1 : Int32)), .val (.ref c1), .unset] [])) (fun _ k => XS.icmpYes X136.here hx rfl (pc0 := 82) (pc' := 89) rfl (hb hby at_82) rfl (feq (by decide : ¬ ((1 : Int32) = (5 : Int32)))).2 (by decide) (by decide) k) ?_
    refine own_st (q' := T136.setTop (mkF m 90 #[.val (.int x0), .val (.ref b101), .val (.int (1 : Int32)), .val (.ref c1), .unset] [(.int (0 : Int32))])) (fun _ k => XS.iconst X136.here hx rfl (hb hby at_89) k) ?_
    refine own_st (q' := T136.setTop (mkF m 92 #[.val (.int x0), .val (.ref b101), .val (.int (1 : Int32)), .val (.ref c1), .val (.int (0 : Int32))] [])) (fun _ k => XS.istore X136.here hx rfl (hb hby at_90) rfl (l' := #[.val (.int x0), .val (.ref b101), .val (.int (1 : Int32)), .val (.ref c1), .val (.int (0 : Int32))]) rfl k) ?_
    refine own_st (q' := T136.setTop (mkF m 93 #[.val (.int x0), .val (.ref b101), .val (.int (1 : Int32)), .val (.ref c1), .val (.int (0 : Int32))] [(.ref c1)])) (fun _ k => XS.aloadN X136.here hx rfl (hb hby at_92) rfl rfl k) ?_
    refine own_callV (y := (⟨"com/example/ashurbanipal/ashurbanipal/row/ValueType", "isVariableLength", "()Z"⟩ : MethodName)) X136 hx hZ hown (hw _ (List.mem_of_getElem? (i := 23) rfl)) (hw _ (List.mem_of_getElem? (i := 24) rfl)) (hw _ (List.mem_of_getElem? (i := 26) rfl)) (hw _ (List.mem_of_getElem? (i := 25) rfl)) (hw _ (List.mem_of_getElem? (i := 3) rfl)) (hw _ (List.mem_of_getElem? (i := 27) rfl)) (by decide) (rm1 l Z a0 hw [] c1 c3 c5 h136 n0 (Nat.le_trans (Nat.le_trans (Nat.le_trans (Nat.le_trans (Nat.le_trans (Nat.le_trans (Nat.le_trans (Nat.le_trans (Nat.le_trans (Nat.le_trans Z0 E101.1) (Keep.of_wr W104).1) (Keep.of_wr W108).1) (Keep.of_wr W112).1) (Keep.of_wr W116).1) (Keep.of_wr W120).1) (Keep.of_wr W124).1) (Keep.of_wr W128).1) (Keep.of_wr W132).1) (Keep.of_wr W136).1) f147 f148) e136 f139 (W := 0) (by decide) (by decide) (by decide) (by decide) (g := (mkF m 93 #[.val (.int x0), .val (.ref b101), .val (.int (1 : Int32)), .val (.ref c1), .val (.int (0 : Int32))] [(.ref c1)])) rfl (by rw [hml]; rfl) (argsL := []) (rest := []) rfl (lenOf pd_0 rfl) rfl (by show 2 * 0 + _ ≤ _; exact Nat.le_of_eq rfl) (hb hby at_93) ?_
    intro v150 T150 L150 hQ150 X150
    obtain ⟨rfl, NN150, e150⟩ := hQ150
    have N150 := Fr.app N136 NN150
    show own_Dn p e below s (fun v h L => v = some (.int 1) ∧ Fr n0 L) room_1.cells room_1.slots (T150.setTop (mkF m 96 #[.val (.int x0), .val (.ref b101), .val (.int (1 : Int32)), .val (.ref c1), .val (.int (0 : Int32))] [(.int (own_var c1 c3 c5))]))
    refine own_st (q' := T150.setTop (mkF m 98 #[.val (.int x0), .val (.ref b101), .val (.int (1 : Int32)), .val (.ref c1), .val (.int (0 : Int32))] [(.int (0 : Int32)), (.int (own_var c1 c3 c5))])) (fun _ k => XS.iload X150.here hx rfl (hb hby at_96) rfl k) ?_
    refine own_st (q' := T150.setTop (mkF m 101 #[.val (.int x0), .val (.ref b101), .val (.int (1 : Int32)), .val (.ref c1), .val (.int (0 : Int32))] [])) (fun _ k => XS.icmpNo X150.here hx rfl (hb hby at_98) rfl (teq (by unfold own_var; rw [(if_neg fun q => ne13 (Value.ref.inj q)), (if_neg fun q => ne15 (Value.ref.inj q))])).2 k) ?_
    refine own_st (q' := T150.setTop (mkF m 102 #[.val (.int x0), .val (.ref b101), .val (.int (1 : Int32)), .val (.ref c1), .val (.int (0 : Int32))] [(.int (1 : Int32))])) (fun _ k => XS.iconst X150.here hx rfl (hb hby at_101) k) ?_
    refine own_st (q' := T150.setTop (mkF m 106 #[.val (.int x0), .val (.ref b101), .val (.int (1 : Int32)), .val (.ref c1), .val (.int (0 : Int32))] [(.int (1 : Int32))])) (fun _ k => XS.goto X150.here hx rfl (pc0 := 102) (pc' := 106) rfl (hb hby at_102) (by decide) (by decide) k) ?_
    exact own_retN X150 hx hlk (t := .boolean) hret (by simp) (hb hby at_106) e150 (by exact ⟨rfl, N150⟩) (by decide) (by decide)
  · skip
    show own_Dn p e below s (fun v h L => v = some (.int 1) ∧ Fr n0 L) room_1.cells room_1.slots (T136.setTop (mkF m 71 #[.val (.int x0), .val (.ref b101), .val (.int (2 : Int32)), .unset, .unset] []))
    refine own_st (q' := T136.setTop (mkF m 72 #[.val (.int x0), .val (.ref b101), .val (.int (2 : Int32)), .unset, .unset] [(.ref b101)])) (fun _ k => XS.aloadN X136.here hx rfl (hb hby at_71) rfl rfl k) ?_
    refine own_st (q' := T136.setTop (mkF m 73 #[.val (.int x0), .val (.ref b101), .val (.int (2 : Int32)), .unset, .unset] [(.int (2 : Int32)), (.ref b101)])) (fun _ k => XS.iloadN X136.here hx rfl (hb hby at_72) rfl k) ?_
    refine own_aaload X136 hx hZ e136 U136 (w := (.ref c2)) (by decide) (by show ((2 : Int32)).toInt < ((9 : Nat) : Int); decide) rfl (g := (mkF m 73 #[.val (.int x0), .val (.ref b101), .val (.int (2 : Int32)), .unset, .unset] [(.int (2 : Int32)), (.ref b101)])) rfl rfl (hb hby at_73) ?_
    show own_Dn p e below s (fun v h L => v = some (.int 1) ∧ Fr n0 L) room_1.cells room_1.slots (T136.setTop (mkF m 74 #[.val (.int x0), .val (.ref b101), .val (.int (2 : Int32)), .unset, .unset] [(.ref c2)]))
    refine own_st (q' := T136.setTop (mkF m 75 #[.val (.int x0), .val (.ref b101), .val (.int (2 : Int32)), .val (.ref c2), .unset] [])) (fun _ k => XS.astoreN X136.here hx rfl (hb hby at_74) rfl rfl (l' := #[.val (.int x0), .val (.ref b101), .val (.int (2 : Int32)), .val (.ref c2), .unset]) rfl k) ?_
    refine own_st (q' := T136.setTop (mkF m 76 #[.val (.int x0), .val (.ref b101), .val (.int (2 : Int32)), .val (.ref c2), .unset] [(.int (2 : Int32))])) (fun _ k => XS.iloadN X136.here hx rfl (hb hby at_75) rfl k) ?_
    refine own_st (q' := T136.setTop (mkF m 77 #[.val (.int x0), .val (.ref b101), .val (.int (2 : Int32)), .val (.ref c2), .unset] [(.int (3 : Int32)), (.int (2 : Int32))])) (fun _ k => XS.iconst X136.here hx rfl (hb hby at_76) k) ?_
    refine own_st (q' := T136.setTop (mkF m 80 #[.val (.int x0), .val (.ref b101), .val (.int (2 : Int32)), .val (.ref c2), .unset] [])) (fun _ k => XS.icmpNo X136.here hx rfl (hb hby at_77) rfl (feq (by decide : ¬ ((2 : Int32) = (3 : Int32)))).1 k) ?_
    refine own_st (q' := T136.setTop (mkF m 81 #[.val (.int x0), .val (.ref b101), .val (.int (2 : Int32)), .val (.ref c2), .unset] [(.int (2 : Int32))])) (fun _ k => XS.iloadN X136.here hx rfl (hb hby at_80) rfl k) ?_
    refine own_st (q' := T136.setTop (mkF m 82 #[.val (.int x0), .val (.ref b101), .val (.int (2 : Int32)), .val (.ref c2), .unset] [(.int (5 : Int32)), (.int (2 : Int32))])) (fun _ k => XS.iconst X136.here hx rfl (hb hby at_81) k) ?_
    refine own_st (q' := T136.setTop (mkF m 89 #[.val (.int x0), .val (.ref b101), .val (.int (2 : Int32)), .val (.ref c2), .unset] [])) (fun _ k => XS.icmpYes X136.here hx rfl (pc0 := 82) (pc' := 89) rfl (hb hby at_82) rfl (feq (by decide : ¬ ((2 : Int32) = (5 : Int32)))).2 (by decide) (by decide) k) ?_
    refine own_st (q' := T136.setTop (mkF m 90 #[.val (.int x0), .val (.ref b101), .val (.int (2 : Int32)), .val (.ref c2), .unset] [(.int (0 : Int32))])) (fun _ k => XS.iconst X136.here hx rfl (hb hby at_89) k) ?_
    refine own_st (q' := T136.setTop (mkF m 92 #[.val (.int x0), .val (.ref b101), .val (.int (2 : Int32)), .val (.ref c2), .val (.int (0 : Int32))] [])) (fun _ k => XS.istore X136.here hx rfl (hb hby at_90) rfl (l' := #[.val (.int x0), .val (.ref b101), .val (.int (2 : Int32)), .val (.ref c2), .val (.int (0 : Int32))]) rfl k) ?_
    refine own_st (q' := T136.setTop (mkF m 93 #[.val (.int x0), .val (.ref b101), .val (.int (2 : Int32)), .val (.ref c2), .val (.int (0 : Int32))] [(.ref c2)])) (fun _ k => XS.aloadN X136.here hx rfl (hb hby at_92) rfl rfl k) ?_
    refine own_callV (y := (⟨"com/example/ashurbanipal/ashurbanipal/row/ValueType", "isVariableLength", "()Z"⟩ : MethodName)) X136 hx hZ hown (hw _ (List.mem_of_getElem? (i := 23) rfl)) (hw _ (List.mem_of_getElem? (i := 24) rfl)) (hw _ (List.mem_of_getElem? (i := 26) rfl)) (hw _ (List.mem_of_getElem? (i := 25) rfl)) (hw _ (List.mem_of_getElem? (i := 3) rfl)) (hw _ (List.mem_of_getElem? (i := 27) rfl)) (by decide) (rm1 l Z a0 hw [] c2 c3 c5 h136 n0 (Nat.le_trans (Nat.le_trans (Nat.le_trans (Nat.le_trans (Nat.le_trans (Nat.le_trans (Nat.le_trans (Nat.le_trans (Nat.le_trans (Nat.le_trans Z0 E101.1) (Keep.of_wr W104).1) (Keep.of_wr W108).1) (Keep.of_wr W112).1) (Keep.of_wr W116).1) (Keep.of_wr W120).1) (Keep.of_wr W124).1) (Keep.of_wr W128).1) (Keep.of_wr W132).1) (Keep.of_wr W136).1) f147 f148) e136 f140 (W := 0) (by decide) (by decide) (by decide) (by decide) (g := (mkF m 93 #[.val (.int x0), .val (.ref b101), .val (.int (2 : Int32)), .val (.ref c2), .val (.int (0 : Int32))] [(.ref c2)])) rfl (by rw [hml]; rfl) (argsL := []) (rest := []) rfl (lenOf pd_0 rfl) rfl (by show 2 * 0 + _ ≤ _; exact Nat.le_of_eq rfl) (hb hby at_93) ?_
    intro v151 T151 L151 hQ151 X151
    obtain ⟨rfl, NN151, e151⟩ := hQ151
    have N151 := Fr.app N136 NN151
    show own_Dn p e below s (fun v h L => v = some (.int 1) ∧ Fr n0 L) room_1.cells room_1.slots (T151.setTop (mkF m 96 #[.val (.int x0), .val (.ref b101), .val (.int (2 : Int32)), .val (.ref c2), .val (.int (0 : Int32))] [(.int (own_var c2 c3 c5))]))
    refine own_st (q' := T151.setTop (mkF m 98 #[.val (.int x0), .val (.ref b101), .val (.int (2 : Int32)), .val (.ref c2), .val (.int (0 : Int32))] [(.int (0 : Int32)), (.int (own_var c2 c3 c5))])) (fun _ k => XS.iload X151.here hx rfl (hb hby at_96) rfl k) ?_
    refine own_st (q' := T151.setTop (mkF m 101 #[.val (.int x0), .val (.ref b101), .val (.int (2 : Int32)), .val (.ref c2), .val (.int (0 : Int32))] [])) (fun _ k => XS.icmpNo X151.here hx rfl (hb hby at_98) rfl (teq (by unfold own_var; rw [(if_neg fun q => ne23 (Value.ref.inj q)), (if_neg fun q => ne25 (Value.ref.inj q))])).2 k) ?_
    refine own_st (q' := T151.setTop (mkF m 102 #[.val (.int x0), .val (.ref b101), .val (.int (2 : Int32)), .val (.ref c2), .val (.int (0 : Int32))] [(.int (1 : Int32))])) (fun _ k => XS.iconst X151.here hx rfl (hb hby at_101) k) ?_
    refine own_st (q' := T151.setTop (mkF m 106 #[.val (.int x0), .val (.ref b101), .val (.int (2 : Int32)), .val (.ref c2), .val (.int (0 : Int32))] [(.int (1 : Int32))])) (fun _ k => XS.goto X151.here hx rfl (pc0 := 102) (pc' := 106) rfl (hb hby at_102) (by decide) (by decide) k) ?_
    exact own_retN X151 hx hlk (t := .boolean) hret (by simp) (hb hby at_106) e151 (by exact ⟨rfl, N151⟩) (by decide) (by decide)
  · skip
    show own_Dn p e below s (fun v h L => v = some (.int 1) ∧ Fr n0 L) room_1.cells room_1.slots (T136.setTop (mkF m 71 #[.val (.int x0), .val (.ref b101), .val (.int (3 : Int32)), .unset, .unset] []))
    refine own_st (q' := T136.setTop (mkF m 72 #[.val (.int x0), .val (.ref b101), .val (.int (3 : Int32)), .unset, .unset] [(.ref b101)])) (fun _ k => XS.aloadN X136.here hx rfl (hb hby at_71) rfl rfl k) ?_
    refine own_st (q' := T136.setTop (mkF m 73 #[.val (.int x0), .val (.ref b101), .val (.int (3 : Int32)), .unset, .unset] [(.int (3 : Int32)), (.ref b101)])) (fun _ k => XS.iloadN X136.here hx rfl (hb hby at_72) rfl k) ?_
    refine own_aaload X136 hx hZ e136 U136 (w := (.ref c3)) (by decide) (by show ((3 : Int32)).toInt < ((9 : Nat) : Int); decide) rfl (g := (mkF m 73 #[.val (.int x0), .val (.ref b101), .val (.int (3 : Int32)), .unset, .unset] [(.int (3 : Int32)), (.ref b101)])) rfl rfl (hb hby at_73) ?_
    show own_Dn p e below s (fun v h L => v = some (.int 1) ∧ Fr n0 L) room_1.cells room_1.slots (T136.setTop (mkF m 74 #[.val (.int x0), .val (.ref b101), .val (.int (3 : Int32)), .unset, .unset] [(.ref c3)]))
    refine own_st (q' := T136.setTop (mkF m 75 #[.val (.int x0), .val (.ref b101), .val (.int (3 : Int32)), .val (.ref c3), .unset] [])) (fun _ k => XS.astoreN X136.here hx rfl (hb hby at_74) rfl rfl (l' := #[.val (.int x0), .val (.ref b101), .val (.int (3 : Int32)), .val (.ref c3), .unset]) rfl k) ?_
    refine own_st (q' := T136.setTop (mkF m 76 #[.val (.int x0), .val (.ref b101), .val (.int (3 : Int32)), .val (.ref c3), .unset] [(.int (3 : Int32))])) (fun _ k => XS.iloadN X136.here hx rfl (hb hby at_75) rfl k) ?_
    refine own_st (q' := T136.setTop (mkF m 77 #[.val (.int x0), .val (.ref b101), .val (.int (3 : Int32)), .val (.ref c3), .unset] [(.int (3 : Int32)), (.int (3 : Int32))])) (fun _ k => XS.iconst X136.here hx rfl (hb hby at_76) k) ?_
    refine own_st (q' := T136.setTop (mkF m 85 #[.val (.int x0), .val (.ref b101), .val (.int (3 : Int32)), .val (.ref c3), .unset] [])) (fun _ k => XS.icmpYes X136.here hx rfl (pc0 := 77) (pc' := 85) rfl (hb hby at_77) rfl (teq (by decide : (3 : Int32) = (3 : Int32))).1 (by decide) (by decide) k) ?_
    refine own_st (q' := T136.setTop (mkF m 86 #[.val (.int x0), .val (.ref b101), .val (.int (3 : Int32)), .val (.ref c3), .unset] [(.int (1 : Int32))])) (fun _ k => XS.iconst X136.here hx rfl (hb hby at_85) k) ?_
    refine own_st (q' := T136.setTop (mkF m 90 #[.val (.int x0), .val (.ref b101), .val (.int (3 : Int32)), .val (.ref c3), .unset] [(.int (1 : Int32))])) (fun _ k => XS.goto X136.here hx rfl (pc0 := 86) (pc' := 90) rfl (hb hby at_86) (by decide) (by decide) k) ?_
    refine own_st (q' := T136.setTop (mkF m 92 #[.val (.int x0), .val (.ref b101), .val (.int (3 : Int32)), .val (.ref c3), .val (.int (1 : Int32))] [])) (fun _ k => XS.istore X136.here hx rfl (hb hby at_90) rfl (l' := #[.val (.int x0), .val (.ref b101), .val (.int (3 : Int32)), .val (.ref c3), .val (.int (1 : Int32))]) rfl k) ?_
    refine own_st (q' := T136.setTop (mkF m 93 #[.val (.int x0), .val (.ref b101), .val (.int (3 : Int32)), .val (.ref c3), .val (.int (1 : Int32))] [(.ref c3)])) (fun _ k => XS.aloadN X136.here hx rfl (hb hby at_92) rfl rfl k) ?_
    refine own_callV (y := (⟨"com/example/ashurbanipal/ashurbanipal/row/ValueType", "isVariableLength", "()Z"⟩ : MethodName)) X136 hx hZ hown (hw _ (List.mem_of_getElem? (i := 23) rfl)) (hw _ (List.mem_of_getElem? (i := 24) rfl)) (hw _ (List.mem_of_getElem? (i := 26) rfl)) (hw _ (List.mem_of_getElem? (i := 25) rfl)) (hw _ (List.mem_of_getElem? (i := 3) rfl)) (hw _ (List.mem_of_getElem? (i := 27) rfl)) (by decide) (rm1 l Z a0 hw [] c3 c3 c5 h136 n0 (Nat.le_trans (Nat.le_trans (Nat.le_trans (Nat.le_trans (Nat.le_trans (Nat.le_trans (Nat.le_trans (Nat.le_trans (Nat.le_trans (Nat.le_trans Z0 E101.1) (Keep.of_wr W104).1) (Keep.of_wr W108).1) (Keep.of_wr W112).1) (Keep.of_wr W116).1) (Keep.of_wr W120).1) (Keep.of_wr W124).1) (Keep.of_wr W128).1) (Keep.of_wr W132).1) (Keep.of_wr W136).1) f147 f148) e136 f141 (W := 0) (by decide) (by decide) (by decide) (by decide) (g := (mkF m 93 #[.val (.int x0), .val (.ref b101), .val (.int (3 : Int32)), .val (.ref c3), .val (.int (1 : Int32))] [(.ref c3)])) rfl (by rw [hml]; rfl) (argsL := []) (rest := []) rfl (lenOf pd_0 rfl) rfl (by show 2 * 0 + _ ≤ _; exact Nat.le_of_eq rfl) (hb hby at_93) ?_
    intro v152 T152 L152 hQ152 X152
    obtain ⟨rfl, NN152, e152⟩ := hQ152
    have N152 := Fr.app N136 NN152
    show own_Dn p e below s (fun v h L => v = some (.int 1) ∧ Fr n0 L) room_1.cells room_1.slots (T152.setTop (mkF m 96 #[.val (.int x0), .val (.ref b101), .val (.int (3 : Int32)), .val (.ref c3), .val (.int (1 : Int32))] [(.int (own_var c3 c3 c5))]))
    refine own_st (q' := T152.setTop (mkF m 98 #[.val (.int x0), .val (.ref b101), .val (.int (3 : Int32)), .val (.ref c3), .val (.int (1 : Int32))] [(.int (1 : Int32)), (.int (own_var c3 c3 c5))])) (fun _ k => XS.iload X152.here hx rfl (hb hby at_96) rfl k) ?_
    refine own_st (q' := T152.setTop (mkF m 101 #[.val (.int x0), .val (.ref b101), .val (.int (3 : Int32)), .val (.ref c3), .val (.int (1 : Int32))] [])) (fun _ k => XS.icmpNo X152.here hx rfl (hb hby at_98) rfl (teq (by unfold own_var; rw [if_pos rfl])).2 k) ?_
    refine own_st (q' := T152.setTop (mkF m 102 #[.val (.int x0), .val (.ref b101), .val (.int (3 : Int32)), .val (.ref c3), .val (.int (1 : Int32))] [(.int (1 : Int32))])) (fun _ k => XS.iconst X152.here hx rfl (hb hby at_101) k) ?_
    refine own_st (q' := T152.setTop (mkF m 106 #[.val (.int x0), .val (.ref b101), .val (.int (3 : Int32)), .val (.ref c3), .val (.int (1 : Int32))] [(.int (1 : Int32))])) (fun _ k => XS.goto X152.here hx rfl (pc0 := 102) (pc' := 106) rfl (hb hby at_102) (by decide) (by decide) k) ?_
    exact own_retN X152 hx hlk (t := .boolean) hret (by simp) (hb hby at_106) e152 (by exact ⟨rfl, N152⟩) (by decide) (by decide)
  · skip
    show own_Dn p e below s (fun v h L => v = some (.int 1) ∧ Fr n0 L) room_1.cells room_1.slots (T136.setTop (mkF m 71 #[.val (.int x0), .val (.ref b101), .val (.int (4 : Int32)), .unset, .unset] []))
    refine own_st (q' := T136.setTop (mkF m 72 #[.val (.int x0), .val (.ref b101), .val (.int (4 : Int32)), .unset, .unset] [(.ref b101)])) (fun _ k => XS.aloadN X136.here hx rfl (hb hby at_71) rfl rfl k) ?_
    refine own_st (q' := T136.setTop (mkF m 73 #[.val (.int x0), .val (.ref b101), .val (.int (4 : Int32)), .unset, .unset] [(.int (4 : Int32)), (.ref b101)])) (fun _ k => XS.iloadN X136.here hx rfl (hb hby at_72) rfl k) ?_
    refine own_aaload X136 hx hZ e136 U136 (w := (.ref c4)) (by decide) (by show ((4 : Int32)).toInt < ((9 : Nat) : Int); decide) rfl (g := (mkF m 73 #[.val (.int x0), .val (.ref b101), .val (.int (4 : Int32)), .unset, .unset] [(.int (4 : Int32)), (.ref b101)])) rfl rfl (hb hby at_73) ?_
    show own_Dn p e below s (fun v h L => v = some (.int 1) ∧ Fr n0 L) room_1.cells room_1.slots (T136.setTop (mkF m 74 #[.val (.int x0), .val (.ref b101), .val (.int (4 : Int32)), .unset, .unset] [(.ref c4)]))
    refine own_st (q' := T136.setTop (mkF m 75 #[.val (.int x0), .val (.ref b101), .val (.int (4 : Int32)), .val (.ref c4), .unset] [])) (fun _ k => XS.astoreN X136.here hx rfl (hb hby at_74) rfl rfl (l' := #[.val (.int x0), .val (.ref b101), .val (.int (4 : Int32)), .val (.ref c4), .unset]) rfl k) ?_
    refine own_st (q' := T136.setTop (mkF m 76 #[.val (.int x0), .val (.ref b101), .val (.int (4 : Int32)), .val (.ref c4), .unset] [(.int (4 : Int32))])) (fun _ k => XS.iloadN X136.here hx rfl (hb hby at_75) rfl k) ?_
    refine own_st (q' := T136.setTop (mkF m 77 #[.val (.int x0), .val (.ref b101), .val (.int (4 : Int32)), .val (.ref c4), .unset] [(.int (3 : Int32)), (.int (4 : Int32))])) (fun _ k => XS.iconst X136.here hx rfl (hb hby at_76) k) ?_
    refine own_st (q' := T136.setTop (mkF m 80 #[.val (.int x0), .val (.ref b101), .val (.int (4 : Int32)), .val (.ref c4), .unset] [])) (fun _ k => XS.icmpNo X136.here hx rfl (hb hby at_77) rfl (feq (by decide : ¬ ((4 : Int32) = (3 : Int32)))).1 k) ?_
    refine own_st (q' := T136.setTop (mkF m 81 #[.val (.int x0), .val (.ref b101), .val (.int (4 : Int32)), .val (.ref c4), .unset] [(.int (4 : Int32))])) (fun _ k => XS.iloadN X136.here hx rfl (hb hby at_80) rfl k) ?_
    refine own_st (q' := T136.setTop (mkF m 82 #[.val (.int x0), .val (.ref b101), .val (.int (4 : Int32)), .val (.ref c4), .unset] [(.int (5 : Int32)), (.int (4 : Int32))])) (fun _ k => XS.iconst X136.here hx rfl (hb hby at_81) k) ?_
    refine own_st (q' := T136.setTop (mkF m 89 #[.val (.int x0), .val (.ref b101), .val (.int (4 : Int32)), .val (.ref c4), .unset] [])) (fun _ k => XS.icmpYes X136.here hx rfl (pc0 := 82) (pc' := 89) rfl (hb hby at_82) rfl (feq (by decide : ¬ ((4 : Int32) = (5 : Int32)))).2 (by decide) (by decide) k) ?_
    refine own_st (q' := T136.setTop (mkF m 90 #[.val (.int x0), .val (.ref b101), .val (.int (4 : Int32)), .val (.ref c4), .unset] [(.int (0 : Int32))])) (fun _ k => XS.iconst X136.here hx rfl (hb hby at_89) k) ?_
    refine own_st (q' := T136.setTop (mkF m 92 #[.val (.int x0), .val (.ref b101), .val (.int (4 : Int32)), .val (.ref c4), .val (.int (0 : Int32))] [])) (fun _ k => XS.istore X136.here hx rfl (hb hby at_90) rfl (l' := #[.val (.int x0), .val (.ref b101), .val (.int (4 : Int32)), .val (.ref c4), .val (.int (0 : Int32))]) rfl k) ?_
    refine own_st (q' := T136.setTop (mkF m 93 #[.val (.int x0), .val (.ref b101), .val (.int (4 : Int32)), .val (.ref c4), .val (.int (0 : Int32))] [(.ref c4)])) (fun _ k => XS.aloadN X136.here hx rfl (hb hby at_92) rfl rfl k) ?_
    refine own_callV (y := (⟨"com/example/ashurbanipal/ashurbanipal/row/ValueType", "isVariableLength", "()Z"⟩ : MethodName)) X136 hx hZ hown (hw _ (List.mem_of_getElem? (i := 23) rfl)) (hw _ (List.mem_of_getElem? (i := 24) rfl)) (hw _ (List.mem_of_getElem? (i := 26) rfl)) (hw _ (List.mem_of_getElem? (i := 25) rfl)) (hw _ (List.mem_of_getElem? (i := 3) rfl)) (hw _ (List.mem_of_getElem? (i := 27) rfl)) (by decide) (rm1 l Z a0 hw [] c4 c3 c5 h136 n0 (Nat.le_trans (Nat.le_trans (Nat.le_trans (Nat.le_trans (Nat.le_trans (Nat.le_trans (Nat.le_trans (Nat.le_trans (Nat.le_trans (Nat.le_trans Z0 E101.1) (Keep.of_wr W104).1) (Keep.of_wr W108).1) (Keep.of_wr W112).1) (Keep.of_wr W116).1) (Keep.of_wr W120).1) (Keep.of_wr W124).1) (Keep.of_wr W128).1) (Keep.of_wr W132).1) (Keep.of_wr W136).1) f147 f148) e136 f142 (W := 0) (by decide) (by decide) (by decide) (by decide) (g := (mkF m 93 #[.val (.int x0), .val (.ref b101), .val (.int (4 : Int32)), .val (.ref c4), .val (.int (0 : Int32))] [(.ref c4)])) rfl (by rw [hml]; rfl) (argsL := []) (rest := []) rfl (lenOf pd_0 rfl) rfl (by show 2 * 0 + _ ≤ _; exact Nat.le_of_eq rfl) (hb hby at_93) ?_
    intro v153 T153 L153 hQ153 X153
    obtain ⟨rfl, NN153, e153⟩ := hQ153
    have N153 := Fr.app N136 NN153
    show own_Dn p e below s (fun v h L => v = some (.int 1) ∧ Fr n0 L) room_1.cells room_1.slots (T153.setTop (mkF m 96 #[.val (.int x0), .val (.ref b101), .val (.int (4 : Int32)), .val (.ref c4), .val (.int (0 : Int32))] [(.int (own_var c4 c3 c5))]))
    refine own_st (q' := T153.setTop (mkF m 98 #[.val (.int x0), .val (.ref b101), .val (.int (4 : Int32)), .val (.ref c4), .val (.int (0 : Int32))] [(.int (0 : Int32)), (.int (own_var c4 c3 c5))])) (fun _ k => XS.iload X153.here hx rfl (hb hby at_96) rfl k) ?_
    refine own_st (q' := T153.setTop (mkF m 101 #[.val (.int x0), .val (.ref b101), .val (.int (4 : Int32)), .val (.ref c4), .val (.int (0 : Int32))] [])) (fun _ k => XS.icmpNo X153.here hx rfl (hb hby at_98) rfl (teq (by unfold own_var; rw [(if_neg fun q => ne43 (Value.ref.inj q)), (if_neg fun q => ne45 (Value.ref.inj q))])).2 k) ?_
    refine own_st (q' := T153.setTop (mkF m 102 #[.val (.int x0), .val (.ref b101), .val (.int (4 : Int32)), .val (.ref c4), .val (.int (0 : Int32))] [(.int (1 : Int32))])) (fun _ k => XS.iconst X153.here hx rfl (hb hby at_101) k) ?_
    refine own_st (q' := T153.setTop (mkF m 106 #[.val (.int x0), .val (.ref b101), .val (.int (4 : Int32)), .val (.ref c4), .val (.int (0 : Int32))] [(.int (1 : Int32))])) (fun _ k => XS.goto X153.here hx rfl (pc0 := 102) (pc' := 106) rfl (hb hby at_102) (by decide) (by decide) k) ?_
    exact own_retN X153 hx hlk (t := .boolean) hret (by simp) (hb hby at_106) e153 (by exact ⟨rfl, N153⟩) (by decide) (by decide)
  · skip
    show own_Dn p e below s (fun v h L => v = some (.int 1) ∧ Fr n0 L) room_1.cells room_1.slots (T136.setTop (mkF m 71 #[.val (.int x0), .val (.ref b101), .val (.int (5 : Int32)), .unset, .unset] []))
    refine own_st (q' := T136.setTop (mkF m 72 #[.val (.int x0), .val (.ref b101), .val (.int (5 : Int32)), .unset, .unset] [(.ref b101)])) (fun _ k => XS.aloadN X136.here hx rfl (hb hby at_71) rfl rfl k) ?_
    refine own_st (q' := T136.setTop (mkF m 73 #[.val (.int x0), .val (.ref b101), .val (.int (5 : Int32)), .unset, .unset] [(.int (5 : Int32)), (.ref b101)])) (fun _ k => XS.iloadN X136.here hx rfl (hb hby at_72) rfl k) ?_
    refine own_aaload X136 hx hZ e136 U136 (w := (.ref c5)) (by decide) (by show ((5 : Int32)).toInt < ((9 : Nat) : Int); decide) rfl (g := (mkF m 73 #[.val (.int x0), .val (.ref b101), .val (.int (5 : Int32)), .unset, .unset] [(.int (5 : Int32)), (.ref b101)])) rfl rfl (hb hby at_73) ?_
    show own_Dn p e below s (fun v h L => v = some (.int 1) ∧ Fr n0 L) room_1.cells room_1.slots (T136.setTop (mkF m 74 #[.val (.int x0), .val (.ref b101), .val (.int (5 : Int32)), .unset, .unset] [(.ref c5)]))
    refine own_st (q' := T136.setTop (mkF m 75 #[.val (.int x0), .val (.ref b101), .val (.int (5 : Int32)), .val (.ref c5), .unset] [])) (fun _ k => XS.astoreN X136.here hx rfl (hb hby at_74) rfl rfl (l' := #[.val (.int x0), .val (.ref b101), .val (.int (5 : Int32)), .val (.ref c5), .unset]) rfl k) ?_
    refine own_st (q' := T136.setTop (mkF m 76 #[.val (.int x0), .val (.ref b101), .val (.int (5 : Int32)), .val (.ref c5), .unset] [(.int (5 : Int32))])) (fun _ k => XS.iloadN X136.here hx rfl (hb hby at_75) rfl k) ?_
    refine own_st (q' := T136.setTop (mkF m 77 #[.val (.int x0), .val (.ref b101), .val (.int (5 : Int32)), .val (.ref c5), .unset] [(.int (3 : Int32)), (.int (5 : Int32))])) (fun _ k => XS.iconst X136.here hx rfl (hb hby at_76) k) ?_
    refine own_st (q' := T136.setTop (mkF m 80 #[.val (.int x0), .val (.ref b101), .val (.int (5 : Int32)), .val (.ref c5), .unset] [])) (fun _ k => XS.icmpNo X136.here hx rfl (hb hby at_77) rfl (feq (by decide : ¬ ((5 : Int32) = (3 : Int32)))).1 k) ?_
    refine own_st (q' := T136.setTop (mkF m 81 #[.val (.int x0), .val (.ref b101), .val (.int (5 : Int32)), .val (.ref c5), .unset] [(.int (5 : Int32))])) (fun _ k => XS.iloadN X136.here hx rfl (hb hby at_80) rfl k) ?_
    refine own_st (q' := T136.setTop (mkF m 82 #[.val (.int x0), .val (.ref b101), .val (.int (5 : Int32)), .val (.ref c5), .unset] [(.int (5 : Int32)), (.int (5 : Int32))])) (fun _ k => XS.iconst X136.here hx rfl (hb hby at_81) k) ?_
    refine own_st (q' := T136.setTop (mkF m 85 #[.val (.int x0), .val (.ref b101), .val (.int (5 : Int32)), .val (.ref c5), .unset] [])) (fun _ k => XS.icmpNo X136.here hx rfl (hb hby at_82) rfl (teq (by decide : (5 : Int32) = (5 : Int32))).2 k) ?_
    refine own_st (q' := T136.setTop (mkF m 86 #[.val (.int x0), .val (.ref b101), .val (.int (5 : Int32)), .val (.ref c5), .unset] [(.int (1 : Int32))])) (fun _ k => XS.iconst X136.here hx rfl (hb hby at_85) k) ?_
    refine own_st (q' := T136.setTop (mkF m 90 #[.val (.int x0), .val (.ref b101), .val (.int (5 : Int32)), .val (.ref c5), .unset] [(.int (1 : Int32))])) (fun _ k => XS.goto X136.here hx rfl (pc0 := 86) (pc' := 90) rfl (hb hby at_86) (by decide) (by decide) k) ?_
    refine own_st (q' := T136.setTop (mkF m 92 #[.val (.int x0), .val (.ref b101), .val (.int (5 : Int32)), .val (.ref c5), .val (.int (1 : Int32))] [])) (fun _ k => XS.istore X136.here hx rfl (hb hby at_90) rfl (l' := #[.val (.int x0), .val (.ref b101), .val (.int (5 : Int32)), .val (.ref c5), .val (.int (1 : Int32))]) rfl k) ?_
    refine own_st (q' := T136.setTop (mkF m 93 #[.val (.int x0), .val (.ref b101), .val (.int (5 : Int32)), .val (.ref c5), .val (.int (1 : Int32))] [(.ref c5)])) (fun _ k => XS.aloadN X136.here hx rfl (hb hby at_92) rfl rfl k) ?_
    refine own_callV (y := (⟨"com/example/ashurbanipal/ashurbanipal/row/ValueType", "isVariableLength", "()Z"⟩ : MethodName)) X136 hx hZ hown (hw _ (List.mem_of_getElem? (i := 23) rfl)) (hw _ (List.mem_of_getElem? (i := 24) rfl)) (hw _ (List.mem_of_getElem? (i := 26) rfl)) (hw _ (List.mem_of_getElem? (i := 25) rfl)) (hw _ (List.mem_of_getElem? (i := 3) rfl)) (hw _ (List.mem_of_getElem? (i := 27) rfl)) (by decide) (rm1 l Z a0 hw [] c5 c3 c5 h136 n0 (Nat.le_trans (Nat.le_trans (Nat.le_trans (Nat.le_trans (Nat.le_trans (Nat.le_trans (Nat.le_trans (Nat.le_trans (Nat.le_trans (Nat.le_trans Z0 E101.1) (Keep.of_wr W104).1) (Keep.of_wr W108).1) (Keep.of_wr W112).1) (Keep.of_wr W116).1) (Keep.of_wr W120).1) (Keep.of_wr W124).1) (Keep.of_wr W128).1) (Keep.of_wr W132).1) (Keep.of_wr W136).1) f147 f148) e136 f143 (W := 0) (by decide) (by decide) (by decide) (by decide) (g := (mkF m 93 #[.val (.int x0), .val (.ref b101), .val (.int (5 : Int32)), .val (.ref c5), .val (.int (1 : Int32))] [(.ref c5)])) rfl (by rw [hml]; rfl) (argsL := []) (rest := []) rfl (lenOf pd_0 rfl) rfl (by show 2 * 0 + _ ≤ _; exact Nat.le_of_eq rfl) (hb hby at_93) ?_
    intro v154 T154 L154 hQ154 X154
    obtain ⟨rfl, NN154, e154⟩ := hQ154
    have N154 := Fr.app N136 NN154
    show own_Dn p e below s (fun v h L => v = some (.int 1) ∧ Fr n0 L) room_1.cells room_1.slots (T154.setTop (mkF m 96 #[.val (.int x0), .val (.ref b101), .val (.int (5 : Int32)), .val (.ref c5), .val (.int (1 : Int32))] [(.int (own_var c5 c3 c5))]))
    refine own_st (q' := T154.setTop (mkF m 98 #[.val (.int x0), .val (.ref b101), .val (.int (5 : Int32)), .val (.ref c5), .val (.int (1 : Int32))] [(.int (1 : Int32)), (.int (own_var c5 c3 c5))])) (fun _ k => XS.iload X154.here hx rfl (hb hby at_96) rfl k) ?_
    refine own_st (q' := T154.setTop (mkF m 101 #[.val (.int x0), .val (.ref b101), .val (.int (5 : Int32)), .val (.ref c5), .val (.int (1 : Int32))] [])) (fun _ k => XS.icmpNo X154.here hx rfl (hb hby at_98) rfl (teq (by unfold own_var; rw [(if_neg fun q => ne53 (Value.ref.inj q)), if_pos rfl])).2 k) ?_
    refine own_st (q' := T154.setTop (mkF m 102 #[.val (.int x0), .val (.ref b101), .val (.int (5 : Int32)), .val (.ref c5), .val (.int (1 : Int32))] [(.int (1 : Int32))])) (fun _ k => XS.iconst X154.here hx rfl (hb hby at_101) k) ?_
    refine own_st (q' := T154.setTop (mkF m 106 #[.val (.int x0), .val (.ref b101), .val (.int (5 : Int32)), .val (.ref c5), .val (.int (1 : Int32))] [(.int (1 : Int32))])) (fun _ k => XS.goto X154.here hx rfl (pc0 := 102) (pc' := 106) rfl (hb hby at_102) (by decide) (by decide) k) ?_
    exact own_retN X154 hx hlk (t := .boolean) hret (by simp) (hb hby at_106) e154 (by exact ⟨rfl, N154⟩) (by decide) (by decide)
  · skip
    show own_Dn p e below s (fun v h L => v = some (.int 1) ∧ Fr n0 L) room_1.cells room_1.slots (T136.setTop (mkF m 71 #[.val (.int x0), .val (.ref b101), .val (.int (6 : Int32)), .unset, .unset] []))
    refine own_st (q' := T136.setTop (mkF m 72 #[.val (.int x0), .val (.ref b101), .val (.int (6 : Int32)), .unset, .unset] [(.ref b101)])) (fun _ k => XS.aloadN X136.here hx rfl (hb hby at_71) rfl rfl k) ?_
    refine own_st (q' := T136.setTop (mkF m 73 #[.val (.int x0), .val (.ref b101), .val (.int (6 : Int32)), .unset, .unset] [(.int (6 : Int32)), (.ref b101)])) (fun _ k => XS.iloadN X136.here hx rfl (hb hby at_72) rfl k) ?_
    refine own_aaload X136 hx hZ e136 U136 (w := (.ref c6)) (by decide) (by show ((6 : Int32)).toInt < ((9 : Nat) : Int); decide) rfl (g := (mkF m 73 #[.val (.int x0), .val (.ref b101), .val (.int (6 : Int32)), .unset, .unset] [(.int (6 : Int32)), (.ref b101)])) rfl rfl (hb hby at_73) ?_
    show own_Dn p e below s (fun v h L => v = some (.int 1) ∧ Fr n0 L) room_1.cells room_1.slots (T136.setTop (mkF m 74 #[.val (.int x0), .val (.ref b101), .val (.int (6 : Int32)), .unset, .unset] [(.ref c6)]))
    refine own_st (q' := T136.setTop (mkF m 75 #[.val (.int x0), .val (.ref b101), .val (.int (6 : Int32)), .val (.ref c6), .unset] [])) (fun _ k => XS.astoreN X136.here hx rfl (hb hby at_74) rfl rfl (l' := #[.val (.int x0), .val (.ref b101), .val (.int (6 : Int32)), .val (.ref c6), .unset]) rfl k) ?_
    refine own_st (q' := T136.setTop (mkF m 76 #[.val (.int x0), .val (.ref b101), .val (.int (6 : Int32)), .val (.ref c6), .unset] [(.int (6 : Int32))])) (fun _ k => XS.iloadN X136.here hx rfl (hb hby at_75) rfl k) ?_
    refine own_st (q' := T136.setTop (mkF m 77 #[.val (.int x0), .val (.ref b101), .val (.int (6 : Int32)), .val (.ref c6), .unset] [(.int (3 : Int32)), (.int (6 : Int32))])) (fun _ k => XS.iconst X136.here hx rfl (hb hby at_76) k) ?_
    refine own_st (q' := T136.setTop (mkF m 80 #[.val (.int x0), .val (.ref b101), .val (.int (6 : Int32)), .val (.ref c6), .unset] [])) (fun _ k => XS.icmpNo X136.here hx rfl (hb hby at_77) rfl (feq (by decide : ¬ ((6 : Int32) = (3 : Int32)))).1 k) ?_
    refine own_st (q' := T136.setTop (mkF m 81 #[.val (.int x0), .val (.ref b101), .val (.int (6 : Int32)), .val (.ref c6), .unset] [(.int (6 : Int32))])) (fun _ k => XS.iloadN X136.here hx rfl (hb hby at_80) rfl k) ?_
    refine own_st (q' := T136.setTop (mkF m 82 #[.val (.int x0), .val (.ref b101), .val (.int (6 : Int32)), .val (.ref c6), .unset] [(.int (5 : Int32)), (.int (6 : Int32))])) (fun _ k => XS.iconst X136.here hx rfl (hb hby at_81) k) ?_
    refine own_st (q' := T136.setTop (mkF m 89 #[.val (.int x0), .val (.ref b101), .val (.int (6 : Int32)), .val (.ref c6), .unset] [])) (fun _ k => XS.icmpYes X136.here hx rfl (pc0 := 82) (pc' := 89) rfl (hb hby at_82) rfl (feq (by decide : ¬ ((6 : Int32) = (5 : Int32)))).2 (by decide) (by decide) k) ?_
    refine own_st (q' := T136.setTop (mkF m 90 #[.val (.int x0), .val (.ref b101), .val (.int (6 : Int32)), .val (.ref c6), .unset] [(.int (0 : Int32))])) (fun _ k => XS.iconst X136.here hx rfl (hb hby at_89) k) ?_
    refine own_st (q' := T136.setTop (mkF m 92 #[.val (.int x0), .val (.ref b101), .val (.int (6 : Int32)), .val (.ref c6), .val (.int (0 : Int32))] [])) (fun _ k => XS.istore X136.here hx rfl (hb hby at_90) rfl (l' := #[.val (.int x0), .val (.ref b101), .val (.int (6 : Int32)), .val (.ref c6), .val (.int (0 : Int32))]) rfl k) ?_
    refine own_st (q' := T136.setTop (mkF m 93 #[.val (.int x0), .val (.ref b101), .val (.int (6 : Int32)), .val (.ref c6), .val (.int (0 : Int32))] [(.ref c6)])) (fun _ k => XS.aloadN X136.here hx rfl (hb hby at_92) rfl rfl k) ?_
    refine own_callV (y := (⟨"com/example/ashurbanipal/ashurbanipal/row/ValueType", "isVariableLength", "()Z"⟩ : MethodName)) X136 hx hZ hown (hw _ (List.mem_of_getElem? (i := 23) rfl)) (hw _ (List.mem_of_getElem? (i := 24) rfl)) (hw _ (List.mem_of_getElem? (i := 26) rfl)) (hw _ (List.mem_of_getElem? (i := 25) rfl)) (hw _ (List.mem_of_getElem? (i := 3) rfl)) (hw _ (List.mem_of_getElem? (i := 27) rfl)) (by decide) (rm1 l Z a0 hw [] c6 c3 c5 h136 n0 (Nat.le_trans (Nat.le_trans (Nat.le_trans (Nat.le_trans (Nat.le_trans (Nat.le_trans (Nat.le_trans (Nat.le_trans (Nat.le_trans (Nat.le_trans Z0 E101.1) (Keep.of_wr W104).1) (Keep.of_wr W108).1) (Keep.of_wr W112).1) (Keep.of_wr W116).1) (Keep.of_wr W120).1) (Keep.of_wr W124).1) (Keep.of_wr W128).1) (Keep.of_wr W132).1) (Keep.of_wr W136).1) f147 f148) e136 f144 (W := 0) (by decide) (by decide) (by decide) (by decide) (g := (mkF m 93 #[.val (.int x0), .val (.ref b101), .val (.int (6 : Int32)), .val (.ref c6), .val (.int (0 : Int32))] [(.ref c6)])) rfl (by rw [hml]; rfl) (argsL := []) (rest := []) rfl (lenOf pd_0 rfl) rfl (by show 2 * 0 + _ ≤ _; exact Nat.le_of_eq rfl) (hb hby at_93) ?_
    intro v155 T155 L155 hQ155 X155
    obtain ⟨rfl, NN155, e155⟩ := hQ155
    have N155 := Fr.app N136 NN155
    show own_Dn p e below s (fun v h L => v = some (.int 1) ∧ Fr n0 L) room_1.cells room_1.slots (T155.setTop (mkF m 96 #[.val (.int x0), .val (.ref b101), .val (.int (6 : Int32)), .val (.ref c6), .val (.int (0 : Int32))] [(.int (own_var c6 c3 c5))]))
    refine own_st (q' := T155.setTop (mkF m 98 #[.val (.int x0), .val (.ref b101), .val (.int (6 : Int32)), .val (.ref c6), .val (.int (0 : Int32))] [(.int (0 : Int32)), (.int (own_var c6 c3 c5))])) (fun _ k => XS.iload X155.here hx rfl (hb hby at_96) rfl k) ?_
    refine own_st (q' := T155.setTop (mkF m 101 #[.val (.int x0), .val (.ref b101), .val (.int (6 : Int32)), .val (.ref c6), .val (.int (0 : Int32))] [])) (fun _ k => XS.icmpNo X155.here hx rfl (hb hby at_98) rfl (teq (by unfold own_var; rw [(if_neg fun q => ne63 (Value.ref.inj q)), (if_neg fun q => ne65 (Value.ref.inj q))])).2 k) ?_
    refine own_st (q' := T155.setTop (mkF m 102 #[.val (.int x0), .val (.ref b101), .val (.int (6 : Int32)), .val (.ref c6), .val (.int (0 : Int32))] [(.int (1 : Int32))])) (fun _ k => XS.iconst X155.here hx rfl (hb hby at_101) k) ?_
    refine own_st (q' := T155.setTop (mkF m 106 #[.val (.int x0), .val (.ref b101), .val (.int (6 : Int32)), .val (.ref c6), .val (.int (0 : Int32))] [(.int (1 : Int32))])) (fun _ k => XS.goto X155.here hx rfl (pc0 := 102) (pc' := 106) rfl (hb hby at_102) (by decide) (by decide) k) ?_
    exact own_retN X155 hx hlk (t := .boolean) hret (by simp) (hb hby at_106) e155 (by exact ⟨rfl, N155⟩) (by decide) (by decide)
  · skip
    show own_Dn p e below s (fun v h L => v = some (.int 1) ∧ Fr n0 L) room_1.cells room_1.slots (T136.setTop (mkF m 71 #[.val (.int x0), .val (.ref b101), .val (.int (7 : Int32)), .unset, .unset] []))
    refine own_st (q' := T136.setTop (mkF m 72 #[.val (.int x0), .val (.ref b101), .val (.int (7 : Int32)), .unset, .unset] [(.ref b101)])) (fun _ k => XS.aloadN X136.here hx rfl (hb hby at_71) rfl rfl k) ?_
    refine own_st (q' := T136.setTop (mkF m 73 #[.val (.int x0), .val (.ref b101), .val (.int (7 : Int32)), .unset, .unset] [(.int (7 : Int32)), (.ref b101)])) (fun _ k => XS.iloadN X136.here hx rfl (hb hby at_72) rfl k) ?_
    refine own_aaload X136 hx hZ e136 U136 (w := (.ref c7)) (by decide) (by show ((7 : Int32)).toInt < ((9 : Nat) : Int); decide) rfl (g := (mkF m 73 #[.val (.int x0), .val (.ref b101), .val (.int (7 : Int32)), .unset, .unset] [(.int (7 : Int32)), (.ref b101)])) rfl rfl (hb hby at_73) ?_
    show own_Dn p e below s (fun v h L => v = some (.int 1) ∧ Fr n0 L) room_1.cells room_1.slots (T136.setTop (mkF m 74 #[.val (.int x0), .val (.ref b101), .val (.int (7 : Int32)), .unset, .unset] [(.ref c7)]))
    refine own_st (q' := T136.setTop (mkF m 75 #[.val (.int x0), .val (.ref b101), .val (.int (7 : Int32)), .val (.ref c7), .unset] [])) (fun _ k => XS.astoreN X136.here hx rfl (hb hby at_74) rfl rfl (l' := #[.val (.int x0), .val (.ref b101), .val (.int (7 : Int32)), .val (.ref c7), .unset]) rfl k) ?_
    refine own_st (q' := T136.setTop (mkF m 76 #[.val (.int x0), .val (.ref b101), .val (.int (7 : Int32)), .val (.ref c7), .unset] [(.int (7 : Int32))])) (fun _ k => XS.iloadN X136.here hx rfl (hb hby at_75) rfl k) ?_
    refine own_st (q' := T136.setTop (mkF m 77 #[.val (.int x0), .val (.ref b101), .val (.int (7 : Int32)), .val (.ref c7), .unset] [(.int (3 : Int32)), (.int (7 : Int32))])) (fun _ k => XS.iconst X136.here hx rfl (hb hby at_76) k) ?_
    refine own_st (q' := T136.setTop (mkF m 80 #[.val (.int x0), .val (.ref b101), .val (.int (7 : Int32)), .val (.ref c7), .unset] [])) (fun _ k => XS.icmpNo X136.here hx rfl (hb hby at_77) rfl (feq (by decide : ¬ ((7 : Int32) = (3 : Int32)))).1 k) ?_
    refine own_st (q' := T136.setTop (mkF m 81 #[.val (.int x0), .val (.ref b101), .val (.int (7 : Int32)), .val (.ref c7), .unset] [(.int (7 : Int32))])) (fun _ k => XS.iloadN X136.here hx rfl (hb hby at_80) rfl k) ?_
    refine own_st (q' := T136.setTop (mkF m 82 #[.val (.int x0), .val (.ref b101), .val (.int (7 : Int32)), .val (.ref c7), .unset] [(.int (5 : Int32)), (.int (7 : Int32))])) (fun _ k => XS.iconst X136.here hx rfl (hb hby at_81) k) ?_
    refine own_st (q' := T136.setTop (mkF m 89 #[.val (.int x0), .val (.ref b101), .val (.int (7 : Int32)), .val (.ref c7), .unset] [])) (fun _ k => XS.icmpYes X136.here hx rfl (pc0 := 82) (pc' := 89) rfl (hb hby at_82) rfl (feq (by decide : ¬ ((7 : Int32) = (5 : Int32)))).2 (by decide) (by decide) k) ?_
    refine own_st (q' := T136.setTop (mkF m 90 #[.val (.int x0), .val (.ref b101), .val (.int (7 : Int32)), .val (.ref c7), .unset] [(.int (0 : Int32))])) (fun _ k => XS.iconst X136.here hx rfl (hb hby at_89) k) ?_
    refine own_st (q' := T136.setTop (mkF m 92 #[.val (.int x0), .val (.ref b101), .val (.int (7 : Int32)), .val (.ref c7), .val (.int (0 : Int32))] [])) (fun _ k => XS.istore X136.here hx rfl (hb hby at_90) rfl (l' := #[.val (.int x0), .val (.ref b101), .val (.int (7 : Int32)), .val (.ref c7), .val (.int (0 : Int32))]) rfl k) ?_
    refine own_st (q' := T136.setTop (mkF m 93 #[.val (.int x0), .val (.ref b101), .val (.int (7 : Int32)), .val (.ref c7), .val (.int (0 : Int32))] [(.ref c7)])) (fun _ k => XS.aloadN X136.here hx rfl (hb hby at_92) rfl rfl k) ?_
    refine own_callV (y := (⟨"com/example/ashurbanipal/ashurbanipal/row/ValueType", "isVariableLength", "()Z"⟩ : MethodName)) X136 hx hZ hown (hw _ (List.mem_of_getElem? (i := 23) rfl)) (hw _ (List.mem_of_getElem? (i := 24) rfl)) (hw _ (List.mem_of_getElem? (i := 26) rfl)) (hw _ (List.mem_of_getElem? (i := 25) rfl)) (hw _ (List.mem_of_getElem? (i := 3) rfl)) (hw _ (List.mem_of_getElem? (i := 27) rfl)) (by decide) (rm1 l Z a0 hw [] c7 c3 c5 h136 n0 (Nat.le_trans (Nat.le_trans (Nat.le_trans (Nat.le_trans (Nat.le_trans (Nat.le_trans (Nat.le_trans (Nat.le_trans (Nat.le_trans (Nat.le_trans Z0 E101.1) (Keep.of_wr W104).1) (Keep.of_wr W108).1) (Keep.of_wr W112).1) (Keep.of_wr W116).1) (Keep.of_wr W120).1) (Keep.of_wr W124).1) (Keep.of_wr W128).1) (Keep.of_wr W132).1) (Keep.of_wr W136).1) f147 f148) e136 f145 (W := 0) (by decide) (by decide) (by decide) (by decide) (g := (mkF m 93 #[.val (.int x0), .val (.ref b101), .val (.int (7 : Int32)), .val (.ref c7), .val (.int (0 : Int32))] [(.ref c7)])) rfl (by rw [hml]; rfl) (argsL := []) (rest := []) rfl (lenOf pd_0 rfl) rfl (by show 2 * 0 + _ ≤ _; exact Nat.le_of_eq rfl) (hb hby at_93) ?_
    intro v156 T156 L156 hQ156 X156
    obtain ⟨rfl, NN156, e156⟩ := hQ156
    have N156 := Fr.app N136 NN156
    show own_Dn p e below s (fun v h L => v = some (.int 1) ∧ Fr n0 L) room_1.cells room_1.slots (T156.setTop (mkF m 96 #[.val (.int x0), .val (.ref b101), .val (.int (7 : Int32)), .val (.ref c7), .val (.int (0 : Int32))] [(.int (own_var c7 c3 c5))]))
    refine own_st (q' := T156.setTop (mkF m 98 #[.val (.int x0), .val (.ref b101), .val (.int (7 : Int32)), .val (.ref c7), .val (.int (0 : Int32))] [(.int (0 : Int32)), (.int (own_var c7 c3 c5))])) (fun _ k => XS.iload X156.here hx rfl (hb hby at_96) rfl k) ?_
    refine own_st (q' := T156.setTop (mkF m 101 #[.val (.int x0), .val (.ref b101), .val (.int (7 : Int32)), .val (.ref c7), .val (.int (0 : Int32))] [])) (fun _ k => XS.icmpNo X156.here hx rfl (hb hby at_98) rfl (teq (by unfold own_var; rw [(if_neg fun q => ne73 (Value.ref.inj q)), (if_neg fun q => ne75 (Value.ref.inj q))])).2 k) ?_
    refine own_st (q' := T156.setTop (mkF m 102 #[.val (.int x0), .val (.ref b101), .val (.int (7 : Int32)), .val (.ref c7), .val (.int (0 : Int32))] [(.int (1 : Int32))])) (fun _ k => XS.iconst X156.here hx rfl (hb hby at_101) k) ?_
    refine own_st (q' := T156.setTop (mkF m 106 #[.val (.int x0), .val (.ref b101), .val (.int (7 : Int32)), .val (.ref c7), .val (.int (0 : Int32))] [(.int (1 : Int32))])) (fun _ k => XS.goto X156.here hx rfl (pc0 := 102) (pc' := 106) rfl (hb hby at_102) (by decide) (by decide) k) ?_
    exact own_retN X156 hx hlk (t := .boolean) hret (by simp) (hb hby at_106) e156 (by exact ⟨rfl, N156⟩) (by decide) (by decide)
  · skip
    show own_Dn p e below s (fun v h L => v = some (.int 1) ∧ Fr n0 L) room_1.cells room_1.slots (T136.setTop (mkF m 71 #[.val (.int x0), .val (.ref b101), .val (.int (8 : Int32)), .unset, .unset] []))
    refine own_st (q' := T136.setTop (mkF m 72 #[.val (.int x0), .val (.ref b101), .val (.int (8 : Int32)), .unset, .unset] [(.ref b101)])) (fun _ k => XS.aloadN X136.here hx rfl (hb hby at_71) rfl rfl k) ?_
    refine own_st (q' := T136.setTop (mkF m 73 #[.val (.int x0), .val (.ref b101), .val (.int (8 : Int32)), .unset, .unset] [(.int (8 : Int32)), (.ref b101)])) (fun _ k => XS.iloadN X136.here hx rfl (hb hby at_72) rfl k) ?_
    refine own_aaload X136 hx hZ e136 U136 (w := (.ref c8)) (by decide) (by show ((8 : Int32)).toInt < ((9 : Nat) : Int); decide) rfl (g := (mkF m 73 #[.val (.int x0), .val (.ref b101), .val (.int (8 : Int32)), .unset, .unset] [(.int (8 : Int32)), (.ref b101)])) rfl rfl (hb hby at_73) ?_
    show own_Dn p e below s (fun v h L => v = some (.int 1) ∧ Fr n0 L) room_1.cells room_1.slots (T136.setTop (mkF m 74 #[.val (.int x0), .val (.ref b101), .val (.int (8 : Int32)), .unset, .unset] [(.ref c8)]))
    refine own_st (q' := T136.setTop (mkF m 75 #[.val (.int x0), .val (.ref b101), .val (.int (8 : Int32)), .val (.ref c8), .unset] [])) (fun _ k => XS.astoreN X136.here hx rfl (hb hby at_74) rfl rfl (l' := #[.val (.int x0), .val (.ref b101), .val (.int (8 : Int32)), .val (.ref c8), .unset]) rfl k) ?_
    refine own_st (q' := T136.setTop (mkF m 76 #[.val (.int x0), .val (.ref b101), .val (.int (8 : Int32)), .val (.ref c8), .unset] [(.int (8 : Int32))])) (fun _ k => XS.iloadN X136.here hx rfl (hb hby at_75) rfl k) ?_
    refine own_st (q' := T136.setTop (mkF m 77 #[.val (.int x0), .val (.ref b101), .val (.int (8 : Int32)), .val (.ref c8), .unset] [(.int (3 : Int32)), (.int (8 : Int32))])) (fun _ k => XS.iconst X136.here hx rfl (hb hby at_76) k) ?_
    refine own_st (q' := T136.setTop (mkF m 80 #[.val (.int x0), .val (.ref b101), .val (.int (8 : Int32)), .val (.ref c8), .unset] [])) (fun _ k => XS.icmpNo X136.here hx rfl (hb hby at_77) rfl (feq (by decide : ¬ ((8 : Int32) = (3 : Int32)))).1 k) ?_
    refine own_st (q' := T136.setTop (mkF m 81 #[.val (.int x0), .val (.ref b101), .val (.int (8 : Int32)), .val (.ref c8), .unset] [(.int (8 : Int32))])) (fun _ k => XS.iloadN X136.here hx rfl (hb hby at_80) rfl k) ?_
    refine own_st (q' := T136.setTop (mkF m 82 #[.val (.int x0), .val (.ref b101), .val (.int (8 : Int32)), .val (.ref c8), .unset] [(.int (5 : Int32)), (.int (8 : Int32))])) (fun _ k => XS.iconst X136.here hx rfl (hb hby at_81) k) ?_
    refine own_st (q' := T136.setTop (mkF m 89 #[.val (.int x0), .val (.ref b101), .val (.int (8 : Int32)), .val (.ref c8), .unset] [])) (fun _ k => XS.icmpYes X136.here hx rfl (pc0 := 82) (pc' := 89) rfl (hb hby at_82) rfl (feq (by decide : ¬ ((8 : Int32) = (5 : Int32)))).2 (by decide) (by decide) k) ?_
    refine own_st (q' := T136.setTop (mkF m 90 #[.val (.int x0), .val (.ref b101), .val (.int (8 : Int32)), .val (.ref c8), .unset] [(.int (0 : Int32))])) (fun _ k => XS.iconst X136.here hx rfl (hb hby at_89) k) ?_
    refine own_st (q' := T136.setTop (mkF m 92 #[.val (.int x0), .val (.ref b101), .val (.int (8 : Int32)), .val (.ref c8), .val (.int (0 : Int32))] [])) (fun _ k => XS.istore X136.here hx rfl (hb hby at_90) rfl (l' := #[.val (.int x0), .val (.ref b101), .val (.int (8 : Int32)), .val (.ref c8), .val (.int (0 : Int32))]) rfl k) ?_
    refine own_st (q' := T136.setTop (mkF m 93 #[.val (.int x0), .val (.ref b101), .val (.int (8 : Int32)), .val (.ref c8), .val (.int (0 : Int32))] [(.ref c8)])) (fun _ k => XS.aloadN X136.here hx rfl (hb hby at_92) rfl rfl k) ?_
    refine own_callV (y := (⟨"com/example/ashurbanipal/ashurbanipal/row/ValueType", "isVariableLength", "()Z"⟩ : MethodName)) X136 hx hZ hown (hw _ (List.mem_of_getElem? (i := 23) rfl)) (hw _ (List.mem_of_getElem? (i := 24) rfl)) (hw _ (List.mem_of_getElem? (i := 26) rfl)) (hw _ (List.mem_of_getElem? (i := 25) rfl)) (hw _ (List.mem_of_getElem? (i := 3) rfl)) (hw _ (List.mem_of_getElem? (i := 27) rfl)) (by decide) (rm1 l Z a0 hw [] c8 c3 c5 h136 n0 (Nat.le_trans (Nat.le_trans (Nat.le_trans (Nat.le_trans (Nat.le_trans (Nat.le_trans (Nat.le_trans (Nat.le_trans (Nat.le_trans (Nat.le_trans Z0 E101.1) (Keep.of_wr W104).1) (Keep.of_wr W108).1) (Keep.of_wr W112).1) (Keep.of_wr W116).1) (Keep.of_wr W120).1) (Keep.of_wr W124).1) (Keep.of_wr W128).1) (Keep.of_wr W132).1) (Keep.of_wr W136).1) f147 f148) e136 f146 (W := 0) (by decide) (by decide) (by decide) (by decide) (g := (mkF m 93 #[.val (.int x0), .val (.ref b101), .val (.int (8 : Int32)), .val (.ref c8), .val (.int (0 : Int32))] [(.ref c8)])) rfl (by rw [hml]; rfl) (argsL := []) (rest := []) rfl (lenOf pd_0 rfl) rfl (by show 2 * 0 + _ ≤ _; exact Nat.le_of_eq rfl) (hb hby at_93) ?_
    intro v157 T157 L157 hQ157 X157
    obtain ⟨rfl, NN157, e157⟩ := hQ157
    have N157 := Fr.app N136 NN157
    show own_Dn p e below s (fun v h L => v = some (.int 1) ∧ Fr n0 L) room_1.cells room_1.slots (T157.setTop (mkF m 96 #[.val (.int x0), .val (.ref b101), .val (.int (8 : Int32)), .val (.ref c8), .val (.int (0 : Int32))] [(.int (own_var c8 c3 c5))]))
    refine own_st (q' := T157.setTop (mkF m 98 #[.val (.int x0), .val (.ref b101), .val (.int (8 : Int32)), .val (.ref c8), .val (.int (0 : Int32))] [(.int (0 : Int32)), (.int (own_var c8 c3 c5))])) (fun _ k => XS.iload X157.here hx rfl (hb hby at_96) rfl k) ?_
    refine own_st (q' := T157.setTop (mkF m 101 #[.val (.int x0), .val (.ref b101), .val (.int (8 : Int32)), .val (.ref c8), .val (.int (0 : Int32))] [])) (fun _ k => XS.icmpNo X157.here hx rfl (hb hby at_98) rfl (teq (by unfold own_var; rw [(if_neg fun q => ne83 (Value.ref.inj q)), (if_neg fun q => ne85 (Value.ref.inj q))])).2 k) ?_
    refine own_st (q' := T157.setTop (mkF m 102 #[.val (.int x0), .val (.ref b101), .val (.int (8 : Int32)), .val (.ref c8), .val (.int (0 : Int32))] [(.int (1 : Int32))])) (fun _ k => XS.iconst X157.here hx rfl (hb hby at_101) k) ?_
    refine own_st (q' := T157.setTop (mkF m 106 #[.val (.int x0), .val (.ref b101), .val (.int (8 : Int32)), .val (.ref c8), .val (.int (0 : Int32))] [(.int (1 : Int32))])) (fun _ k => XS.goto X157.here hx rfl (pc0 := 102) (pc' := 106) rfl (hb hby at_102) (by decide) (by decide) k) ?_
    exact own_retN X157 hx hlk (t := .boolean) hret (by simp) (hb hby at_106) e157 (by exact ⟨rfl, N157⟩) (by decide) (by decide)
set_option maxRecDepth 65536 in
set_option maxHeartbeats 40000000 in
theorem comes_1 {Post : Tables → Env → Array Value → State → Outcome → State → Prop} (hpost : ∀ tb e args s v u, (limb_1_1.after args s (.returned v) u = true ∧ limb_1_2.after args s (.returned v) u = true ∧ True) → FrameEnd s (.returned v) u (Jvm.fieldLocs frame_1_writes args s ++ Jvm.arrayLocs frame_1_arrays args s ++ Jvm.staticLocs frame_1_statics s) 16 128 → Post tb e args s (.returned v) u) :
    ArmFor flags0 classFile x code maxLocals ret World_1 tables_1 room_1 Calls_1 rest_1 Pre_1 Post := by
  intro l hfl _ _ p e ha hc hk s m args below hf hA hF happ hP
  obtain ⟨hcalls, hrest, hpre⟩ := hP
  obtain ⟨-, -, -, hnamed, -, -, -, hat⟩ := (Spec.applies_iff hf).mp happ
  obtain ⟨hg, hn⟩ := and_e (Cond.before_iff.mp (show (Jvm.Cond.and given_1 narrow_1).before args s = true from hpre))
  obtain ⟨hcount, g0⟩ := and_e hg
  have hi0 := g0
  obtain ⟨w0, rfl⟩ : ∃ w0 : Value, args = #[w0] := by
    have hs : args.size = 1 := by simpa [Cond.value, given_1] using hcount
    obtain ⟨L⟩ := args
    match L, hs with
    | [w0], _ => exact ⟨w0, rfl⟩
  have hw := fun d (hd : d ∈ tables_1) => atoms_spec (ws := Jvm.Cond.code x code maxLocals ret :: tables_1) hat d (List.mem_cons_of_mem _ hd)
  have hfit : Fit s := fun {y c} hc i hi => by
    obtain ⟨ha, rfl⟩ := Array.getElem?_eq_some_iff.mp hc
    have q := List.all_eq_true.mp ((Array.all_eq_true_iff_forall_mem.mp hF) _ (Array.getElem_mem ha)) i (List.mem_range.mpr hi)
    simpa [Array.getElem?_eq_getElem hi] using q
  obtain ⟨i0, ei0⟩ := is_v hi0
  obtain rfl : w0 = (.int i0) := Option.some.inj ei0
  obtain ⟨x0, y0⟩ := and_e hn
  obtain ⟨x1, y1⟩ := and_e y0
  obtain ⟨x2, y2⟩ := and_e y1
  obtain ⟨x3, y3⟩ := and_e y2
  obtain ⟨x4, y4⟩ := and_e y3
  obtain ⟨x5, y5⟩ := and_e y4
  obtain ⟨x6, y6⟩ := and_e y5
  obtain ⟨x7, y7⟩ := and_e y6
  obtain ⟨x8, y8⟩ := and_e y7
  obtain ⟨o0, u0⟩ := and_e y8
  obtain ⟨o3, u1⟩ := and_e u0
  obtain ⟨o5, u2⟩ := and_e u1
  obtain ⟨o2, u3⟩ := and_e u2
  obtain ⟨o1, u4⟩ := and_e u3
  obtain ⟨o7, u5⟩ := and_e u4
  obtain ⟨o4, u6⟩ := and_e u5
  obtain ⟨o8, u7⟩ := and_e u6
  have o6 := u7
  obtain ⟨c0, ev0⟩ := exa_v x0
  have E0 := exa_at ev0 x0
  have S0 := Sta.start ev0 (Or.inr ⟨hw _ (List.mem_of_getElem? (i := 3) rfl), hw _ (List.mem_of_getElem? (i := 4) rfl)⟩)
  have O0 := own_ord ev0 o0
  obtain ⟨c1, ev1⟩ := exa_v x1
  have E1 := exa_at ev1 x1
  have S1 := Sta.start ev1 (Or.inr ⟨hw _ (List.mem_of_getElem? (i := 3) rfl), hw _ (List.mem_of_getElem? (i := 7) rfl)⟩)
  have O1 := own_ord ev1 o1
  obtain ⟨c2, ev2⟩ := exa_v x2
  have E2 := exa_at ev2 x2
  have S2 := Sta.start ev2 (Or.inr ⟨hw _ (List.mem_of_getElem? (i := 3) rfl), hw _ (List.mem_of_getElem? (i := 9) rfl)⟩)
  have O2 := own_ord ev2 o2
  obtain ⟨c3, ev3⟩ := exa_v x3
  have E3 := exa_at ev3 x3
  have S3 := Sta.start ev3 (Or.inr ⟨hw _ (List.mem_of_getElem? (i := 3) rfl), hw _ (List.mem_of_getElem? (i := 11) rfl)⟩)
  have O3 := own_ord ev3 o3
  obtain ⟨c4, ev4⟩ := exa_v x4
  have E4 := exa_at ev4 x4
  have S4 := Sta.start ev4 (Or.inr ⟨hw _ (List.mem_of_getElem? (i := 3) rfl), hw _ (List.mem_of_getElem? (i := 13) rfl)⟩)
  have O4 := own_ord ev4 o4
  obtain ⟨c5, ev5⟩ := exa_v x5
  have E5 := exa_at ev5 x5
  have S5 := Sta.start ev5 (Or.inr ⟨hw _ (List.mem_of_getElem? (i := 3) rfl), hw _ (List.mem_of_getElem? (i := 15) rfl)⟩)
  have O5 := own_ord ev5 o5
  obtain ⟨c6, ev6⟩ := exa_v x6
  have E6 := exa_at ev6 x6
  have S6 := Sta.start ev6 (Or.inr ⟨hw _ (List.mem_of_getElem? (i := 3) rfl), hw _ (List.mem_of_getElem? (i := 17) rfl)⟩)
  have O6 := own_ord ev6 o6
  obtain ⟨c7, ev7⟩ := exa_v x7
  have E7 := exa_at ev7 x7
  have S7 := Sta.start ev7 (Or.inr ⟨hw _ (List.mem_of_getElem? (i := 3) rfl), hw _ (List.mem_of_getElem? (i := 19) rfl)⟩)
  have O7 := own_ord ev7 o7
  obtain ⟨c8, ev8⟩ := exa_v x8
  have E8 := exa_at ev8 x8
  have S8 := Sta.start ev8 (Or.inr ⟨hw _ (List.mem_of_getElem? (i := 3) rfl), hw _ (List.mem_of_getElem? (i := 21) rfl)⟩)
  have O8 := own_ord ev8 o8
  obtain ⟨n, o, h1, h2, h3, _, L, rfl, ⟨rfl, N⟩, hq⟩ := rm0 l s _ hw tables_1 i0 c0 c1 c2 c3 c4 c5 c6 c7 c8 s.heap s.heap.size (Nat.le_refl _) S0 S1 S2 S3 S4 S5 S6 S7 S8 E0 E1 E2 E3 E4 E5 E6 E7 E8 (O0.ne O3 (by decide)) (O0.ne O5 (by decide)) (O1.ne O3 (by decide)) (O1.ne O5 (by decide)) (O2.ne O3 (by decide)) (O2.ne O5 (by decide)) (O3.ne O5 (by decide)) (O4.ne O3 (by decide)) (O4.ne O5 (by decide)) (O5.ne O3 (by decide)) (O6.ne O3 (by decide)) (O6.ne O5 (by decide)) (O7.ne O3 (by decide)) (O7.ne O5 (by decide)) (O8.ne O3 (by decide)) (O8.ne O5 (by decide)) p e ha hc hk s m _ below hf ((Spec.applies_iff_loose hf).mp happ).1 ⟨rfl, State.Warmed39.refl s, rfl⟩ trivial
  refine ⟨n, _, h1, h2, h3, hpost _ _ _ _ _ _ ⟨Cond.after_iff.mpr rfl, Cond.after_iff.mpr (eq_i res_at (Term.int_eval (1)) rfl), trivial⟩ ⟨hq.1, hq.2.1, (hq.2.2.sift fun y hy => Or.inr (N y hy)).mono (by decide) (by decide)⟩⟩
theorem main_1_1 : Claimed_1_1 := comes_1 fun _ _ _ _ _ _ h hF => ⟨h.1, hF⟩
theorem main_1_2 : Claimed_1_2 := comes_1 fun _ _ _ _ _ _ h hF => ⟨h.2.1, hF⟩
end Jvm.Pilot.@@N@@
namespace Jvm.Pilot.@@N@@
open Jvm Jvm.ClassFile Sem Op Lib Jvm.Free Jvm.Stand Jvm.Pilot.@@N@@.Jvm.D
/-! MADE BY PROGRAM (witnessworld.py) out of the Statement's table words and the real class files: 13 classes; the members and pool entries that the words name. The judged class is class 1, her method 1. -/
namespace start1
open Jvm.ClassFile
def u (s : String) : CpInfo := .utf8 (stringToUtf16 s)
/-- a pool by its gaps: so many unusable entries, then the entry; so many at the end -/
def gap : Nat → List CpInfo → List CpInfo
  | 0, r => r
  | n + 1, r => .unusable :: gap n r
def poolList (es : List (Nat × CpInfo)) (last : Nat) : List CpInfo := es.foldr (fun e r => gap e.1 (e.2 :: r)) (gap last [])
def pool (es : List (Nat × CpInfo)) (last : Nat) : Array CpInfo := ⟨poolList es last⟩
def fileOf (pool : Array CpInfo) (this : Nat) (attrs : Array Attribute := #[]) (ms : Array MethodInfo := #[]) (fl : Nat := 33) (sup : Nat := 0) (ifs : Array Nat := #[]) (fds : Array FieldInfo := #[]) : ClassFile where
  minorVersion := 0
  majorVersion := 65
  constantPool := pool
  accessFlags := fl
  thisClass := this
  superClass := sup
  interfaces := ifs
  fields := fds
  methods := ms
  attributes := attrs
def plain (name : String) (sup : Option ClassId) : Class where
  name := name
  kind := .ordinary
  loader := none
  accessFlags := 33
  super := sup
  interfaces := #[]
  cf := none
  fields := #[]
  methods := #[]
  instanceTypes := #[]
  staticTypes := #[]
  resolved := #[]
  callSites := []
  init := .initialized
  statics := none
  mirror := none

def pool0 : Array CpInfo := pool [(5, u "<init>"), (0, u "()V"), (1, .class_ 10), (1, u "java/lang/Object")] 113

def k0m0 : Method := { name := "<init>", desc := "()V", sig := { parameters := [], returnType := none }, accessFlags := 1, code := none }
/-- java/lang/Object -/
def k0 : Class := { plain "java/lang/Object" none with
  accessFlags := 33
  interfaces := #[]
  cf := some (fileOf pool0 8 #[] #[{ accessFlags := 1, nameIndex := 5, descriptorIndex := 6, attributes := #[] }] 33 0 #[] #[])
  fields := #[]
  methods := #[k0m0]
  instanceTypes := #[]
  staticTypes := #[]
  resolved := Array.replicate 124 none
  statics := none }

def pool1 : Array CpInfo := pool [(2, .class_ 4), (1, u "java/lang/Object"), (0, u "<init>"), (0, u "()V"), (0, .class_ 8), (0, u "com/example/ashurbanipal/ashurbanipal/row/ValueType"), (0, .fieldref 7 10), (0, .nameAndType 11 12), (0, u "INTEGER"), (0, u "Lcom/example/ashurbanipal/ashurbanipal/row/ValueType;"), (0, .fieldref 7 14), (0, .nameAndType 15 12), (0, u "DOUBLE"), (0, .fieldref 7 17), (0, .nameAndType 18 12), (0, u "BOOLEAN"), (0, .fieldref 7 20), (0, .nameAndType 21 12), (0, u "STRING"), (0, .fieldref 7 23), (0, .nameAndType 24 12), (0, u "NULL"), (0, .fieldref 7 26), (0, .nameAndType 27 12), (0, u "BINARY"), (0, .fieldref 7 29), (0, .nameAndType 30 12), (0, u "INF_MIN"), (0, .fieldref 7 32), (0, .nameAndType 33 12), (0, u "INF_MAX"), (0, .fieldref 7 35), (0, .nameAndType 36 12), (0, u "AUTO_INCREMENT"), (0, .integer 2147483647), (0, .methodref 7 39), (0, .nameAndType 40 41), (0, u "isVariableLength"), (0, u "()Z"), (0, .class_ 43), (0, u "com/example/ashurbanipal/ashurbanipal/row/ValueTypeIsVariableLengthPinLaw"), (2, u "law"), (0, u "(I)Z")] 5

def k1m0 : Method := { name := "<init>", desc := "()V", sig := { parameters := [], returnType := none }, accessFlags := 2, code := none }
def k1c1 : Code := { maxStack := 4, maxLocals := 5, code := code, exceptionTable := #[], attributes := #[] }
def k1m1 : Method := { name := "law", desc := "(I)Z", sig := { parameters := [.int], returnType := some .boolean }, accessFlags := 9, code := some k1c1 }
/-- com/example/ashurbanipal/ashurbanipal/row/ValueTypeIsVariableLengthPinLaw -/
def k1 : Class := { plain "com/example/ashurbanipal/ashurbanipal/row/ValueTypeIsVariableLengthPinLaw" (some 0) with
  accessFlags := 49
  interfaces := #[]
  cf := some (fileOf pool1 42 #[] #[{ accessFlags := 2, nameIndex := 5, descriptorIndex := 6, attributes := #[] }, { accessFlags := 9, nameIndex := 46, descriptorIndex := 47, attributes := #[] }] 49 2 #[] #[])
  fields := #[]
  methods := #[k1m0, k1m1]
  instanceTypes := #[]
  staticTypes := #[]
  resolved := Array.replicate 53 none
  statics := none }

def pool2 : Array CpInfo := pool [(1, .class_ 2), (0, u "java/lang/constant/Constable"), (0, .class_ 4), (0, u "java/lang/Object")] 6

/-- java/lang/constant/Constable -/
def k2 : Class := { plain "java/lang/constant/Constable" (some 0) with
  accessFlags := 1537
  interfaces := #[]
  cf := some (fileOf pool2 1 #[] #[] 1537 3 #[] #[])
  fields := #[]
  methods := #[]
  instanceTypes := #[]
  staticTypes := #[]
  resolved := Array.replicate 11 none
  statics := none }

def pool3 : Array CpInfo := pool [(1, .class_ 2), (0, u "java/lang/Comparable"), (0, .class_ 4), (0, u "java/lang/Object")] 7

/-- java/lang/Comparable -/
def k3 : Class := { plain "java/lang/Comparable" (some 0) with
  accessFlags := 1537
  interfaces := #[]
  cf := some (fileOf pool3 1 #[] #[] 1537 3 #[] #[])
  fields := #[]
  methods := #[]
  instanceTypes := #[]
  staticTypes := #[]
  resolved := Array.replicate 12 none
  statics := none }

def pool4 : Array CpInfo := pool [(1, .class_ 2), (0, u "java/io/Serializable"), (0, .class_ 4), (0, u "java/lang/Object")] 2

/-- java/io/Serializable -/
def k4 : Class := { plain "java/io/Serializable" (some 0) with
  accessFlags := 1537
  interfaces := #[]
  cf := some (fileOf pool4 1 #[] #[] 1537 3 #[] #[])
  fields := #[]
  methods := #[]
  instanceTypes := #[]
  staticTypes := #[]
  resolved := Array.replicate 7 none
  statics := none }

def pool5 : Array CpInfo := pool [(2, .class_ 4), (1, u "java/lang/Enum"), (0, u "name"), (0, u "Ljava/lang/String;"), (2, u "ordinal"), (0, u "I"), (1, .class_ 14), (1, u "java/lang/Object"), (4, u "hash"), (86, .class_ 108), (1, u "java/lang/Enum$EnumDesc"), (2, .class_ 112), (0, u "java/lang/constant/Constable"), (0, .class_ 114), (0, u "java/lang/Comparable"), (0, .class_ 116), (0, u "java/io/Serializable")] 87

/-- java/lang/Enum -/
def k5 : Class := { plain "java/lang/Enum" (some 0) with
  accessFlags := 1057
  interfaces := #[2, 3, 4]
  cf := some (fileOf pool5 2 #[.nestMembers #[106]] #[] 1057 12 #[111, 113, 115] #[{ accessFlags := 18, nameIndex := 5, descriptorIndex := 6, attributes := #[] }, { accessFlags := 18, nameIndex := 9, descriptorIndex := 10, attributes := #[] }, { accessFlags := 2, nameIndex := 19, descriptorIndex := 10, attributes := #[] }])
  fields := #[{ name := "name", type := (.object "java/lang/String"), accessFlags := 18, slot := 0, constantValue := 0 }, { name := "ordinal", type := .int, accessFlags := 18, slot := 1, constantValue := 0 }, { name := "hash", type := .int, accessFlags := 2, slot := 2, constantValue := 0 }]
  methods := #[]
  instanceTypes := #[(.object "java/lang/String"), .int, .int]
  staticTypes := #[]
  resolved := Array.replicate 204 none
  statics := none }

def pool6 : Array CpInfo := pool [(1, .class_ 2), (0, u "com/example/ashurbanipal/ashurbanipal/row/ValueType"), (2, u "INTEGER"), (0, u "Lcom/example/ashurbanipal/ashurbanipal/row/ValueType;"), (2, u "DOUBLE"), (2, u "BOOLEAN"), (0, .fieldref 1 14), (0, .nameAndType 15 6), (0, u "STRING"), (2, u "NULL"), (0, .fieldref 1 20), (0, .nameAndType 21 6), (0, u "BINARY"), (2, u "INF_MIN"), (2, u "INF_MAX"), (2, u "AUTO_INCREMENT"), (2, u "$VALUES"), (0, u "[Lcom/example/ashurbanipal/ashurbanipal/row/ValueType;"), (6, .class_ 43), (1, u "java/lang/Enum"), (8, u "code"), (0, u "I"), (2, u "BY_CODE"), (44, u "isVariableLength"), (0, u "()Z")] 24

def k6c0 : Code := { maxStack := 2, maxLocals := 1, code := prog_19_method_5_code, exceptionTable := #[], attributes := #[] }
def k6m0 : Method := { name := "isVariableLength", desc := "()Z", sig := { parameters := [], returnType := some .boolean }, accessFlags := 1, code := some k6c0 }
/-- com/example/ashurbanipal/ashurbanipal/row/ValueType -/
def k6 : Class := { plain "com/example/ashurbanipal/ashurbanipal/row/ValueType" (some 5) with
  accessFlags := 16433
  interfaces := #[]
  cf := some (fileOf pool6 1 #[] #[{ accessFlags := 1, nameIndex := 101, descriptorIndex := 102, attributes := #[] }] 16433 41 #[] #[{ accessFlags := 16409, nameIndex := 5, descriptorIndex := 6, attributes := #[] }, { accessFlags := 16409, nameIndex := 9, descriptorIndex := 6, attributes := #[] }, { accessFlags := 16409, nameIndex := 12, descriptorIndex := 6, attributes := #[] }, { accessFlags := 16409, nameIndex := 15, descriptorIndex := 6, attributes := #[] }, { accessFlags := 16409, nameIndex := 18, descriptorIndex := 6, attributes := #[] }, { accessFlags := 16409, nameIndex := 21, descriptorIndex := 6, attributes := #[] }, { accessFlags := 16409, nameIndex := 24, descriptorIndex := 6, attributes := #[] }, { accessFlags := 16409, nameIndex := 27, descriptorIndex := 6, attributes := #[] }, { accessFlags := 16409, nameIndex := 30, descriptorIndex := 6, attributes := #[] }, { accessFlags := 26, nameIndex := 56, descriptorIndex := 34, attributes := #[] }, { accessFlags := 18, nameIndex := 52, descriptorIndex := 53, attributes := #[] }, { accessFlags := 4122, nameIndex := 33, descriptorIndex := 34, attributes := #[] }])
  fields := #[{ name := "INTEGER", type := (.object "com/example/ashurbanipal/ashurbanipal/row/ValueType"), accessFlags := 16409, slot := 0, constantValue := 0 }, { name := "DOUBLE", type := (.object "com/example/ashurbanipal/ashurbanipal/row/ValueType"), accessFlags := 16409, slot := 1, constantValue := 0 }, { name := "BOOLEAN", type := (.object "com/example/ashurbanipal/ashurbanipal/row/ValueType"), accessFlags := 16409, slot := 2, constantValue := 0 }, { name := "STRING", type := (.object "com/example/ashurbanipal/ashurbanipal/row/ValueType"), accessFlags := 16409, slot := 3, constantValue := 0 }, { name := "NULL", type := (.object "com/example/ashurbanipal/ashurbanipal/row/ValueType"), accessFlags := 16409, slot := 4, constantValue := 0 }, { name := "BINARY", type := (.object "com/example/ashurbanipal/ashurbanipal/row/ValueType"), accessFlags := 16409, slot := 5, constantValue := 0 }, { name := "INF_MIN", type := (.object "com/example/ashurbanipal/ashurbanipal/row/ValueType"), accessFlags := 16409, slot := 6, constantValue := 0 }, { name := "INF_MAX", type := (.object "com/example/ashurbanipal/ashurbanipal/row/ValueType"), accessFlags := 16409, slot := 7, constantValue := 0 }, { name := "AUTO_INCREMENT", type := (.object "com/example/ashurbanipal/ashurbanipal/row/ValueType"), accessFlags := 16409, slot := 8, constantValue := 0 }, { name := "BY_CODE", type := (.array (.object "com/example/ashurbanipal/ashurbanipal/row/ValueType")), accessFlags := 26, slot := 9, constantValue := 0 }, { name := "code", type := .int, accessFlags := 18, slot := 3, constantValue := 0 }, { name := "$VALUES", type := (.array (.object "com/example/ashurbanipal/ashurbanipal/row/ValueType")), accessFlags := 4122, slot := 10, constantValue := 0 }]
  methods := #[k6m0]
  instanceTypes := #[(.object "java/lang/String"), .int, .int, .int]
  staticTypes := #[(.object "com/example/ashurbanipal/ashurbanipal/row/ValueType"), (.object "com/example/ashurbanipal/ashurbanipal/row/ValueType"), (.object "com/example/ashurbanipal/ashurbanipal/row/ValueType"), (.object "com/example/ashurbanipal/ashurbanipal/row/ValueType"), (.object "com/example/ashurbanipal/ashurbanipal/row/ValueType"), (.object "com/example/ashurbanipal/ashurbanipal/row/ValueType"), (.object "com/example/ashurbanipal/ashurbanipal/row/ValueType"), (.object "com/example/ashurbanipal/ashurbanipal/row/ValueType"), (.object "com/example/ashurbanipal/ashurbanipal/row/ValueType"), (.array (.object "com/example/ashurbanipal/ashurbanipal/row/ValueType")), (.array (.object "com/example/ashurbanipal/ashurbanipal/row/ValueType"))]
  resolved := Array.replicate 127 none
  statics := some 0 }

def pool7 : Array CpInfo := pool [(1, u "java/lang/Cloneable"), (0, .class_ 1), (0, u "java/lang/Object"), (0, .class_ 3)] 3

/-- java/lang/Cloneable -/
def k7 : Class := { plain "java/lang/Cloneable" (some 0) with
  accessFlags := 1537
  interfaces := #[]
  cf := some (fileOf pool7 2 #[] #[] 1537 4 #[] #[])
  fields := #[]
  methods := #[]
  instanceTypes := #[]
  staticTypes := #[]
  resolved := Array.replicate 8 none
  statics := none }

/-- the primitive byte -/
def k8 : Class := { plain "byte" none with kind := .primitive 'B', accessFlags := 0x411 }
/-- [B -/
def k9 : Class := { plain "[B" (some 0) with kind := .array 8 .byte, interfaces := #[7, 4], accessFlags := 1041 }

/-- the primitive int -/
def k10 : Class := { plain "int" none with kind := .primitive 'I', accessFlags := 0x411 }
/-- [I -/
def k11 : Class := { plain "[I" (some 0) with kind := .array 10 .int, interfaces := #[7, 4], accessFlags := 1041 }

/-- [Lcom/example/ashurbanipal/ashurbanipal/row/ValueType; -/
def k12 : Class := { plain "[Lcom/example/ashurbanipal/ashurbanipal/row/ValueType;" (some 0) with kind := .array 6 (.object "com/example/ashurbanipal/ashurbanipal/row/ValueType"), interfaces := #[7, 4], accessFlags := 1041 }

def heap : Heap := #[{ cls := 6, slots := #[.ref 1, .ref 2, .ref 3, .ref 4, .ref 5, .ref 6, .ref 7, .ref 8, .ref 9, .null, .null], vm := .statics 6 },
  { cls := 6, slots := #[.null, .int 0, .int 0, .int 0], vm := .none },
  { cls := 6, slots := #[.null, .int 1, .int 0, .int 1], vm := .none },
  { cls := 6, slots := #[.null, .int 2, .int 0, .int 2], vm := .none },
  { cls := 6, slots := #[.null, .int 3, .int 0, .int 3], vm := .none },
  { cls := 6, slots := #[.null, .int 4, .int 0, .int 4], vm := .none },
  { cls := 6, slots := #[.null, .int 5, .int 0, .int 5], vm := .none },
  { cls := 6, slots := #[.null, .int 6, .int 0, .int 6], vm := .none },
  { cls := 6, slots := #[.null, .int 7, .int 0, .int 7], vm := .none },
  { cls := 6, slots := #[.null, .int 8, .int 0, .int 8], vm := .none }]
def classes : Array Class := #[k0, k1, k2, k3, k4, k5, k6, k7, k8, k9, k10, k11, k12]
def interned : List (Array UInt16 × Addr) := []
def slotsUsed : Nat := 47
def theMethod : MethodId := ⟨1, 1⟩
def args0 : Array Value := #[.int 5]
def aboutOver (below : List Frame) : State where
  vm := { classes := classes, interned := interned.toArray }
  heap := heap
  slotsUsed := slotsUsed
  threads := #[{ frames := .invoking theMethod args0 :: below }]
def below0 : List Frame := [.native { method := ⟨0, 0⟩, args := #[] }]
def about1 : State := aboutOver below0
def p0 : Program := .bare "" "" ""
def e0 : Env := launch0.env 0 0 0
theorem w_frames : about1.frames = Frame.invoking theMethod args0 :: below0 := rfl
set_option maxRecDepth 65536 in
theorem w_args : argsFit about1.vm theMethod args0 = true := by decide +kernel
set_option maxRecDepth 65536 in
theorem w_heap : heapFits about1 = true := by decide +kernel
set_option maxRecDepth 65536 in
theorem w_runnable : about1.curStatus? = some .runnable := by decide +kernel
set_option maxRecDepth 65536 in
theorem w_alone : about1.alone = true := by decide +kernel
set_option maxRecDepth 65536 in
theorem w_named : about1.methodNamed? x = some theMethod := by decide +kernel
set_option maxRecDepth 65536 in
theorem w_hears : about1.hears theMethod below0 = true := by decide +kernel
set_option maxRecDepth 65536 in
theorem w_ripe : about1.ripe theMethod args0 below0 = true := by decide +kernel
theorem w_running : about1.status = .running := rfl
set_option maxRecDepth 65536 in
theorem w_room : about1.hasRoom e0.platform room_1 = true :=
  launch0.hasRoom_least _ room_1 (by decide +kernel) (by decide +kernel) (by decide +kernel) (by decide +kernel) (by decide +kernel) (by decide +kernel)
theorem allAtoms_all (ts : List Jvm.Cond) (a : Array Jvm.Value) (st : Jvm.State) : (allAtoms ts).before a st = ts.all (fun c => c.before a st) := by
  induction ts with
  | nil => rfl
  | cons c t ih =>
    show (Jvm.Cond.and c (allAtoms t)).before a st = _
    rw [Jvm.Cond.before_and, ih, List.all_cons]
def words1 : List Jvm.Cond := Jvm.Cond.code x code maxLocals ret :: tables_1
/-- a 'code' word, met by the world's own term for the bytes: nothing is compared byte by byte -/
theorem code_word {y : MethodName} {bytes : ByteArray} {mx : Nat} {rt : Option FieldType} {a : Array Value} {s : State} {m : MethodId} {meth : Method} {c : Code} (h1 : s.methodNamed? y = some m) (h2 : s.vm.method? m = some meth) (h3 : meth.code = some c) (h4 : c.code = bytes)
    (h5 : (c.maxLocals == mx && c.exceptionTable.isEmpty && decide (c.maxStack ≤ mostOperands) && decide (meth.sig.returnType = rt) && !meth.locks && decide (parseMethodDescriptor y.desc = some meth.sig)) = true) : (Jvm.Cond.code y bytes mx rt).before a s = true := by
  simp only [Bool.and_eq_true, beq_iff_eq, Bool.not_eq_true', decide_eq_true_eq] at h5
  obtain ⟨⟨⟨⟨⟨g1, g2⟩, g3⟩, g4⟩, g5⟩, g6⟩ := h5
  simp [Cond.before, Cond.holds, Cond.value, h1, h2, h3, h4, g1, g2, g3, g4, g5, g6]
def isCode : Jvm.Cond → Bool
  | .code _ _ _ _ => true
  | _ => false
theorem all_split {L : List Jvm.Cond} {P : Jvm.Cond → Bool} (h1 : L.all (fun c => isCode c || P c) = true) (h2 : ∀ c ∈ L.filter isCode, P c = true) : L.all P = true := by
  refine List.all_eq_true.mpr fun c hc => ?_
  have h := List.all_eq_true.mp h1 c hc
  rcases Bool.eq_false_or_eq_true (isCode c) with hi | hi
  · exact h2 c (List.mem_filter.mpr ⟨hc, hi⟩)
  · simpa [hi] using h
set_option maxRecDepth 65536 in
theorem w_c0 : (Jvm.Cond.code x code maxLocals ret).before args0 about1 = true := code_word (m := ⟨1, 1⟩) (meth := k1m1) (c := k1c1) (by decide +kernel) rfl rfl rfl (by decide +kernel)
set_option maxRecDepth 65536 in
theorem w_c1 : (Jvm.Cond.code ({ cls := "com/example/ashurbanipal/ashurbanipal/row/ValueType", name := "isVariableLength", desc := "()Z" } : Jvm.MethodName) prog_19_method_5_code (1 : Nat) (Option.some Jvm.ClassFile.FieldType.boolean)).before args0 about1 = true := code_word (m := ⟨6, 0⟩) (meth := k6m0) (c := k6c0) (by decide +kernel) rfl rfl rfl (by decide +kernel)
def codes1 : List Jvm.Cond := [Jvm.Cond.code x code maxLocals ret, Jvm.Cond.code ({ cls := "com/example/ashurbanipal/ashurbanipal/row/ValueType", name := "isVariableLength", desc := "()Z" } : Jvm.MethodName) prog_19_method_5_code (1 : Nat) (Option.some Jvm.ClassFile.FieldType.boolean)]
set_option maxRecDepth 65536 in
theorem codes_eq : words1.filter isCode = codes1 := rfl
theorem w_codes : ∀ c ∈ words1.filter isCode, c.before args0 about1 = true := by
  rw [codes_eq]
  intro c hc
  simp only [codes1, List.mem_cons, List.not_mem_nil, or_false] at hc
  rcases hc with rfl | rfl
  · exact w_c0
  · exact w_c1
set_option maxRecDepth 65536 in
theorem w_t1 : (words1.take 24).all (fun c => isCode c || c.before args0 about1) = true := by decide +kernel
set_option maxRecDepth 65536 in
theorem w_t2 : (words1.drop 24).all (fun c => isCode c || c.before args0 about1) = true := by decide +kernel
theorem w_tables : (allAtoms (Jvm.Cond.code x code maxLocals ret :: tables_1)).before args0 about1 = true := by
  rw [allAtoms_all]
  show words1.all (fun c => c.before args0 about1) = true
  refine all_split ?_ w_codes
  rw [← List.take_append_drop 24 words1, List.all_append, w_t1, w_t2]
  rfl
set_option maxRecDepth 65536 in
theorem w_case : (Jvm.Cond.and given_1 narrow_1).before args0 about1 = true := by decide +kernel
theorem w_applies : (headSpec (Jvm.Cond.code x code maxLocals ret :: tables_1) room_1).applies x e0.platform about1 = true :=
  (Spec.applies_iff w_frames).mpr ⟨w_running, w_runnable, w_alone, w_named, w_hears, w_ripe, w_room, w_tables⟩
theorem atStart : AtStart classFile x code maxLocals ret World_1 tables_1 room_1 Calls_1 rest_1 Pre_1 launch0 p0 e0 about1 theMethod args0 below0 :=
  ⟨lists_1, trivial, launch0.admits_env _ _ _, launch0.least_env, fairChoices_fair.cas, fairChoices_fair.clock, w_frames, w_args, w_heap, w_applies, trivial, trivial, w_case⟩
end start1
theorem witness_1 : WitnessClaimed_1 := ⟨start1.p0, start1.e0, start1.about1, start1.theMethod, start1.args0, start1.below0, start1.atStart⟩
end Jvm.Pilot.@@N@@
