import JvmDerived
import JvmDerived.Pilot.@@N@@Statement
import JvmDerived.Pilot.@@N@@Code
set_option linter.unusedVariables false
set_option linter.unusedSimpArgs false
namespace Jvm.RoadKit
open Sem ClassFile Op Lib Jvm.Stand Jvm.Free Jvm.LawKit
section New
variable {p : Program} {l : Launch} {e : Env} {R : Room} {s : State} {m : MethodId} {args : Array Value} {below : List Frame} {meth : Method} {c : Code} {T : State} {locs : List Loc} {cells slots : Nat}
theorem retI (X : Stand p l e R s m args below meth c T locs cells slots) (hx : p.tables.exec = Jvm.exec) {pc : Nat} {Ls : Array Slot} {z : Int32} {rest : List Value} (hret : meth.sig.returnType = some .int) (hd : decode c.code pc = .ok (.ireturn, 1)) {fs : List Frame}
    (hl : ∀ (f : JFrame) (acts : List Action), f.method = m → f.locked = none → f.entered = [] → (doReturn e (T.setTop f) acts (some (.int z))).1 = T.setFrames fs) : Steps p.tables e below (T.setTop (mkF m pc Ls (.int z :: rest))) (T.setFrames fs) := by
  have hm' : T.vm.method? m = some meth := X.method'
  have hn : narrow .int (.int z) = .int z := rfl
  show Steps p.tables e below (T.setTop { method := m, pc := pc, locals := Ls, stack := _ :: rest, locked := none }) _
  jvm_step X.here [X.here.top, hx, hd, hm', hret, hn]
  first | (intro acts; rw [hl _ acts rfl rfl rfl]) | rw [hl _ _ rfl rfl rfl]
  exact Steps.refl _
end New
end Jvm.RoadKit
namespace Jvm.Pilot.@@N@@
open Jvm Jvm.ClassFile Sem Op Lib Jvm.Free Jvm.Stand Jvm.LawKit Jvm.RoadKit Bundle Jvm.Pilot.@@N@@.Jvm.D
section Own
variable {p : Program} {l : Launch} {e : Env} {R : Room} {s : State} {m : MethodId} {args : Array Value} {below : List Frame} {meth : Method} {c : Code} {T : State} {locs : List Loc} {cells slots : Nat} {Q : Option Value → Heap → List Loc → Prop} {nc ns : Nat}
/-- from here the run comes to an end of which Q speaks -/
def own_Dn (p : Program) (e : Env) (below : List Frame) (s : State) (Q : Option Value → Heap → List Loc → Prop) (nc ns : Nat) (q : State) : Prop :=
  ∃ t o, Steps p.tables e below q t ∧ t.status = .running ∧ Ended t below o ∧ ∃ v L, o = .returned v ∧ Q v t.heap L ∧ FrameEnd s o t L nc ns
theorem own_st {q q' : State} (h : ∀ t, Steps p.tables e below q' t → Steps p.tables e below q t) (d : own_Dn p e below s Q nc ns q') : own_Dn p e below s Q nc ns q := by
  obtain ⟨t, o, h1, r⟩ := d
  exact ⟨t, o, h _ h1, r⟩
/-- a body's contract -/
def own_Met (l : Launch) (Z : State) (y : MethodName) (ws : List Jvm.Cond) (bytes : ByteArray) (maxL : Nat) (ret : Option FieldType) (rm : Room) (as : Array Value) (h0 : Heap) (Q : Option Value → Heap → List Loc → Prop) : Prop :=
  MetFree l y (head1 (Jvm.Cond.code y bytes maxL ret :: ws) rm) (fun a U => a = as ∧ Z.Warmed39 U.vm ∧ U.heap = h0) (fun _ _ _ _ _ => True) (fun _ U o U' => ∃ v L, o = .returned v ∧ Q v U'.heap L ∧ FrameEnd U o U' L rm.cells rm.slots)
theorem own_body {Z : State} {y : MethodName} {ws : List Jvm.Cond} {bytes : ByteArray} {maxL : Nat} {ret : Option FieldType} {rm : Room} {as : Array Value} {h0 : Heap} (hp : plainFor y = true)
    (body : ∀ p e s m below meth c s₁, p.tables.exec = Jvm.exec → c.code = bytes → c.maxLocals = maxL → s.vm.findClass y.cls = some m.cls → meth.name = y.name → meth.sig.returnType = ret → meth.locks = false → Z.Warmed39 s.vm → Stand p l e rm s m as below meth c s₁ [] 0 0 → s₁.heap = h0 → own_Dn p e below s Q rm.cells rm.slots (s₁.setTop (entryFrame m as maxL))) :
    own_Met l Z y ws bytes maxL ret rm as h0 Q := by
  refine MetFree.of_bodySF hp hisR ?_
  intro p e s m args below meth c s₁ Bd hml0 hP hK
  obtain ⟨rfl, hZ, hh⟩ := hP
  exact body p e s m below meth c s₁ Bd.exec Bd.bytes hml0 (findClass_of_methodNamed Bd.named) (name_of_methodNamed Bd.named Bd.method).1 Bd.returns Bd.notSynchronized hZ (Stand.of_body Bd) (by rw [← hh, Bd.state]; rfl)
theorem own_entry {m : MethodId} {as : Array Value} {maxL : Nat} {g : JFrame} (q : entryFrame m as maxL = g) (d : own_Dn p e below s Q nc ns (T.setTop g)) : own_Dn p e below s Q nc ns (T.setTop (entryFrame m as maxL)) := q ▸ d
theorem own_retI (X : Stand p l e R s m args below meth c T locs cells slots) (hx : p.tables.exec = Jvm.exec) (hlk : meth.locks = false) {pc : Nat} {Ls : Array Slot} {z : Int32} {rest : List Value} (hret : meth.sig.returnType = some .int) (hd : decode c.code pc = .ok (.ireturn, 1)) {h : Heap} (eT : T.heap = h) (hQ : Q (some (.int z)) h locs) (hc : cells ≤ nc) (hs : slots ≤ ns) :
    own_Dn p e below s Q nc ns (T.setTop (mkF m pc Ls (.int z :: rest))) := by
  obtain ⟨fs, hr, hrun, hended, hW, hsame⟩ := X.leave (v := some (.int z)) (fun h => by rw [hret] at h; cases h) hlk
  subst eT
  exact ⟨_, _, retI X hx hret hd hr, hrun, hended, _, _, rfl, hQ, ⟨_, rfl⟩, hW, hsame.mono hc hs⟩
theorem own_retN (X : Stand p l e R s m args below meth c T locs cells slots) (hx : p.tables.exec = Jvm.exec) (hlk : meth.locks = false) {t : FieldType} {pc : Nat} {Ls : Array Slot} {z : Int32} {rest : List Value} (hret : meth.sig.returnType = some t) (ht : t = .boolean ∨ t = .byte ∨ t = .char ∨ t = .short) (hd : decode c.code pc = .ok (.ireturn, 1)) {h : Heap} (eT : T.heap = h) (hQ : Q (some (.int (nar t z))) h locs) (hc : cells ≤ nc) (hs : slots ≤ ns) :
    own_Dn p e below s Q nc ns (T.setTop (mkF m pc Ls (.int z :: rest))) := by
  obtain ⟨fs, hr, hrun, hended, hW, hsame⟩ := X.leave (v := some (.int (nar t z))) (fun h => by rw [hret] at h; cases h) hlk
  subst eT
  exact ⟨_, _, retN X hx hret ht hd hr, hrun, hended, _, _, rfl, hQ, ⟨_, rfl⟩, hW, hsame.mono hc hs⟩
theorem own_retV (X : Stand p l e R s m args below meth c T locs cells slots) (hx : p.tables.exec = Jvm.exec) (hlk : meth.locks = false) {pc : Nat} {Ls : Array Slot} (hret : meth.sig.returnType = none) (hd : decode c.code pc = .ok (.return_, 1)) {h : Heap} (eT : T.heap = h) (hQ : Q none h locs) (hc : cells ≤ nc) (hs : slots ≤ ns) :
    own_Dn p e below s Q nc ns (T.setTop (mkF m pc Ls [])) := by
  obtain ⟨fs, hr, hrun, hended, hW, hsame⟩ := X.leave (v := none) (fun _ => rfl) hlk
  subst eT
  exact ⟨_, _, X.returnOut hx hret hd hr, hrun, hended, _, _, rfl, hQ, ⟨_, rfl⟩, hW, hsame.mono hc hs⟩
theorem own_retO (X : Stand p l e R s m args below meth c T locs cells slots) (hx : p.tables.exec = Jvm.exec) (hlk : meth.locks = false) {t : FieldType} {w : Value} {i : Instr} {pc : Nat} {Ls : Array Slot} {rest : List Value} (hret : meth.sig.returnType = some t) (hn : narrow t w = w)
    (hi : (i = .ireturn ∧ (t = .int ∨ t = .boolean ∨ t = .byte ∨ t = .char ∨ t = .short) ∧ ∃ z, w = .int z) ∨ (i = .lreturn ∧ t = .long ∧ ∃ z, w = .long z) ∨ (i = .dreturn ∧ t = .double ∧ ∃ z, w = .double z) ∨ (i = .freturn ∧ t = .float ∧ ∃ z, w = .float z) ∨ (i = .areturn ∧ t.isReference = true ∧ w.isRef = true))
    (hd : decode c.code pc = .ok (i, 1)) {h : Heap} (eT : T.heap = h) (hQ : Q (some w) h locs) (hc : cells ≤ nc) (hs : slots ≤ ns) : own_Dn p e below s Q nc ns (T.setTop (mkF m pc Ls (w :: rest))) := by
  obtain ⟨fs, hr, hrun, hended, hW, hsame⟩ := X.leave (v := some w) (fun h => by rw [hret] at h; cases h) hlk
  subst eT
  exact ⟨_, _, retOut X hx hret hn hi hd hr, hrun, hended, _, _, rfl, hQ, ⟨_, rfl⟩, hW, hsame.mono hc hs⟩
theorem own_mono {cells' slots' : Nat} (X : Stand p l e R s m args below meth c T locs cells slots) (h1 : cells ≤ cells') (h2 : slots ≤ slots') : Stand p l e R s m args below meth c T locs cells' slots' :=
  ⟨X.admits, X.cas, X.clock, X.frames, X.room, X.hears, X.method, X.code, X.here, X.tail, X.warmed, X.limits, X.bytes, X.same.mono h1 h2⟩
theorem own_callS {Z : State} {a0 : Array Value} {h : Heap} {own : String} {index : Nat} {y : MethodName} {bytes : ByteArray} {maxL : Nat} {ret : Option FieldType} {rm : Room} {as : Array Value} {Q' : Option Value → Heap → List Loc → Prop}
    (X : Stand p l e R s m args below meth c T locs cells slots) (hx : p.tables.exec = Jvm.exec) (hZ : Z.Warmed39 s.vm) (hown : s.vm.findClass own = some m.cls)
    (w1 : (Cond.methodLink own index y).before a0 Z = true) (w2 : (Cond.static y).before a0 Z = true) (w3 : (Cond.initialized y.cls).before a0 Z = true) (w4 : (Cond.code y bytes maxL ret).before a0 Z = true) (hy : y.cls ≠ "java/lang/invoke/MethodHandle" ∧ y.cls ≠ "java/lang/invoke/VarHandle")
    (M : own_Met l Z y [] bytes maxL ret rm as h Q') (eT : T.heap = h) {W : Nat} (hf : rm.frames + 1 ≤ R.frames) (hl : W + (maxL + 11) + rm.locals ≤ R.locals) (hc : cells + rm.cells ≤ R.cells) (hs : slots + rm.slots ≤ R.slots)
    {g : JFrame} (hg : g.method = m) (hsize : g.locals.size = c.maxLocals) {argsL rest : List Value} (has : argsL.toArray = as) (hlen : ∀ sig, parseMethodDescriptor y.desc = some sig → argsL.length = sig.parameters.length)
    (hstack : g.stack = argsL.reverse ++ rest) (hW : 2 * g.monitorRoom + (rest.map fun v => v.category).sum ≤ W) (hd : decode c.code g.pc = .ok (.invokestatic index, 3))
    (k : ∀ v T' L, Q' v T'.heap L → Stand p l e R s m args below meth c T' (locs ++ L) (cells + rm.cells) (slots + rm.slots) → own_Dn p e below s Q nc ns (T'.setTop { g with pc := g.pc + 3, stack := v.toList ++ rest })) :
    own_Dn p e below s Q nc ns (T.setTop g) := by
  obtain ⟨v, _, ⟨T', L', k', n'⟩, -, X', ⟨Lc, hQ, l1, y1, z1⟩, st⟩ := Jvm.LawKit.callS X hx hown (mvT hZ w1) (mvT hZ w2) (mvT hZ w3) (mvT hZ w4) hy (backOf (W := W) M hZ w4 w3 hf hl) hg hsize (argsL := argsL) (rest := rest) hlen hstack hW hd (fun _ _ => ⟨has, eT, hc, hs⟩)
  dsimp only [Pt.U, Pt.locs, Pt.cells, Pt.slots] at X' l1 y1 z1 st hQ
  subst l1 y1 z1
  exact own_st (fun t q => st t q) (k v T' Lc hQ X')
theorem own_callI {Z : State} {a0 : Array Value} {h : Heap} {own : String} {index : Nat} {y : MethodName} {bytes : ByteArray} {maxL : Nat} {rm : Room} {as : Array Value} {Q' : Option Value → Heap → List Loc → Prop}
    (X : Stand p l e R s m args below meth c T locs cells slots) (hx : p.tables.exec = Jvm.exec) (hZ : Z.Warmed39 s.vm) (hown : s.vm.findClass own = some m.cls) (hy1 : y.name = "<init>")
    (w1 : (Cond.methodLink own index y).before a0 Z = true) (w2 : (Cond.instanceMethod y).before a0 Z = true) (w3 : (Cond.initialized y.cls).before a0 Z = true) (w4 : (Cond.code y bytes maxL none).before a0 Z = true) (hy : y.cls ≠ "java/lang/invoke/MethodHandle" ∧ y.cls ≠ "java/lang/invoke/VarHandle")
    (M : own_Met l Z y [] bytes maxL none rm as h Q') (eT : T.heap = h) {W : Nat} (hf : rm.frames + 1 ≤ R.frames) (hl : W + (maxL + 11) + rm.locals ≤ R.locals) (hc : cells + rm.cells ≤ R.cells) (hs : slots + rm.slots ≤ R.slots)
    {g : JFrame} (hg : g.method = m) (hsize : g.locals.size = c.maxLocals) {a : Addr} {argsL rest : List Value} (has : (.ref a :: argsL).toArray = as) (hlen : ∀ sig, parseMethodDescriptor y.desc = some sig → argsL.length = sig.parameters.length)
    (hstack : g.stack = argsL.reverse ++ .ref a :: rest) (hW : 2 * g.monitorRoom + (rest.map fun v => v.category).sum ≤ W) (hd : decode c.code g.pc = .ok (.invokespecial index, 3))
    (k : ∀ v T' L, Q' v T'.heap L → Stand p l e R s m args below meth c T' (locs ++ L) (cells + rm.cells) (slots + rm.slots) → own_Dn p e below s Q nc ns (T'.setTop { g with pc := g.pc + 3, stack := v.toList ++ rest })) :
    own_Dn p e below s Q nc ns (T.setTop g) := by
  obtain ⟨v, _, ⟨T', L', k', n'⟩, -, X', ⟨Lc, hQ, l1, y1, z1⟩, st⟩ := X.specialBack hx hy1 hown (mvT hZ w1) (mvT hZ w2) (mvT hZ w4) hy (backOf (W := W) M hZ w4 w3 hf hl) hg hsize (Steps.refl _) (a := a) (argsL := argsL) (rest := rest) hlen hstack hW hd (fun _ _ => ⟨has, eT, hc, hs⟩)
  dsimp only [Pt.U, Pt.locs, Pt.cells, Pt.slots] at X' l1 y1 z1 st hQ
  subst l1 y1 z1
  exact own_st (fun t q => st.trans q) (k v T' Lc hQ X')
theorem own_callV {Z : State} {a0 : Array Value} {h : Heap} {own C : String} {index : Nat} {y : MethodName} {bytes : ByteArray} {maxL : Nat} {ret : Option FieldType} {rm : Room} {as : Array Value} {Q' : Option Value → Heap → List Loc → Prop}
    (X : Stand p l e R s m args below meth c T locs cells slots) (hx : p.tables.exec = Jvm.exec) (hZ : Z.Warmed39 s.vm) (hown : s.vm.findClass own = some m.cls)
    (w1 : (Cond.methodLink own index y).before a0 Z = true) (w2 : (Cond.declares y).before a0 Z = true) (w5 : (Cond.selects C y y).before a0 Z = true) (w6 : (Cond.instanceMethod y).before a0 Z = true) (w3 : (Cond.initialized y.cls).before a0 Z = true) (w4 : (Cond.code y bytes maxL ret).before a0 Z = true) (hy : y.cls ≠ "java/lang/invoke/MethodHandle" ∧ y.cls ≠ "java/lang/invoke/VarHandle")
    (M : own_Met l Z y [] bytes maxL ret rm as h Q') (eT : T.heap = h) {b : Addr} (E : Exa Z h b C) {W : Nat} (hf : rm.frames + 1 ≤ R.frames) (hl : W + (maxL + 11) + rm.locals ≤ R.locals) (hc : cells + rm.cells ≤ R.cells) (hs : slots + rm.slots ≤ R.slots)
    {g : JFrame} (hg : g.method = m) (hsize : g.locals.size = c.maxLocals) {argsL rest : List Value} (has : (.ref b :: argsL).toArray = as) (hlen : ∀ sig, parseMethodDescriptor y.desc = some sig → argsL.length = sig.parameters.length)
    (hstack : g.stack = argsL.reverse ++ .ref b :: rest) (hW : 2 * g.monitorRoom + (rest.map fun v => v.category).sum ≤ W) (hd : decode c.code g.pc = .ok (.invokevirtual index, 3))
    (k : ∀ v T' L, Q' v T'.heap L → Stand p l e R s m args below meth c T' (locs ++ L) (cells + rm.cells) (slots + rm.slots) → own_Dn p e below s Q nc ns (T'.setTop { g with pc := g.pc + 3, stack := v.toList ++ rest })) :
    own_Dn p e below s Q nc ns (T.setTop g) := by
  obtain ⟨cq, kq, qa, qb, qc⟩ := isOf hZ eT E
  obtain ⟨v, _, ⟨T', L', k', n'⟩, -, X', ⟨Lc, hQ, l1, y1, z1⟩, st⟩ := X.virtualBack hx hown (mvT hZ w1) (mvT hZ w2) (notFace_of_selects (args := #[]) (mvT hZ w5)) (mvT hZ w5) (mvT hZ w6) hy (backOf (W := W) M hZ w4 w3 hf hl) qa qc hg hsize (Steps.refl _) (argsL := argsL) (rest := rest) hlen hstack hW hd (fun _ _ => ⟨has, eT, hc, hs⟩)
  dsimp only [Pt.U, Pt.locs, Pt.cells, Pt.slots] at X' l1 y1 z1 st hQ
  subst l1 y1 z1
  exact own_st (fun t q => st.trans q) (k v T' Lc hQ X')
theorem own_callF {Z : State} {a0 : Array Value} {h : Heap} {own C : String} {index count : Nat} {xi y : MethodName} {bytes : ByteArray} {maxL : Nat} {ret : Option FieldType} {rm : Room} {as : Array Value} {Q' : Option Value → Heap → List Loc → Prop}
    (X : Stand p l e R s m args below meth c T locs cells slots) (hx : p.tables.exec = Jvm.exec) (hZ : Z.Warmed39 s.vm) (hown : s.vm.findClass own = some m.cls)
    (w1 : (Cond.methodLink own index xi).before a0 Z = true) (w2 : (Cond.declares xi).before a0 Z = true) (wf : (Cond.interfaceMethod xi.cls xi.cls xi.name xi.desc).before a0 Z = true) (w5 : (Cond.selects C xi y).before a0 Z = true) (w6 : (Cond.instanceMethod y).before a0 Z = true)
    (wp : (Cond.publicMethod y).before a0 Z = true) (wu : (Cond.unhidden C xi.name xi.desc).before a0 Z = true) (wk : (Cond.castable C xi.cls).before a0 Z = true) (w3 : (Cond.initialized y.cls).before a0 Z = true) (w4 : (Cond.code y bytes maxL ret).before a0 Z = true) (hy : xi.cls ≠ "java/lang/invoke/MethodHandle" ∧ xi.cls ≠ "java/lang/invoke/VarHandle")
    (M : own_Met l Z y [] bytes maxL ret rm as h Q') (eT : T.heap = h) {b : Addr} (E : Exa Z h b C) {W : Nat} (hf : rm.frames + 1 ≤ R.frames) (hl : W + (maxL + 11) + rm.locals ≤ R.locals) (hc : cells + rm.cells ≤ R.cells) (hs : slots + rm.slots ≤ R.slots)
    {g : JFrame} (hg : g.method = m) (hsize : g.locals.size = c.maxLocals) {argsL rest : List Value} (has : (.ref b :: argsL).toArray = as) (hlen : ∀ sig, parseMethodDescriptor xi.desc = some sig → argsL.length = sig.parameters.length)
    (hstack : g.stack = argsL.reverse ++ .ref b :: rest) (hW : 2 * g.monitorRoom + (rest.map fun v => v.category).sum ≤ W) (hd : decode c.code g.pc = .ok (.invokeinterface index count, 5))
    (k : ∀ v T' L, Q' v T'.heap L → Stand p l e R s m args below meth c T' (locs ++ L) (cells + rm.cells) (slots + rm.slots) → own_Dn p e below s Q nc ns (T'.setTop { g with pc := g.pc + 5, stack := v.toList ++ rest })) :
    own_Dn p e below s Q nc ns (T.setTop g) := by
  obtain ⟨cq, kq, qa, qb, qc⟩ := isOf hZ eT E
  have hfc : ((Cond.interfaceMethod xi.cls xi.cls xi.name xi.desc).onTables && (Cond.interfaceMethod xi.cls xi.cls xi.name xi.desc).keepsFace) = true := by simp [Cond.onTables, Cond.keepsFace, Cond.keeps, Cond.steady, Cond.faceAtom, hy.1, hy.2]
  obtain ⟨v, _, ⟨T', L', k', n'⟩, -, X', ⟨Lc, hQ, l1, y1, z1⟩, st⟩ := X.interfaceBack hx hown (mvT hZ w1) (mvT hZ w2) (mvT hZ wf hfc) (mvT hZ w5) (mvT hZ w6) (mvT hZ wp) (mvT hZ wu) (mvT hZ wk) hy (backOf (W := W) M hZ w4 w3 hf hl) qa qb qc hg hsize (Steps.refl _) (argsL := argsL) (rest := rest) hlen hstack hW hd (fun _ _ => ⟨has, eT, hc, hs⟩)
  dsimp only [Pt.U, Pt.locs, Pt.cells, Pt.slots] at X' l1 y1 z1 st hQ
  subst l1 y1 z1
  exact own_st (fun t q => st.trans q) (k v T' Lc hQ X')
theorem own_lrem {tb : Tables} [Ours tb] {e : Env} {below : List Frame} {T target : State} {m : MethodId} {c : Code} {g : JFrame} (h : At T m c below) (hx : tb.exec = Jvm.exec) (hg : g.method = m) {x y : Int64} {rest : List Value} (hd : decode c.code g.pc = .ok (.lrem, 1)) (hs : g.stack = .long y :: .long x :: rest) (hy : y ≠ 0)
    (hr : Steps tb e below (T.setTop { g with pc := g.pc + 1, stack := .long (x % y) :: rest }) target) : Steps tb e below (T.setTop g) target :=
  Jvm.Free.XT.lrem h hx hg hd hs hy (by rw [lrem_mod]; exact hr)
theorem own_ltT {x y : Int32} (h : x < y) : x.toInt < y.toInt := Int32.lt_iff_toInt_lt.mp h
theorem own_ltF {x y : Int32} (h : ¬ x < y) : y.toInt ≤ x.toInt := by rw [Int32.lt_iff_toInt_lt] at h; omega
theorem own_eqT {x y : Int32} (h : x = y) : x.toInt = y.toInt := congrArg _ h
theorem own_eqF {x y : Int32} (h : ¬ x = y) : ¬ x.toInt = y.toInt := fun q => h (Int32.toInt_inj.mp q)
theorem own_lt {x y : Int32} (h : x.toInt < y.toInt) : x < y := Int32.lt_iff_toInt_lt.mpr h
theorem own_nlt {x y : Int32} (h : y.toInt ≤ x.toInt) : ¬ x < y := by rw [Int32.lt_iff_toInt_lt]; omega
theorem own_eq {x y : Int32} (h : x.toInt = y.toInt) : x = y := Int32.toInt_inj.mp h
theorem own_ne {x y : Int32} (h : ¬ x.toInt = y.toInt) : ¬ x = y := fun q => h (congrArg _ q)
theorem own_cat1 {v : Value} (h : v.isRef = true) : v.category = 1 := by cases v <;> simp_all [Value.isRef, Value.category]
theorem own_dupX2 {tb : Tables} [Ours tb] {e : Env} {below : List Frame} {T target : State} {m : MethodId} {c : Code} {g : JFrame} (h : At T m c below) (hx : tb.exec = Jvm.exec) (hg : g.method = m) {x y z : Value} {rest : List Value} (hd : decode c.code g.pc = .ok (.dup_x2, 1)) (hs : g.stack = x :: y :: z :: rest) (hc : x.category = 1) (hc' : y.category = 1) (hc'' : z.category = 1)
    (hr : Steps tb e below (T.setTop { g with pc := g.pc + 1, stack := x :: y :: z :: x :: rest }) target) : Steps tb e below (T.setTop g) target := by
  subst hg
  jvm_step h [h.top, hx, hd, hs, hc, hc', hc'']
  exact hr
end Own
section AL
variable {p : Program} {l : Launch} {e : Env} {R : Room} {s : State} {m : MethodId} {args : Array Value} {below : List Frame} {meth : Method} {c : Code} {T : State} {locs : List Loc} {cells slots : Nat} {Q : Option Value → Heap → List Loc → Prop} {nc ns : Nat} {Z : State} {h h' : Heap} {a b y dc mir : Addr} {sl n k n0 : Nat} {v : Value} {ws : List Addr} {a0 : Array Value}
/-- an Object[] of n places -/
def own_A (Z : State) (h : Heap) (a : Addr) (n : Nat) : Prop := ∃ cl : Cell, Arr Z h a cl (.object "java/lang/Object") ∧ Ovr Z cl.cls "java/lang/Object" ∧ Z.vm.findClass "[Ljava/lang/Object;" = some cl.cls ∧ cl.slots.size = n
theorem own_A.lt (F : own_A Z h a n) : a < h.size := by obtain ⟨_, A, -⟩ := F; exact A.lt
theorem own_A.ext (F : own_A Z h a n) (E : Ext h h') : own_A Z h' a n := by obtain ⟨cl, A, r⟩ := F; exact ⟨cl, A.ext E, r⟩
theorem own_A.keep (F : own_A Z h a n) (K : Keep h h' ws) : own_A Z h' a n := by
  obtain ⟨cl, A, O, f, S⟩ := F
  obtain ⟨c', q, r1, r2, r3⟩ := K.2.2 a cl A.1
  exact ⟨c', ⟨q, ⟨by rw [r2]; exact A.2.1.1, by rw [r1]; exact A.2.1.2⟩, by rw [r2]; exact A.2.2⟩, by rw [r1]; exact O, by rw [r1]; exact f, by rw [r3]; exact S⟩
theorem own_A.wr (F : own_A Z h a n) (W : Wr h h' b sl v) : own_A Z h' a n := F.keep (Keep.of_wr W)
theorem own_A.ne {C : String} (F : own_A Z h a n) (E : Exa Z h b C) (wi : (Cond.instantiable C k).before a0 Z = true) : b ≠ a := by obtain ⟨_, A, -⟩ := F; exact ne_arr E wi A
/-- .. and y stands at its first place -/
def own_B (Z : State) (h : Heap) (a : Addr) (n : Nat) (y : Addr) : Prop := ∃ cl : Cell, Arr Z h a cl (.object "java/lang/Object") ∧ Ovr Z cl.cls "java/lang/Object" ∧ Z.vm.findClass "[Ljava/lang/Object;" = some cl.cls ∧ cl.slots.size = n ∧ cl.slots[0]? = some (.ref y)
theorem own_B.toA (F : own_B Z h a n y) : own_A Z h a n := by obtain ⟨cl, A, O, f, S, -⟩ := F; exact ⟨cl, A, O, f, S⟩
theorem own_B.lt (F : own_B Z h a n y) : a < h.size := F.toA.lt
theorem own_B.ext (F : own_B Z h a n y) (E : Ext h h') : own_B Z h' a n y := by obtain ⟨cl, A, r⟩ := F; exact ⟨cl, A.ext E, r⟩
theorem own_B.keep (F : own_B Z h a n y) (K : Keep h h' ws) (q : a ∉ ws) : own_B Z h' a n y := by obtain ⟨cl, A, r⟩ := F; exact ⟨cl, ⟨K.2.1 a cl A.1 q, A.2⟩, r⟩
theorem own_B.other (F : own_B Z h a n y) (W : Wr h h' b sl v) (q : a ≠ b) : own_B Z h' a n y := by obtain ⟨cl, A, r⟩ := F; exact ⟨cl, A.other W q, r⟩
theorem own_B.of (F : own_A Z h a n) (W : Wr h h' a 0 (.ref y)) : own_B Z h' a n y := by
  obtain ⟨cl, A, O, f, S⟩ := F
  obtain ⟨c', e1, -, -, -, -, -, e7⟩ := wr_at W A.1
  obtain ⟨q1, q2, -⟩ := e7 rfl
  exact ⟨cl.setSlot 0 (.ref y), A.same W, O, f, by rw [sz_set]; exact S, by rw [← q1]; exact q2⟩
theorem own_rinb {j : Int32} {cl : Cell} {n : Nat} (S : cl.slots.size = n) (h0 : 0 ≤ j.toInt) (h1 : j.toInt < n) : ¬ (j < 0 ∨ cl.slots.size ≤ j.toNatClampNeg) := by
  have e1 : (j.toNatClampNeg : Int) = j.toInt := by rw [Int32.toNatClampNeg]; exact Int.toNat_of_nonneg h0
  rintro (q | q)
  · have := own_ltT q
    have e0 : (0 : Int32).toInt = 0 := rfl
    omega
  · omega
theorem own_aast (X : Stand p l e R s m args below meth c T locs cells slots) (hx : p.tables.exec = Jvm.exec) (hZ : Z.Warmed39 s.vm) (eT : T.heap = h) (F : own_A Z h a n) {j : Int32} (h0 : 0 ≤ j.toInt) (h1 : j.toInt < n) (hv : v = .null ∨ ∃ y, v = .ref y ∧ Ins Z h y "java/lang/Object" true)
    {g : JFrame} (hg : g.method = m) {rest : List Value} (hs : g.stack = v :: .int j :: .ref a :: rest) (hd : decode c.code g.pc = .ok (.aastore, 1)) :
    ∃ T' h', Stand p l e R s m args below meth c T' (locs ++ [⟨a, j.toNatClampNeg⟩]) cells slots ∧ T'.heap = h' ∧ Wr h h' a j.toNatClampNeg v ∧ ∀ target, Steps p.tables e below (T'.setTop { g with pc := g.pc + 1, stack := rest }) target → Steps p.tables e below (T.setTop g) target := by
  obtain ⟨cl, A, O, f, S⟩ := F
  have hst : Sto Z h a v := by
    rcases hv with rfl | ⟨y, rfl, I⟩
    · exact Or.inl rfl
    · exact Sto.of A O I
  exact stR X hx hZ eT A (own_rinb S h0 h1) rfl hst hg hs hd
theorem own_lenA (X : Stand p l e R s m args below meth c T locs cells slots) (hx : p.tables.exec = Jvm.exec) (hZ : Z.Warmed39 s.vm) (eT : T.heap = h) (F : own_A Z h a n) {w : Int32} (hw : n.toInt32 = w)
    {g : JFrame} (hg : g.method = m) {rest : List Value} (hs : g.stack = .ref a :: rest) (hd : decode c.code g.pc = .ok (.arraylength, 1)) (k : own_Dn p e below s Q nc ns (T.setTop { g with pc := g.pc + 1, stack := .int w :: rest })) : own_Dn p e below s Q nc ns (T.setTop g) := by
  obtain ⟨cl, A, O, f, S⟩ := F
  subst hw
  exact own_st (fun t q => X.arraylength hx (by rw [eT]; exact A.1) (State.isArrayOf_alike hZ.alike A.2.1) hg hs hd t (by rw [S]; exact q)) k
theorem own_newA (X : Stand p l e R s m args below meth c T locs cells slots) (hx : p.tables.exec = Jvm.exec) (hZ : Z.Warmed39 s.vm) {own : String} {index : Nat} (hown : s.vm.findClass own = some m.cls) (w1 : (Cond.classLink own index "java/lang/Object").before a0 Z = true) (w2 : (Cond.arrayOver (.object "java/lang/Object")).before a0 Z = true)
    (eT : T.heap = h) {g : JFrame} (hg : g.method = m) (hd : decode c.code g.pc = .ok (.anewarray index, 3)) {z : Int32} {rest : List Value} (hs : g.stack = .int z :: rest) (hn : ¬ z < 0) {cap : Nat} (hcap : z.toNatClampNeg = cap) (hb : cap * 4 ≤ 536870912) (hc : cells + 1 ≤ R.cells) (hl : slots + cap ≤ R.slots) :
    ∃ T' h', Stand p l e R s m args below meth c T' locs (cells + 1) (slots + cap) ∧ T'.heap = h' ∧ Ext h h' ∧ own_A Z h' h.size cap ∧
      ∀ target, Steps p.tables e below (T'.setTop { g with pc := g.pc + 3, stack := .ref h.size :: rest }) target → Steps p.tables e below (T.setTop g) target := by
  subst hcap eT
  obtain ⟨vm₁, cA, kA, comp, -, h1, h2, h3, h4, X', st⟩ := X.anewarrayRefK hx hown (mvT hZ w1) (Cond.arrayOver_alike hZ.alike w2) hg hd hs hn hb hc hl
  rw [hZ.alike.findClass] at h1 h4
  obtain ⟨kZ, z1, -⟩ := Vm.findClass_spec h1
  obtain ⟨k', z2, z3⟩ := hZ.alike.2.2 _ _ z1
  cases h2.symm.trans z2
  have hk : kZ.kind = .array comp (.object "java/lang/Object") := by rw [← h3, z3]
  refine ⟨_, _, X', rfl, ext_of fun a q => Array.getElem?_push_lt q |>.trans (Array.getElem?_eq_getElem q).symm, ⟨{ cls := cA, slots := Array.replicate z.toNatClampNeg .null, vm := .none }, ⟨?_, ⟨(fun _ q => by cases q), kZ, z1, comp, hk⟩, (fun q => by cases q)⟩, ⟨kZ, comp, z1, hk, h4⟩, h1, by simp⟩, st⟩
  show (T.heap.push _)[T.heap.size]? = _
  simp
/-- System.arraycopy of one reference -/
theorem own_copy1 (X : Stand p l e R s m args below meth c T locs cells slots) (hx : p.tables.exec = Jvm.exec) (hZ : Z.Warmed39 s.vm) {own : String} {index : Nat} (hown : s.vm.findClass own = some m.cls) (w1 : (Cond.methodLink own index Stand.acN).before a0 Z = true) (w2 : (Cond.native Stand.acN).before a0 Z = true) (w3 : (Cond.static Stand.acN).before a0 Z = true) (w4 : (Cond.initialized "java/lang/System").before a0 Z = true)
    (eT : T.heap = h) {src dst : Addr} (F : own_B Z h src k y) (hk : 1 ≤ k) (G : own_A Z h dst n) {CY : String} (Ey : Exa Z h y CY) (wc : (Cond.castable CY "java/lang/Object").before a0 Z = true) {j : Int32} (h0 : 0 ≤ j.toInt) (h1 : j.toInt < n) {g : JFrame} (hg : g.method = m) (hsize : g.locals.size = c.maxLocals) {rest : List Value} (hstack : g.stack = .int 1 :: .int j :: .ref dst :: .int 0 :: .ref src :: rest) (hd : decode c.code g.pc = .ok (.invokestatic index, 3))
    (hf : 1 ≤ R.frames) (hl : 2 * g.monitorRoom + (rest.map fun v => v.category).sum + (nativeFrameWords "java/lang/System" "arraycopy" 5 + 11) ≤ R.locals) :
    ∃ T' h', Stand p l e R s m args below meth c T' (locs ++ [⟨dst, j.toNatClampNeg⟩]) cells slots ∧ T'.heap = h' ∧ Wr h h' dst j.toNatClampNeg (.ref y) ∧ ∀ target, Steps p.tables e below (T'.setTop { g with pc := g.pc + 3, stack := rest }) target → Steps p.tables e below (T.setTop g) target := by
  obtain ⟨cs, As, Os, fs, Ss, S0⟩ := F
  obtain ⟨cd, Ad, Od, fd, Sd⟩ := G
  obtain ⟨kz, comp, o1, o2, o3⟩ := Os
  obtain ⟨kz', comp', o1', o2', o3'⟩ := Od
  cases o3.symm.trans o3'
  obtain ⟨k1, z1, e1⟩ := hZ.alike.2.2 _ _ o1
  obtain ⟨k2, z2, e2⟩ := hZ.alike.2.2 _ _ o1'
  obtain ⟨cy, cT, i1, i2, i3⟩ := Ins.of_exa Ey wc
  obtain ⟨cy2, ky, y1, y2, hky, -⟩ := Ey
  cases i1.symm.trans y1
  cases o3.symm.trans i2
  simp only [Bool.and_eq_true, Bool.not_eq_true'] at i3
  subst eT
  have l0 : (0 : Int32).toInt = 0 := rfl
  have l1 : (1 : Int32).toInt = 1 := rfl
  have t0 : (0 : Int32).toNatClampNeg = 0 := rfl
  have t1 : (1 : Int32).toNatClampNeg = 1 := rfl
  have hlt : j.toNatClampNeg < cd.slots.size := Nat.lt_of_not_le fun q => own_rinb Sd h0 h1 (Or.inr q)
  have hv0 : cs.slots.getD 0 .null = .ref y := by rw [Array.getD_eq_getD_getElem?, S0]; rfl
  have hvals : ∀ vm₁, s.WarmedH vm₁ → ∀ i, i < (1 : Int32).toNatClampNeg → fits (.object "java/lang/Object") (cs.slots.getD ((0 : Int32).toNatClampNeg + i) .null) = true ∧ (T.setVm vm₁).takes comp (cs.slots.getD ((0 : Int32).toNatClampNeg + i) .null) := by
    intro vm1 hv i hi
    have hi0 : i = 0 := by rw [t1] at hi; omega
    subst hi0
    rw [show (0 : Int32).toNatClampNeg + 0 = 0 from rfl, hv0]
    have al := hZ.alike.trans hv.alike
    have ha : vm1.assignable cy.cls comp = true := by rw [al.assignable]; exact i3.2
    have hst : cy.vm.isStatics = false := i3.1
    obtain ⟨kc, hkc⟩ := Vm.classAt_of_findClass o3
    obtain ⟨kc', hkc', -⟩ := al.2.2 _ _ hkc
    obtain ⟨ky', hky', -⟩ := al.2.2 _ _ hky
    exact ⟨rfl, cy, i1, (fun q hq => by rw [hq] at hst; cases hst), ⟨ky', hky'⟩, ⟨kc', hkc'⟩, ha⟩
  obtain ⟨vm1, hv, X', st⟩ := X.arraycopyK hx hown (mvT hZ w1) (mvT hZ w2) (mvT hZ w3) (mvT hZ w4) (src := src) (dst := dst) (srcPos := 0) (destPos := j) (n := 1) As.1 Ad.1 As.2.1.1 Ad.2.1.1 As.2.2 Ad.2.2 z1 z2 (by rw [e1]; exact o2) (by rw [e2]; exact o2') rfl
    (by decide) (own_nlt (by omega)) (by decide) (by omega) (by omega) hvals hg hsize hstack hd hf hl
  have hcp : copied cs cd 0 j 1 = cd.setSlot j.toNatClampNeg (.ref y) := by
    show cd.storeRun j.toNatClampNeg (cs.stretch (0 : Int32).toNatClampNeg (1 : Int32).toNatClampNeg) = _
    have : cs.stretch (0 : Int32).toNatClampNeg (1 : Int32).toNatClampNeg = [.ref y] := by
      show (List.range 1).map (fun i => cs.slots.getD (0 + i) .null) = _
      simp [List.range_succ, S0]
    rw [this]
    rfl
  rw [hcp] at X' st
  have hloc : Stand.copyLocs dst j.toNatClampNeg (1 : Int32).toNatClampNeg = [⟨dst, j.toNatClampNeg⟩] := rfl
  rw [hloc] at X'
  exact ⟨_, _, X', rfl, ⟨cd, Ad.1, by cases hq : cd.vm with | statics q => exact absurd hq (Ad.2.1.1 q) | _ => rfl, hlt, rfl⟩, st⟩
/-- the Class object of Object[] is made -/
def own_Mi (Z : State) (mir : Addr) : Prop := ∃ (c : ClassId) (k : Class), Z.vm.findClass "[Ljava/lang/Object;" = some c ∧ Z.vm.classes[c]? = some k ∧ k.mirror = some mir
theorem own_getC (X : Stand p l e R s m args below meth c T locs cells slots) (hx : p.tables.exec = Jvm.exec) (hZ : Z.Warmed39 s.vm) {own : String} {index : Nat} (hown : s.vm.findClass own = some m.cls) (w1 : (Cond.methodLink own index Stand.gcN).before a0 Z = true) (w2 : (Cond.declares Stand.gcN).before a0 Z = true) (w3 : (Cond.selects "[Ljava/lang/Object;" Stand.gcN Stand.gcN).before a0 Z = true) (w4 : (Cond.instanceMethod Stand.gcN).before a0 Z = true) (w5 : (Cond.native Stand.gcN).before a0 Z = true)
    (eT : T.heap = h) (F : own_A Z h b n) (Mi : own_Mi Z mir) {g : JFrame} (hg : g.method = m) (hsize : g.locals.size = c.maxLocals) {rest : List Value} (hstack : g.stack = .ref b :: rest) (hd : decode c.code g.pc = .ok (.invokevirtual index, 3)) (hf : 1 ≤ R.frames) (hl : 2 * g.monitorRoom + (rest.map fun v => v.category).sum + (nativeFrameWords "java/lang/Object" "getClass" 1 + 11) ≤ R.locals)
    (k : ∀ vm, Stand p l e R s m args below meth c (T.setVm vm) locs cells slots → own_Dn p e below s Q nc ns ((T.setVm vm).setTop { g with pc := g.pc + 3, stack := .ref mir :: rest })) : own_Dn p e below s Q nc ns (T.setTop g) := by
  obtain ⟨cB, kc, q1, q2, q3⟩ := Mi
  obtain ⟨cl, A, O, f, S⟩ := F
  cases f.symm.trans q1
  obtain ⟨kc', z1, e1⟩ := hZ.alike.2.2 _ _ q2
  obtain ⟨vm1, X', st⟩ := X.getClassOf hx hown (mvT hZ w1) (mvT hZ w2) (notFace_of_selects (args := #[]) (mvT hZ w3)) (mvT hZ w3) (mvT hZ w4) (mvT hZ w5) (C := "[Ljava/lang/Object;") (cB := cl.cls) (by rw [hZ.alike.findClass]; exact q1) ⟨cl, by rw [eT]; exact A.1, rfl, by cases hq : cl.vm with | statics q => exact absurd hq (A.2.1.1 q) | _ => rfl⟩ z1 (by rw [e1]; exact q3) hg hsize hstack hd hf hl
  exact own_st (fun t q => st t q) (k vm1 X')
theorem own_ldcM (X : Stand p l e R s m args below meth c T locs cells slots) (hx : p.tables.exec = Jvm.exec) (hZ : Z.Warmed39 s.vm) {own : String} {index : Nat} (hown : s.vm.findClass own = some m.cls) (w1 : (Cond.classLink own index "[Ljava/lang/Object;").before a0 Z = true) (Mi : own_Mi Z mir) {g : JFrame} (hg : g.method = m) (hd : decode c.code g.pc = .ok (.ldc index, 2))
    (k : ∀ vm, Stand p l e R s m args below meth c (T.setVm vm) locs cells slots → own_Dn p e below s Q nc ns ((T.setVm vm).setTop { g with pc := g.pc + 2, stack := .ref mir :: g.stack })) : own_Dn p e below s Q nc ns (T.setTop g) := by
  obtain ⟨cB, kc, q1, q2, q3⟩ := Mi
  obtain ⟨kc', z1, e1⟩ := hZ.alike.2.2 _ _ q2
  have f1 : s.vm.findClass "[Ljava/lang/Object;" = some cB := by rw [hZ.alike.findClass]; exact q1
  have m1 : kc'.mirror = some mir := by rw [e1]; exact q3
  have hev : (Term.mirror "[Ljava/lang/Object;").eval args s none [] s = some (.ref mir) := by simp [Term.eval, f1, z1, m1]
  obtain ⟨vm1, X', st⟩ := X.ldcMirror hx hown (mvT hZ w1) hev hg hd
  exact own_st (fun t q => st t q) (k vm1 X')
/-- a private method by invokevirtual; x: any method of the same class that the sheet selects -/
theorem own_callP {h : Heap} {own C C' : String} {index : Nat} {xi x y : MethodName} {bytes : ByteArray} {maxL : Nat} {ret : Option FieldType} {rm : Room} {as : Array Value} {Q' : Option Value → Heap → List Loc → Prop}
    (X : Stand p l e R s m args below meth c T locs cells slots) (hx : p.tables.exec = Jvm.exec) (hZ : Z.Warmed39 s.vm) (hown : s.vm.findClass own = some m.cls)
    (w1 : (Cond.methodLink own index y).before a0 Z = true) (w2 : (Cond.privateMethod y).before a0 Z = true) (w5 : (Cond.selects C' xi x).before a0 Z = true) (hxy : x.cls = y.cls) (w6 : (Cond.instanceMethod y).before a0 Z = true) (w3 : (Cond.initialized y.cls).before a0 Z = true) (w4 : (Cond.code y bytes maxL ret).before a0 Z = true) (hy : y.cls ≠ "java/lang/invoke/MethodHandle" ∧ y.cls ≠ "java/lang/invoke/VarHandle")
    (M : own_Met l Z y [] bytes maxL ret rm as h Q') (eT : T.heap = h) {b : Addr} (E : Exa Z h b C) {W : Nat} (hf : rm.frames + 1 ≤ R.frames) (hl : W + (maxL + 11) + rm.locals ≤ R.locals) (hc : cells + rm.cells ≤ R.cells) (hs : slots + rm.slots ≤ R.slots)
    {g : JFrame} (hg : g.method = m) (hsize : g.locals.size = c.maxLocals) {argsL rest : List Value} (has : (.ref b :: argsL).toArray = as) (hlen : ∀ sig, parseMethodDescriptor y.desc = some sig → argsL.length = sig.parameters.length)
    (hstack : g.stack = argsL.reverse ++ .ref b :: rest) (hW : 2 * g.monitorRoom + (rest.map fun v => v.category).sum ≤ W) (hd : decode c.code g.pc = .ok (.invokevirtual index, 3))
    (k : ∀ v T' L, Q' v T'.heap L → Stand p l e R s m args below meth c T' (locs ++ L) (cells + rm.cells) (slots + rm.slots) → own_Dn p e below s Q nc ns (T'.setTop { g with pc := g.pc + 3, stack := v.toList ++ rest })) :
    own_Dn p e below s Q nc ns (T.setTop g) := by
  obtain ⟨cq, kq, qa, qb, qc⟩ := isOf hZ eT E
  obtain ⟨cell, hcell, hcls, hst⟩ := qc
  have hobj : ∀ q, cell.vm ≠ .statics q := fun q h => by rw [h] at hst; cases hst
  obtain ⟨c2, r2, m2, -, -, q3, -, kP, hkP, hkPi⟩ := Cond.selects_spec (mvT (args := args) hZ w5)
  have hfc := findClass_of_methodNamed q3
  rw [hxy] at hfc
  have hpriv : s.PrivateAt y := Cond.privateMethod_at (mvT (args := args) hZ w2)
  have hsel : (Cond.selects y.cls y y).before args s = true := selects_self_of_private hfc hkP hkPi hpriv (mvT (args := args) hZ w6) hy
  obtain ⟨v, _, ⟨T', L', k', n'⟩, -, X', ⟨Lc, hQ, l1, y1, z1⟩, st⟩ := X.privateBack hx hown (mvT hZ w1) (mvT hZ w6) hsel hpriv (mvT hZ w4) hy (backOf (W := W) M hZ w4 w3 hf hl) hg hsize (Steps.refl _) hcell hobj (argsL := argsL) (rest := rest) hlen hstack hW hd (fun _ _ => ⟨has, eT, hc, hs⟩)
  dsimp only [Pt.U, Pt.locs, Pt.cells, Pt.slots] at X' l1 y1 z1 st hQ
  subst l1 y1 z1
  exact own_st (fun t q => st.trans q) (k v T' Lc hQ X')
theorem own_km {h0 : Heap} {ws ws' : List Addr} (K : Keep h0 h ws) (q : ∀ x ∈ ws, x ∈ ws') : Keep h0 h ws' := (Keep.refl h0 ws').trans K fun x z => Or.inl (q x z)
end AL
section UW
variable {Z : State} {h h' : Heap} {a b y dc ea o u L1 L2 : Addr} {sl k k' n0 : Nat} {v : Value} {ws : List Addr} {pp pr : Int32}
/-- a list of at most k elements; ea: its array -/
def own_L (Z : State) (n0 : Nat) (dc : Addr) (h : Heap) (b : Addr) (k : Nat) (ea : Addr) : Prop := Exa Z h b "java/util/ArrayList" ∧ n0 ≤ b ∧ ∃ mc n : Int32, 0 ≤ n.toInt ∧ n.toInt ≤ (k : Int) ∧ Fld Z h b "java/util/AbstractList" "modCount" "I" (.int mc) ∧ Fld Z h b "java/util/ArrayList" "size" "I" (.int n) ∧ Fld Z h b "java/util/ArrayList" "elementData" "[Ljava/lang/Object;" (.ref ea) ∧ ((ea = dc ∧ n = 0) ∨ (n0 ≤ ea ∧ own_A Z h ea 10))
theorem own_L.lt (F : own_L Z n0 dc h b k ea) : b < h.size := F.1.lt
theorem own_L.ext (F : own_L Z n0 dc h b k ea) (E : Ext h h') : own_L Z n0 dc h' b k ea := by
  obtain ⟨e1, g, mc, n, i1, i2, f1, f2, f3, q⟩ := F
  exact ⟨e1.ext E, g, mc, n, i1, i2, f1.ext E, f2.ext E, f3.ext E, q.imp id fun z => ⟨z.1, z.2.ext E⟩⟩
theorem own_L.keep (F : own_L Z n0 dc h b k ea) (K : Keep h h' ws) (r : b ∉ ws) : own_L Z n0 dc h' b k ea := by
  obtain ⟨e1, g, mc, n, i1, i2, f1, f2, f3, q⟩ := F
  exact ⟨e1.keep K, g, mc, n, i1, i2, f1.keep K r, f2.keep K r, f3.keep K r, q.imp id fun z => ⟨z.1, z.2.keep K⟩⟩
theorem own_L.other (F : own_L Z n0 dc h b k ea) (W : Wr h h' a sl v) (r : b ≠ a) : own_L Z n0 dc h' b k ea := F.keep (Keep.of_wr W) (ninS r nin0)
theorem own_L.mono (F : own_L Z n0 dc h b k ea) (q : k ≤ k') : own_L Z n0 dc h b k' ea := by
  obtain ⟨e1, g, mc, n, i1, i2, r⟩ := F
  exact ⟨e1, g, mc, n, i1, by omega, r⟩
theorem own_L.arr (F : own_L Z n0 dc h b k ea) (A : own_A Z h dc 0) : ∃ j, own_A Z h ea j := by
  obtain ⟨-, -, mc, n, -, -, -, -, -, q⟩ := F
  rcases q with ⟨rfl, -⟩ | ⟨-, q⟩
  · exact ⟨_, A⟩
  · exact ⟨_, q⟩
/-- a list as the constructor leaves it -/
def own_F (Z : State) (n0 : Nat) (dc : Addr) (h : Heap) (b : Addr) : Prop := Exa Z h b "java/util/ArrayList" ∧ n0 ≤ b ∧ ∃ mc : Int32, Fld Z h b "java/util/AbstractList" "modCount" "I" (.int mc) ∧ Fld Z h b "java/util/ArrayList" "size" "I" (.int (0 : Int32)) ∧ Fld Z h b "java/util/ArrayList" "elementData" "[Ljava/lang/Object;" (.ref dc)
theorem own_F.lt (F : own_F Z n0 dc h b) : b < h.size := F.1.lt
theorem own_F.ext (F : own_F Z n0 dc h b) (E : Ext h h') : own_F Z n0 dc h' b := by
  obtain ⟨e1, g, mc, f1, f2, f3⟩ := F
  exact ⟨e1.ext E, g, mc, f1.ext E, f2.ext E, f3.ext E⟩
theorem own_F.keep (F : own_F Z n0 dc h b) (K : Keep h h' ws) (r : b ∉ ws) : own_F Z n0 dc h' b := by
  obtain ⟨e1, g, mc, f1, f2, f3⟩ := F
  exact ⟨e1.keep K, g, mc, f1.keep K r, f2.keep K r, f3.keep K r⟩
theorem own_F.other (F : own_F Z n0 dc h b) (W : Wr h h' a sl v) (r : b ≠ a) : own_F Z n0 dc h' b := F.keep (Keep.of_wr W) (ninS r nin0)
theorem own_F.toL (F : own_F Z n0 dc h b) : own_L Z n0 dc h b k dc := by
  obtain ⟨e1, g, mc, f1, f2, f3⟩ := F
  exact ⟨e1, g, mc, 0, by decide, by have : (0 : Int32).toInt = 0 := rfl; omega, f1, f2, f3, Or.inl ⟨rfl, rfl⟩⟩
/-- a unit of work -/
def own_U (Z : State) (n0 : Nat) (dc : Addr) (h : Heap) (u L1 L2 : Addr) (k : Nat) (pp pr : Int32) : Prop := Exa Z h u "com/example/rock_dove/rockdove/store/UnitOfWork" ∧ n0 ≤ u ∧ Fld Z h u "com/example/rock_dove/rockdove/store/UnitOfWork" "puts" "Ljava/util/List;" (.ref L1) ∧ Fld Z h u "com/example/rock_dove/rockdove/store/UnitOfWork" "removals" "Ljava/util/List;" (.ref L2) ∧ Fld Z h u "com/example/rock_dove/rockdove/store/UnitOfWork" "persistentPuts" "I" (.int pp) ∧ Fld Z h u "com/example/rock_dove/rockdove/store/UnitOfWork" "persistentRemovals" "I" (.int pr) ∧ (∃ i : Int64, Fld Z h u "com/example/rock_dove/rockdove/store/UnitOfWork" "id" "J" (.long i)) ∧ (∃ ea, own_L Z n0 dc h L1 k ea) ∧ ∃ ea, own_L Z n0 dc h L2 k ea
def own_hp (x y : Int32) : Int32 := if 0 < x then 1 else if 0 < y then 1 else 0
theorem own_hp2 (x y : Int32) : ¬ own_hp x y = 2 := by unfold own_hp; split; decide; split <;> decide
theorem own_hpP {x y : Int32} (h : own_hp x y = 1) : 0 < x.toInt ∨ 0 < y.toInt := by
  by_cases q1 : (0 : Int32) < x
  · exact Or.inl (own_ltT q1)
  by_cases q2 : (0 : Int32) < y
  · exact Or.inr (own_ltT q2)
  unfold own_hp at h
  rw [if_neg q1, if_neg q2] at h
  cases h
theorem own_hpN {x y : Int32} (h : ¬ own_hp x y = 1) : x.toInt ≤ 0 ∧ y.toInt ≤ 0 := by
  unfold own_hp at h
  by_cases q1 : (0 : Int32) < x
  · rw [if_pos q1] at h
    exact absurd rfl h
  by_cases q2 : (0 : Int32) < y
  · rw [if_neg q1, if_pos q2] at h
    exact absurd rfl h
  exact ⟨own_ltF q1, own_ltF q2⟩
theorem own_hp1 {x y : Int32} (h : 0 < x.toInt ∨ 0 < y.toInt) : own_hp x y = 1 := by
  unfold own_hp
  split
  · rfl
  · split
    · rfl
    · have q1 := own_ltF ‹¬ 0 < x›
      have q2 := own_ltF ‹¬ 0 < y›
      have : (0 : Int32).toInt = 0 := rfl
      omega
theorem own_hp0 {x y : Int32} (h : x.toInt ≤ 0) (h' : y.toInt ≤ 0) : own_hp x y = 0 := by
  have l0 : (0 : Int32).toInt = 0 := rfl
  unfold own_hp
  rw [if_neg (own_nlt (by omega)), if_neg (own_nlt (by omega))]
theorem own_ad (x y : Int32) (k : Int) (h0 : 0 ≤ x.toInt) (h1 : x.toInt ≤ k) (g0 : 0 ≤ y.toInt) (g1 : y.toInt ≤ 1) (hk : k ≤ 1000) : (x + y).toInt = x.toInt + y.toInt := by
  have e1 := c_iadd x y
  have r1 := rng32 (x + y)
  omega
theorem own_10n {n : Int32} (h0 : 0 ≤ n.toInt) (h1 : n.toInt ≤ 3) : ¬ ((10 : Int32) - n) < (1 : Int32) := by
  have e1 := c_isub 10 n
  have r1 := rng32 (10 - n)
  have l1 : (1 : Int32).toInt = 1 := rfl
  have l10 : (10 : Int32).toInt = 10 := rfl
  exact own_nlt (by omega)
theorem own_4 {z : Int32} (h0 : 0 ≤ z.toInt) (h1 : z.toInt ≤ 3) : z = 0 ∨ z = 1 ∨ z = 2 ∨ z = 3 := by
  have : z.toInt = 0 ∨ z.toInt = 1 ∨ z.toInt = 2 ∨ z.toInt = 3 := by omega
  rcases this with q | q | q | q
  · exact Or.inl (own_eq q)
  · exact Or.inr (Or.inl (own_eq q))
  · exact Or.inr (Or.inr (Or.inl (own_eq q)))
  · exact Or.inr (Or.inr (Or.inr (own_eq q)))
end UW
theorem ef_rmMx (m : MethodId) (x0 : Int32) (x1 : Int32) : entryFrame m #[(.int x0), (.int x1)] 2 = mkF m 0 #[.val (.int x0), .val (.int x1)] [] := by first | (simp [entryFrame, mkF, argsToLocals, Value.category]; done) | rfl
theorem d_rmMx_0 : decode jdk_29_method_65_code 0 = .ok (.iload_n 0, 1) := by decide +kernel
theorem d_rmMx_1 : decode jdk_29_method_65_code 1 = .ok (.iload_n 1, 1) := by decide +kernel
theorem d_rmMx_2 : decode jdk_29_method_65_code 2 = .ok (.if_icmp .lt 7, 3) := by decide +kernel
theorem d_rmMx_5 : decode jdk_29_method_65_code 5 = .ok (.iload_n 0, 1) := by decide +kernel
theorem d_rmMx_6 : decode jdk_29_method_65_code 6 = .ok (.goto 4, 3) := by decide +kernel
theorem d_rmMx_10 : decode jdk_29_method_65_code 10 = .ok (.ireturn, 1) := by decide +kernel
set_option maxRecDepth 65536 in
set_option maxHeartbeats 40000000 in
theorem rmMx (l : Launch) (Z : State) (a0 : Array Value) (hw : ∀ d ∈ tables_1, d.before a0 Z = true) (ws : List Jvm.Cond)  (h0 : Heap) (n0 : Nat) (Z0 : n0 ≤ h0.size) :
    own_Met l Z (⟨"java/lang/Math", "max", "(II)I"⟩ : MethodName) ws jdk_29_method_65_code 2 (some .int) ({ frames := 0, cells := 0, slots := 0, locals := 0 } : Room) #[(.int (10 : Int32)), (.int (1 : Int32))] h0 (fun v h L => v = some (.int (10 : Int32)) ∧ Fr n0 L ∧ h = h0) := by
  refine own_body (y := (⟨"java/lang/Math", "max", "(II)I"⟩ : MethodName)) (Jvm.Free.JP.mathPlain rfl (by decide +kernel)) ?_
  intro p e s m below meth c s₁ hx hby hml hown hnm hret hlk hZ X0 e0
  have hml : c.maxLocals = 2 := hml
  have hown : s.vm.findClass "java/lang/Math" = some m.cls := hown
  have N0 := Fr.nil n0
  refine own_entry (ef_rmMx m (10 : Int32) (1 : Int32)) ?_
  show own_Dn p e below s (fun v h L => v = some (.int (10 : Int32)) ∧ Fr n0 L ∧ h = h0) ({ frames := 0, cells := 0, slots := 0, locals := 0 } : Room).cells ({ frames := 0, cells := 0, slots := 0, locals := 0 } : Room).slots (s₁.setTop (mkF m 0 #[.val (.int (10 : Int32)), .val (.int (1 : Int32))] []))
  refine own_st (q' := s₁.setTop (mkF m 10 #[.val (.int (10 : Int32)), .val (.int (1 : Int32))] [(.int (10 : Int32))])) (fun _ k => XS.iloadN X0.here hx rfl (hb hby d_rmMx_0) rfl (XS.iloadN X0.here hx rfl (hb hby d_rmMx_1) rfl (XS.icmpNo X0.here hx rfl (hb hby d_rmMx_2) rfl (flt ((by decide : ¬ ((10 : Int32) < (1 : Int32))) : ¬ ((10 : Int32) < (1 : Int32)))).1 (XS.iloadN X0.here hx rfl (hb hby d_rmMx_5) rfl (XS.goto X0.here hx rfl (pc0 := 6) (pc' := 10) rfl (hb hby d_rmMx_6) (by decide) (by decide) k))))) ?_
  exact own_retI X0 hx hlk hret (hb hby d_rmMx_10) e0 (by exact ⟨rfl, N0, rfl⟩) (by decide) (by decide)
theorem ef_rmMn (m : MethodId) (x0 : Int32) (x1 : Int32) : entryFrame m #[(.int x0), (.int x1)] 2 = mkF m 0 #[.val (.int x0), .val (.int x1)] [] := by first | (simp [entryFrame, mkF, argsToLocals, Value.category]; done) | rfl
theorem d_rmMn_0 : decode jdk_29_method_69_code 0 = .ok (.iload_n 0, 1) := by decide +kernel
theorem d_rmMn_1 : decode jdk_29_method_69_code 1 = .ok (.iload_n 1, 1) := by decide +kernel
theorem d_rmMn_2 : decode jdk_29_method_69_code 2 = .ok (.if_icmp .gt 7, 3) := by decide +kernel
theorem d_rmMn_9 : decode jdk_29_method_69_code 9 = .ok (.iload_n 1, 1) := by decide +kernel
theorem d_rmMn_10 : decode jdk_29_method_69_code 10 = .ok (.ireturn, 1) := by decide +kernel
set_option maxRecDepth 65536 in
set_option maxHeartbeats 40000000 in
theorem rmMn (l : Launch) (Z : State) (a0 : Array Value) (hw : ∀ d ∈ tables_1, d.before a0 Z = true) (ws : List Jvm.Cond)  (h0 : Heap) (n0 : Nat) (Z0 : n0 ≤ h0.size) :
    own_Met l Z (⟨"java/lang/Math", "min", "(II)I"⟩ : MethodName) ws jdk_29_method_69_code 2 (some .int) ({ frames := 0, cells := 0, slots := 0, locals := 0 } : Room) #[(.int (10 : Int32)), (.int (1 : Int32))] h0 (fun v h L => v = some (.int (1 : Int32)) ∧ Fr n0 L ∧ h = h0) := by
  refine own_body (y := (⟨"java/lang/Math", "min", "(II)I"⟩ : MethodName)) (Jvm.Free.JP.mathPlain rfl (by decide +kernel)) ?_
  intro p e s m below meth c s₁ hx hby hml hown hnm hret hlk hZ X0 e0
  have hml : c.maxLocals = 2 := hml
  have hown : s.vm.findClass "java/lang/Math" = some m.cls := hown
  have N0 := Fr.nil n0
  refine own_entry (ef_rmMn m (10 : Int32) (1 : Int32)) ?_
  show own_Dn p e below s (fun v h L => v = some (.int (1 : Int32)) ∧ Fr n0 L ∧ h = h0) ({ frames := 0, cells := 0, slots := 0, locals := 0 } : Room).cells ({ frames := 0, cells := 0, slots := 0, locals := 0 } : Room).slots (s₁.setTop (mkF m 0 #[.val (.int (10 : Int32)), .val (.int (1 : Int32))] []))
  refine own_st (q' := s₁.setTop (mkF m 10 #[.val (.int (10 : Int32)), .val (.int (1 : Int32))] [(.int (1 : Int32))])) (fun _ k => XS.iloadN X0.here hx rfl (hb hby d_rmMn_0) rfl (XS.iloadN X0.here hx rfl (hb hby d_rmMn_1) rfl (XS.icmpYes X0.here hx rfl (pc0 := 2) (pc' := 9) rfl (hb hby d_rmMn_2) rfl (tlt ((by decide : (1 : Int32) < (10 : Int32)) : (1 : Int32) < (10 : Int32))).2.2.1 (by decide) (by decide) (XS.iloadN X0.here hx rfl (hb hby d_rmMn_9) rfl k)))) ?_
  exact own_retI X0 hx hlk hret (hb hby d_rmMn_10) e0 (by exact ⟨rfl, N0, rfl⟩) (by decide) (by decide)
theorem pn_0 : plainName "java/util/AbstractCollection" = true := by first | (simp [plainName, overriddenIn]; done) | decide +kernel
theorem ef_rmAC (m : MethodId) (x0 : Addr) : entryFrame m #[(.ref x0)] 1 = mkF m 0 #[.val (.ref x0)] [] := by first | (simp [entryFrame, mkF, argsToLocals, Value.category]; done) | rfl
theorem wd_27 {a0 : Array Value} {Z : State} (hw : ∀ d ∈ tables_1, d.before a0 Z = true) : Cond.before (Jvm.Cond.methodLink "java/util/AbstractCollection" (1 : Nat) ({ cls := "java/lang/Object", name := "<init>", desc := "()V" } : Jvm.MethodName)) a0 Z = true := hw _ (List.mem_of_getElem? (i := 27) rfl)
theorem wd_7 {a0 : Array Value} {Z : State} (hw : ∀ d ∈ tables_1, d.before a0 Z = true) : Cond.before (Jvm.Cond.instanceMethod ({ cls := "java/lang/Object", name := "<init>", desc := "()V" } : Jvm.MethodName)) a0 Z = true := hw _ (List.mem_of_getElem? (i := 7) rfl)
theorem wd_8 {a0 : Array Value} {Z : State} (hw : ∀ d ∈ tables_1, d.before a0 Z = true) : Cond.before (Jvm.Cond.code ({ cls := "java/lang/Object", name := "<init>", desc := "()V" } : Jvm.MethodName) object_method_1_code (1 : Nat) (Option.none : Option Jvm.ClassFile.FieldType)) a0 Z = true := hw _ (List.mem_of_getElem? (i := 8) rfl)
theorem d_rmAC_0 : decode jdk_22_method_1_code 0 = .ok (.aload_n 0, 1) := by decide +kernel
theorem d_rmAC_1 : decode jdk_22_method_1_code 1 = .ok (.invokespecial 1, 3) := by decide +kernel
theorem d_rmAC_4 : decode jdk_22_method_1_code 4 = .ok (.return_, 1) := by decide +kernel
set_option maxRecDepth 65536 in
set_option maxHeartbeats 40000000 in
theorem rmAC (l : Launch) (Z : State) (a0 : Array Value) (hw : ∀ d ∈ tables_1, d.before a0 Z = true) (ws : List Jvm.Cond) (b : Addr) (h0 : Heap) (n0 : Nat) (Z0 : n0 ≤ h0.size) :
    own_Met l Z (⟨"java/util/AbstractCollection", "<init>", "()V"⟩ : MethodName) ws jdk_22_method_1_code 1 none ({ frames := 1, cells := 0, slots := 0, locals := 12 } : Room) #[(.ref b)] h0 (fun v h L => v = none ∧ Fr n0 L ∧ h = h0) := by
  refine own_body (y := (⟨"java/util/AbstractCollection", "<init>", "()V"⟩ : MethodName)) (plainFor_of_name pn_0) ?_
  intro p e s m below meth c s₁ hx hby hml hown hnm hret hlk hZ X0 e0
  have hml : c.maxLocals = 1 := hml
  have hown : s.vm.findClass "java/util/AbstractCollection" = some m.cls := hown
  have N0 := Fr.nil n0
  refine own_entry (ef_rmAC m b) ?_
  show own_Dn p e below s (fun v h L => v = none ∧ Fr n0 L ∧ h = h0) ({ frames := 1, cells := 0, slots := 0, locals := 12 } : Room).cells ({ frames := 1, cells := 0, slots := 0, locals := 12 } : Room).slots (s₁.setTop (mkF m 0 #[.val (.ref b)] []))
  refine own_st (q' := s₁.setTop (mkF m 1 #[.val (.ref b)] [(.ref b)])) (fun _ k => XS.aloadN X0.here hx rfl (hb hby d_rmAC_0) rfl rfl k) ?_
  obtain ⟨T101, X101, e101, st101⟩ := initO X0 hx hZ hown (wd_27 hw) (wd_7 hw) (wd_8 hw) e0 (g := (mkF m 1 #[.val (.ref b)] [(.ref b)])) rfl (by rw [hml]; rfl) rfl (hb hby d_rmAC_1) (by decide) (W := 0) (by show 2 * 0 + _ ≤ _; exact Nat.le_of_eq rfl) (by decide)
  refine own_st (q' := T101.setTop (mkF m 4 #[.val (.ref b)] [])) st101 ?_
  exact own_retV X101 hx hlk hret (hb hby d_rmAC_4) e101 (by exact ⟨rfl, N0, rfl⟩) (by decide) (by decide)
theorem pn_1 : plainName "java/util/AbstractList" = true := by first | (simp [plainName, overriddenIn]; done) | decide +kernel
theorem ef_rmAB (m : MethodId) (x0 : Addr) : entryFrame m #[(.ref x0)] 1 = mkF m 0 #[.val (.ref x0)] [] := by first | (simp [entryFrame, mkF, argsToLocals, Value.category]; done) | rfl
theorem wd_21 {a0 : Array Value} {Z : State} (hw : ∀ d ∈ tables_1, d.before a0 Z = true) : Cond.before (Jvm.Cond.methodLink "java/util/AbstractList" (1 : Nat) ({ cls := "java/util/AbstractCollection", name := "<init>", desc := "()V" } : Jvm.MethodName)) a0 Z = true := hw _ (List.mem_of_getElem? (i := 21) rfl)
theorem pd_0 : parseMethodDescriptor "()V" = some ⟨[], none⟩ := by decide +kernel
theorem wd_22 {a0 : Array Value} {Z : State} (hw : ∀ d ∈ tables_1, d.before a0 Z = true) : Cond.before (Jvm.Cond.instanceMethod ({ cls := "java/util/AbstractCollection", name := "<init>", desc := "()V" } : Jvm.MethodName)) a0 Z = true := hw _ (List.mem_of_getElem? (i := 22) rfl)
theorem wd_25 {a0 : Array Value} {Z : State} (hw : ∀ d ∈ tables_1, d.before a0 Z = true) : Cond.before (Jvm.Cond.initialized "java/util/AbstractCollection") a0 Z = true := hw _ (List.mem_of_getElem? (i := 25) rfl)
theorem wd_26 {a0 : Array Value} {Z : State} (hw : ∀ d ∈ tables_1, d.before a0 Z = true) : Cond.before (Jvm.Cond.code ({ cls := "java/util/AbstractCollection", name := "<init>", desc := "()V" } : Jvm.MethodName) jdk_22_method_1_code (1 : Nat) (Option.none : Option Jvm.ClassFile.FieldType)) a0 Z = true := hw _ (List.mem_of_getElem? (i := 26) rfl)
theorem wd_28 {a0 : Array Value} {Z : State} (hw : ∀ d ∈ tables_1, d.before a0 Z = true) : Cond.before (Jvm.Cond.fieldLink "java/util/AbstractList" (7 : Nat) "java/util/AbstractList" "modCount" "I") a0 Z = true := hw _ (List.mem_of_getElem? (i := 28) rfl)
theorem wd_10 {a0 : Array Value} {Z : State} (hw : ∀ d ∈ tables_1, d.before a0 Z = true) : Cond.before (Jvm.Cond.instantiable "java/util/ArrayList" (3 : Nat)) a0 Z = true := hw _ (List.mem_of_getElem? (i := 10) rfl)
theorem wd_29 {a0 : Array Value} {Z : State} (hw : ∀ d ∈ tables_1, d.before a0 Z = true) : Cond.before (Jvm.Cond.lays "java/util/ArrayList" "java/util/AbstractList" "modCount" "I") a0 Z = true := hw _ (List.mem_of_getElem? (i := 29) rfl)
theorem wd_91 {a0 : Array Value} {Z : State} (hw : ∀ d ∈ tables_1, d.before a0 Z = true) : Cond.before (Jvm.Cond.lays "java/util/ArrayList" "java/util/ArrayList" "size" "I") a0 Z = true := hw _ (List.mem_of_getElem? (i := 91) rfl)
theorem sn_0 {a0 : Array Value} {Z : State} (hw : ∀ d ∈ tables_1, d.before a0 Z = true) : Jvm.RoadKit.slotOf Z "java/util/ArrayList" "size" "I" ≠ Jvm.RoadKit.slotOf Z "java/util/AbstractList" "modCount" "I" := slot_ne (Or.inl (wd_91 hw)) (Or.inl (wd_29 hw)) (by decide) (t := .int) (t' := .int) (by decide) (by decide)
theorem wd_32 {a0 : Array Value} {Z : State} (hw : ∀ d ∈ tables_1, d.before a0 Z = true) : Cond.before (Jvm.Cond.lays "java/util/ArrayList" "java/util/ArrayList" "elementData" "[Ljava/lang/Object;") a0 Z = true := hw _ (List.mem_of_getElem? (i := 32) rfl)
theorem sn_1 {a0 : Array Value} {Z : State} (hw : ∀ d ∈ tables_1, d.before a0 Z = true) : Jvm.RoadKit.slotOf Z "java/util/ArrayList" "elementData" "[Ljava/lang/Object;" ≠ Jvm.RoadKit.slotOf Z "java/util/AbstractList" "modCount" "I" := slot_ne (Or.inl (wd_32 hw)) (Or.inl (wd_29 hw)) (by decide) (t := (.array (.object "java/lang/Object"))) (t' := .int) (by decide) (by decide)
theorem d_rmAB_0 : decode jdk_39_method_1_code 0 = .ok (.aload_n 0, 1) := by decide +kernel
theorem d_rmAB_1 : decode jdk_39_method_1_code 1 = .ok (.invokespecial 1, 3) := by decide +kernel
theorem d_rmAB_4 : decode jdk_39_method_1_code 4 = .ok (.aload_n 0, 1) := by decide +kernel
theorem d_rmAB_5 : decode jdk_39_method_1_code 5 = .ok (.iconst 0, 1) := by decide +kernel
theorem d_rmAB_6 : decode jdk_39_method_1_code 6 = .ok (.putfield 7, 3) := by decide +kernel
theorem d_rmAB_9 : decode jdk_39_method_1_code 9 = .ok (.return_, 1) := by decide +kernel
set_option maxRecDepth 65536 in
set_option maxHeartbeats 40000000 in
theorem rmAB (l : Launch) (Z : State) (a0 : Array Value) (hw : ∀ d ∈ tables_1, d.before a0 Z = true) (ws : List Jvm.Cond) (b dc : Addr) (h0 : Heap) (n0 : Nat) (Z0 : n0 ≤ h0.size) (E1 : Exa Z h0 b "java/util/ArrayList") (g1 : n0 ≤ b) (F_mod : Fld Z h0 b "java/util/AbstractList" "modCount" "I" (.int (0 : Int32))) (F_sz : Fld Z h0 b "java/util/ArrayList" "size" "I" (.int (0 : Int32))) (F_ed : Fld Z h0 b "java/util/ArrayList" "elementData" "[Ljava/lang/Object;" .null) (Fs : Sta Z h0 "java/util/ArrayList" "DEFAULTCAPACITY_EMPTY_ELEMENTDATA" "[Ljava/lang/Object;" (.ref dc)) (A0 : own_A Z h0 dc 0) :
    own_Met l Z (⟨"java/util/AbstractList", "<init>", "()V"⟩ : MethodName) ws jdk_39_method_1_code 1 none ({ frames := 2, cells := 0, slots := 0, locals := 24 } : Room) #[(.ref b)] h0 (fun v h L => v = none ∧ Fr n0 L ∧ Keep h0 h [b] ∧ Exa Z h b "java/util/ArrayList" ∧ Fld Z h b "java/util/AbstractList" "modCount" "I" (.int (0 : Int32)) ∧ Fld Z h b "java/util/ArrayList" "size" "I" (.int (0 : Int32)) ∧ Fld Z h b "java/util/ArrayList" "elementData" "[Ljava/lang/Object;" .null ∧ Sta Z h "java/util/ArrayList" "DEFAULTCAPACITY_EMPTY_ELEMENTDATA" "[Ljava/lang/Object;" (.ref dc) ∧ own_A Z h dc 0) := by
  refine own_body (y := (⟨"java/util/AbstractList", "<init>", "()V"⟩ : MethodName)) (plainFor_of_name pn_1) ?_
  intro p e s m below meth c s₁ hx hby hml hown hnm hret hlk hZ X0 e0
  have hml : c.maxLocals = 1 := hml
  have hown : s.vm.findClass "java/util/AbstractList" = some m.cls := hown
  have N0 := Fr.nil n0
  refine own_entry (ef_rmAB m b) ?_
  show own_Dn p e below s (fun v h L => v = none ∧ Fr n0 L ∧ Keep h0 h [b] ∧ Exa Z h b "java/util/ArrayList" ∧ Fld Z h b "java/util/AbstractList" "modCount" "I" (.int (0 : Int32)) ∧ Fld Z h b "java/util/ArrayList" "size" "I" (.int (0 : Int32)) ∧ Fld Z h b "java/util/ArrayList" "elementData" "[Ljava/lang/Object;" .null ∧ Sta Z h "java/util/ArrayList" "DEFAULTCAPACITY_EMPTY_ELEMENTDATA" "[Ljava/lang/Object;" (.ref dc) ∧ own_A Z h dc 0) ({ frames := 2, cells := 0, slots := 0, locals := 24 } : Room).cells ({ frames := 2, cells := 0, slots := 0, locals := 24 } : Room).slots (s₁.setTop (mkF m 0 #[.val (.ref b)] []))
  refine own_st (q' := s₁.setTop (mkF m 1 #[.val (.ref b)] [(.ref b)])) (fun _ k => XS.aloadN X0.here hx rfl (hb hby d_rmAB_0) rfl rfl k) ?_
  refine own_callI (y := (⟨"java/util/AbstractCollection", "<init>", "()V"⟩ : MethodName)) X0 hx hZ hown rfl (wd_21 hw) (wd_22 hw) (wd_25 hw) (wd_26 hw) (by decide) (rmAC l Z a0 hw [] b h0 n0 Z0) e0 (W := 0) (by decide) (by decide) (by decide) (by decide) (g := (mkF m 1 #[.val (.ref b)] [(.ref b)])) rfl (by rw [hml]; rfl) (a := b) (argsL := []) (rest := []) rfl (lenOf pd_0 rfl) rfl (by show 2 * 0 + _ ≤ _; exact Nat.le_of_eq rfl) (hb hby d_rmAB_1) ?_
  intro v101 T101 L101 hQ101 X101
  obtain ⟨rfl, NN101, e101⟩ := hQ101
  have N101 := Fr.app N0 NN101
  show own_Dn p e below s (fun v h L => v = none ∧ Fr n0 L ∧ Keep h0 h [b] ∧ Exa Z h b "java/util/ArrayList" ∧ Fld Z h b "java/util/AbstractList" "modCount" "I" (.int (0 : Int32)) ∧ Fld Z h b "java/util/ArrayList" "size" "I" (.int (0 : Int32)) ∧ Fld Z h b "java/util/ArrayList" "elementData" "[Ljava/lang/Object;" .null ∧ Sta Z h "java/util/ArrayList" "DEFAULTCAPACITY_EMPTY_ELEMENTDATA" "[Ljava/lang/Object;" (.ref dc) ∧ own_A Z h dc 0) ({ frames := 2, cells := 0, slots := 0, locals := 24 } : Room).cells ({ frames := 2, cells := 0, slots := 0, locals := 24 } : Room).slots (T101.setTop (mkF m 4 #[.val (.ref b)] []))
  refine own_st (q' := T101.setTop (mkF m 6 #[.val (.ref b)] [(.int (0 : Int32)), (.ref b)])) (fun _ k => XS.aloadN X101.here hx rfl (hb hby d_rmAB_4) rfl rfl (XS.iconst X101.here hx rfl (hb hby d_rmAB_5) k)) ?_
  obtain ⟨T102, h102, X102, e102, W102, st102⟩ := putF X101 hx hZ hown (host := "") (Or.inl (wd_28 hw)) Via.refl e101 F_mod E1 (Or.inl (wd_29 hw)) (wd_10 hw) (ty := .int) (by decide) rfl rfl (g := (mkF m 6 #[.val (.ref b)] [(.int (0 : Int32)), (.ref b)])) rfl rfl (hb hby d_rmAB_6)
  have N102 := Fr.snoc X102 N101 g1
  have K103 : Keep h0 h102 [b] := ((Keep.refl h0 [b]).wr W102 (Or.inl (List.mem_of_getElem? (i := 0) rfl)))
  have F102 := F_mod.same W102
  refine own_st (q' := T102.setTop (mkF m 9 #[.val (.ref b)] [])) st102 ?_
  have f104 := (E1.wr W102)
  have f105 := (F_sz.other W102 (Or.inr (sn_0 hw)))
  have f106 := (F_ed.other W102 (Or.inr (sn_1 hw)))
  have f107 := (Fs.wr W102)
  have f108 := (A0.wr W102)
  exact own_retV X102 hx hlk hret (hb hby d_rmAB_9) e102 (by exact ⟨rfl, N102, K103, f104, F102, f105, f106, f107, f108⟩) (by decide) (by decide)
theorem pn_2 : plainName "java/util/ArrayList" = true := by first | (simp [plainName, overriddenIn]; done) | decide +kernel
theorem ef_rmLI (m : MethodId) (x0 : Addr) : entryFrame m #[(.ref x0)] 1 = mkF m 0 #[.val (.ref x0)] [] := by first | (simp [entryFrame, mkF, argsToLocals, Value.category]; done) | rfl
theorem wd_15 {a0 : Array Value} {Z : State} (hw : ∀ d ∈ tables_1, d.before a0 Z = true) : Cond.before (Jvm.Cond.methodLink "java/util/ArrayList" (1 : Nat) ({ cls := "java/util/AbstractList", name := "<init>", desc := "()V" } : Jvm.MethodName)) a0 Z = true := hw _ (List.mem_of_getElem? (i := 15) rfl)
theorem wd_16 {a0 : Array Value} {Z : State} (hw : ∀ d ∈ tables_1, d.before a0 Z = true) : Cond.before (Jvm.Cond.instanceMethod ({ cls := "java/util/AbstractList", name := "<init>", desc := "()V" } : Jvm.MethodName)) a0 Z = true := hw _ (List.mem_of_getElem? (i := 16) rfl)
theorem wd_19 {a0 : Array Value} {Z : State} (hw : ∀ d ∈ tables_1, d.before a0 Z = true) : Cond.before (Jvm.Cond.initialized "java/util/AbstractList") a0 Z = true := hw _ (List.mem_of_getElem? (i := 19) rfl)
theorem wd_20 {a0 : Array Value} {Z : State} (hw : ∀ d ∈ tables_1, d.before a0 Z = true) : Cond.before (Jvm.Cond.code ({ cls := "java/util/AbstractList", name := "<init>", desc := "()V" } : Jvm.MethodName) jdk_39_method_1_code (1 : Nat) (Option.none : Option Jvm.ClassFile.FieldType)) a0 Z = true := hw _ (List.mem_of_getElem? (i := 20) rfl)
theorem wd_30 {a0 : Array Value} {Z : State} (hw : ∀ d ∈ tables_1, d.before a0 Z = true) : Cond.before (Jvm.Cond.fieldLink "java/util/ArrayList" (39 : Nat) "java/util/ArrayList" "DEFAULTCAPACITY_EMPTY_ELEMENTDATA" "[Ljava/lang/Object;") a0 Z = true := hw _ (List.mem_of_getElem? (i := 30) rfl)
theorem wd_31 {a0 : Array Value} {Z : State} (hw : ∀ d ∈ tables_1, d.before a0 Z = true) : Cond.before (Jvm.Cond.fieldLink "java/util/ArrayList" (9 : Nat) "java/util/ArrayList" "elementData" "[Ljava/lang/Object;") a0 Z = true := hw _ (List.mem_of_getElem? (i := 31) rfl)
theorem sn_2 {a0 : Array Value} {Z : State} (hw : ∀ d ∈ tables_1, d.before a0 Z = true) : Jvm.RoadKit.slotOf Z "java/util/AbstractList" "modCount" "I" ≠ Jvm.RoadKit.slotOf Z "java/util/ArrayList" "elementData" "[Ljava/lang/Object;" := slot_ne (Or.inl (wd_29 hw)) (Or.inl (wd_32 hw)) (by decide) (t := .int) (t' := (.array (.object "java/lang/Object"))) (by decide) (by decide)
theorem sn_3 {a0 : Array Value} {Z : State} (hw : ∀ d ∈ tables_1, d.before a0 Z = true) : Jvm.RoadKit.slotOf Z "java/util/ArrayList" "size" "I" ≠ Jvm.RoadKit.slotOf Z "java/util/ArrayList" "elementData" "[Ljava/lang/Object;" := slot_ne (Or.inl (wd_91 hw)) (Or.inl (wd_32 hw)) (by decide) (t := .int) (t' := (.array (.object "java/lang/Object"))) (by decide) (by decide)
theorem d_rmLI_0 : decode jdk_38_method_2_code 0 = .ok (.aload_n 0, 1) := by decide +kernel
theorem d_rmLI_1 : decode jdk_38_method_2_code 1 = .ok (.invokespecial 1, 3) := by decide +kernel
theorem d_rmLI_4 : decode jdk_38_method_2_code 4 = .ok (.aload_n 0, 1) := by decide +kernel
theorem d_rmLI_5 : decode jdk_38_method_2_code 5 = .ok (.getstatic 39, 3) := by decide +kernel
theorem d_rmLI_8 : decode jdk_38_method_2_code 8 = .ok (.putfield 9, 3) := by decide +kernel
theorem d_rmLI_11 : decode jdk_38_method_2_code 11 = .ok (.return_, 1) := by decide +kernel
set_option maxRecDepth 65536 in
set_option maxHeartbeats 40000000 in
theorem rmLI (l : Launch) (Z : State) (a0 : Array Value) (hw : ∀ d ∈ tables_1, d.before a0 Z = true) (ws : List Jvm.Cond) (b dc : Addr) (h0 : Heap) (n0 : Nat) (Z0 : n0 ≤ h0.size) (E1 : Exa Z h0 b "java/util/ArrayList") (g1 : n0 ≤ b) (F_mod : Fld Z h0 b "java/util/AbstractList" "modCount" "I" (.int (0 : Int32))) (F_sz : Fld Z h0 b "java/util/ArrayList" "size" "I" (.int (0 : Int32))) (F_ed : Fld Z h0 b "java/util/ArrayList" "elementData" "[Ljava/lang/Object;" .null) (Fs : Sta Z h0 "java/util/ArrayList" "DEFAULTCAPACITY_EMPTY_ELEMENTDATA" "[Ljava/lang/Object;" (.ref dc)) (A0 : own_A Z h0 dc 0) :
    own_Met l Z (⟨"java/util/ArrayList", "<init>", "()V"⟩ : MethodName) ws jdk_38_method_2_code 1 none ({ frames := 3, cells := 0, slots := 0, locals := 36 } : Room) #[(.ref b)] h0 (fun v h L => v = none ∧ Fr n0 L ∧ Keep h0 h [b] ∧ own_F Z n0 dc h b ∧ Sta Z h "java/util/ArrayList" "DEFAULTCAPACITY_EMPTY_ELEMENTDATA" "[Ljava/lang/Object;" (.ref dc) ∧ own_A Z h dc 0) := by
  refine own_body (y := (⟨"java/util/ArrayList", "<init>", "()V"⟩ : MethodName)) (plainFor_of_name pn_2) ?_
  intro p e s m below meth c s₁ hx hby hml hown hnm hret hlk hZ X0 e0
  have hml : c.maxLocals = 1 := hml
  have hown : s.vm.findClass "java/util/ArrayList" = some m.cls := hown
  have N0 := Fr.nil n0
  refine own_entry (ef_rmLI m b) ?_
  show own_Dn p e below s (fun v h L => v = none ∧ Fr n0 L ∧ Keep h0 h [b] ∧ own_F Z n0 dc h b ∧ Sta Z h "java/util/ArrayList" "DEFAULTCAPACITY_EMPTY_ELEMENTDATA" "[Ljava/lang/Object;" (.ref dc) ∧ own_A Z h dc 0) ({ frames := 3, cells := 0, slots := 0, locals := 36 } : Room).cells ({ frames := 3, cells := 0, slots := 0, locals := 36 } : Room).slots (s₁.setTop (mkF m 0 #[.val (.ref b)] []))
  refine own_st (q' := s₁.setTop (mkF m 1 #[.val (.ref b)] [(.ref b)])) (fun _ k => XS.aloadN X0.here hx rfl (hb hby d_rmLI_0) rfl rfl k) ?_
  refine own_callI (y := (⟨"java/util/AbstractList", "<init>", "()V"⟩ : MethodName)) X0 hx hZ hown rfl (wd_15 hw) (wd_16 hw) (wd_19 hw) (wd_20 hw) (by decide) (rmAB l Z a0 hw [] b dc h0 n0 Z0 E1 g1 F_mod F_sz F_ed Fs A0) e0 (W := 0) (by decide) (by decide) (by decide) (by decide) (g := (mkF m 1 #[.val (.ref b)] [(.ref b)])) rfl (by rw [hml]; rfl) (a := b) (argsL := []) (rest := []) rfl (lenOf pd_0 rfl) rfl (by show 2 * 0 + _ ≤ _; exact Nat.le_of_eq rfl) (hb hby d_rmLI_1) ?_
  intro v101 T101 L101 hQ101 X101
  obtain ⟨rfl, NN101, KK101, q101_0, q101_1, q101_2, q101_3, q101_4, q101_5⟩ := hQ101
  have N101 := Fr.app N0 NN101
  have K102 : Keep h0 T101.heap [b] := ((Keep.refl h0 [b]).trans KK101 (allS (Or.inl (List.mem_of_getElem? (i := 0) rfl)) all0))
  show own_Dn p e below s (fun v h L => v = none ∧ Fr n0 L ∧ Keep h0 h [b] ∧ own_F Z n0 dc h b ∧ Sta Z h "java/util/ArrayList" "DEFAULTCAPACITY_EMPTY_ELEMENTDATA" "[Ljava/lang/Object;" (.ref dc) ∧ own_A Z h dc 0) ({ frames := 3, cells := 0, slots := 0, locals := 36 } : Room).cells ({ frames := 3, cells := 0, slots := 0, locals := 36 } : Room).slots (T101.setTop (mkF m 4 #[.val (.ref b)] []))
  refine own_st (q' := T101.setTop (mkF m 5 #[.val (.ref b)] [(.ref b)])) (fun _ k => XS.aloadN X101.here hx rfl (hb hby d_rmLI_4) rfl rfl k) ?_
  obtain ⟨T103, X103, e103, st103⟩ := getS2 X101 hx hZ hown (host := "") (Or.inl (wd_30 hw)) Via.refl (rfl : T101.heap = T101.heap) q101_4 (g := (mkF m 5 #[.val (.ref b)] [(.ref b)])) rfl (hb hby d_rmLI_5)
  refine own_st (q' := T103.setTop (mkF m 8 #[.val (.ref b)] [(.ref dc), (.ref b)])) st103 ?_
  obtain ⟨T104, h104, X104, e104, W104, st104⟩ := putF X103 hx hZ hown (host := "") (Or.inl (wd_31 hw)) Via.refl e103 q101_3 q101_0 (Or.inl (wd_32 hw)) (wd_10 hw) (ty := (.array (.object "java/lang/Object"))) (by decide) rfl rfl (g := (mkF m 8 #[.val (.ref b)] [(.ref dc), (.ref b)])) rfl rfl (hb hby d_rmLI_8)
  have N104 := Fr.snoc X104 N101 g1
  have K105 : Keep h0 h104 [b] := (K102.wr W104 (Or.inl (List.mem_of_getElem? (i := 0) rfl)))
  have F104 := q101_3.same W104
  refine own_st (q' := T104.setTop (mkF m 11 #[.val (.ref b)] [])) st104 ?_
  have f106 := (q101_0.wr W104)
  have f107 := (q101_1.other W104 (Or.inr (sn_2 hw)))
  have f108 := (q101_2.other W104 (Or.inr (sn_3 hw)))
  have f109 := (q101_4.wr W104)
  have f110 := (q101_5.wr W104)
  exact own_retV X104 hx hlk hret (hb hby d_rmLI_11) e104 (by exact ⟨rfl, N104, K105, ⟨f106, g1, _, f107, f108, F104⟩, f109, f110⟩) (by decide) (by decide)
theorem ef_rmG1 (m : MethodId) (x0 : Addr) (x1 : Int32) : entryFrame m #[(.ref x0), (.int x1)] 4 = mkF m 0 #[.val (.ref x0), .val (.int x1), .unset, .unset] [] := by first | (simp [entryFrame, mkF, argsToLocals, Value.category]; done) | rfl
theorem wd_107 {a0 : Array Value} {Z : State} (hw : ∀ d ∈ tables_1, d.before a0 Z = true) : Cond.before (Jvm.Cond.methodLink "java/util/ArrayList" (79 : Nat) ({ cls := "java/lang/Math", name := "max", desc := "(II)I" } : Jvm.MethodName)) a0 Z = true := hw _ (List.mem_of_getElem? (i := 107) rfl)
theorem pd_1 : parseMethodDescriptor "(II)I" = some ⟨[.int, .int], some .int⟩ := by decide +kernel
theorem wd_108 {a0 : Array Value} {Z : State} (hw : ∀ d ∈ tables_1, d.before a0 Z = true) : Cond.before (Jvm.Cond.static ({ cls := "java/lang/Math", name := "max", desc := "(II)I" } : Jvm.MethodName)) a0 Z = true := hw _ (List.mem_of_getElem? (i := 108) rfl)
theorem wd_109 {a0 : Array Value} {Z : State} (hw : ∀ d ∈ tables_1, d.before a0 Z = true) : Cond.before (Jvm.Cond.initialized "java/lang/Math") a0 Z = true := hw _ (List.mem_of_getElem? (i := 109) rfl)
theorem wd_110 {a0 : Array Value} {Z : State} (hw : ∀ d ∈ tables_1, d.before a0 Z = true) : Cond.before (Jvm.Cond.code ({ cls := "java/lang/Math", name := "max", desc := "(II)I" } : Jvm.MethodName) jdk_29_method_65_code (2 : Nat) (Option.some Jvm.ClassFile.FieldType.int)) a0 Z = true := hw _ (List.mem_of_getElem? (i := 110) rfl)
theorem wd_111 {a0 : Array Value} {Z : State} (hw : ∀ d ∈ tables_1, d.before a0 Z = true) : Cond.before (Jvm.Cond.classLink "java/util/ArrayList" (7 : Nat) "java/lang/Object") a0 Z = true := hw _ (List.mem_of_getElem? (i := 111) rfl)
theorem wd_112 {a0 : Array Value} {Z : State} (hw : ∀ d ∈ tables_1, d.before a0 Z = true) : Cond.before (Jvm.Cond.arrayOver (Jvm.ClassFile.FieldType.object "java/lang/Object")) a0 Z = true := hw _ (List.mem_of_getElem? (i := 112) rfl)
theorem d_rmG1_0 : decode jdk_38_method_6_code 0 = .ok (.aload_n 0, 1) := by decide +kernel
theorem d_rmG1_1 : decode jdk_38_method_6_code 1 = .ok (.getfield 9, 3) := by decide +kernel
theorem d_rmG1_4 : decode jdk_38_method_6_code 4 = .ok (.arraylength, 1) := by decide +kernel
theorem d_rmG1_5 : decode jdk_38_method_6_code 5 = .ok (.istore_n 2, 1) := by decide +kernel
theorem d_rmG1_6 : decode jdk_38_method_6_code 6 = .ok (.iload_n 2, 1) := by decide +kernel
theorem d_rmG1_7 : decode jdk_38_method_6_code 7 = .ok (.ifCond .gt 13, 3) := by decide +kernel
theorem d_rmG1_10 : decode jdk_38_method_6_code 10 = .ok (.aload_n 0, 1) := by decide +kernel
theorem d_rmG1_11 : decode jdk_38_method_6_code 11 = .ok (.getfield 9, 3) := by decide +kernel
theorem d_rmG1_14 : decode jdk_38_method_6_code 14 = .ok (.getstatic 39, 3) := by decide +kernel
theorem d_rmG1_17 : decode jdk_38_method_6_code 17 = .ok (.if_acmp .eq 28, 3) := by decide +kernel
theorem d_rmG1_45 : decode jdk_38_method_6_code 45 = .ok (.aload_n 0, 1) := by decide +kernel
theorem d_rmG1_46 : decode jdk_38_method_6_code 46 = .ok (.bipush 10, 2) := by decide +kernel
theorem d_rmG1_48 : decode jdk_38_method_6_code 48 = .ok (.iload_n 1, 1) := by decide +kernel
theorem d_rmG1_49 : decode jdk_38_method_6_code 49 = .ok (.invokestatic 79, 3) := by decide +kernel
theorem d_rmG1_52 : decode jdk_38_method_6_code 52 = .ok (.anewarray 7, 3) := by decide +kernel
theorem d_rmG1_55 : decode jdk_38_method_6_code 55 = .ok (.dup_x1, 1) := by decide +kernel
theorem d_rmG1_56 : decode jdk_38_method_6_code 56 = .ok (.putfield 9, 3) := by decide +kernel
theorem d_rmG1_59 : decode jdk_38_method_6_code 59 = .ok (.areturn, 1) := by decide +kernel
set_option maxRecDepth 65536 in
set_option maxHeartbeats 40000000 in
theorem rmG1 (l : Launch) (Z : State) (a0 : Array Value) (hw : ∀ d ∈ tables_1, d.before a0 Z = true) (ws : List Jvm.Cond) (b dc : Addr) (mc : Int32) (h0 : Heap) (n0 : Nat) (Z0 : n0 ≤ h0.size) (E1 : Exa Z h0 b "java/util/ArrayList") (g1 : n0 ≤ b) (F_mod : Fld Z h0 b "java/util/AbstractList" "modCount" "I" (.int mc)) (F_sz : Fld Z h0 b "java/util/ArrayList" "size" "I" (.int (0 : Int32))) (F_ed : Fld Z h0 b "java/util/ArrayList" "elementData" "[Ljava/lang/Object;" (.ref dc)) (Fs : Sta Z h0 "java/util/ArrayList" "DEFAULTCAPACITY_EMPTY_ELEMENTDATA" "[Ljava/lang/Object;" (.ref dc)) (A0 : own_A Z h0 dc 0) :
    own_Met l Z (⟨"java/util/ArrayList", "grow", "(I)[Ljava/lang/Object;"⟩ : MethodName) ws jdk_38_method_6_code 4 (some (.array (.object "java/lang/Object"))) ({ frames := 1, cells := 1, slots := 10, locals := 14 } : Room) #[(.ref b), (.int (1 : Int32))] h0 (fun v h L => ∃ r : Addr, v = some (.ref r) ∧ Fr n0 L ∧ Keep h0 h [b] ∧ h0.size ≤ r ∧ Exa Z h b "java/util/ArrayList" ∧ Fld Z h b "java/util/AbstractList" "modCount" "I" (.int mc) ∧ Fld Z h b "java/util/ArrayList" "size" "I" (.int (0 : Int32)) ∧ Fld Z h b "java/util/ArrayList" "elementData" "[Ljava/lang/Object;" (.ref r) ∧ own_A Z h r 10 ∧ Sta Z h "java/util/ArrayList" "DEFAULTCAPACITY_EMPTY_ELEMENTDATA" "[Ljava/lang/Object;" (.ref dc) ∧ own_A Z h dc 0) := by
  refine own_body (y := (⟨"java/util/ArrayList", "grow", "(I)[Ljava/lang/Object;"⟩ : MethodName)) (plainFor_of_name pn_2) ?_
  intro p e s m below meth c s₁ hx hby hml hown hnm hret hlk hZ X0 e0
  have hml : c.maxLocals = 4 := hml
  have hown : s.vm.findClass "java/util/ArrayList" = some m.cls := hown
  have N0 := Fr.nil n0
  refine own_entry (ef_rmG1 m b (1 : Int32)) ?_
  show own_Dn p e below s (fun v h L => ∃ r : Addr, v = some (.ref r) ∧ Fr n0 L ∧ Keep h0 h [b] ∧ h0.size ≤ r ∧ Exa Z h b "java/util/ArrayList" ∧ Fld Z h b "java/util/AbstractList" "modCount" "I" (.int mc) ∧ Fld Z h b "java/util/ArrayList" "size" "I" (.int (0 : Int32)) ∧ Fld Z h b "java/util/ArrayList" "elementData" "[Ljava/lang/Object;" (.ref r) ∧ own_A Z h r 10 ∧ Sta Z h "java/util/ArrayList" "DEFAULTCAPACITY_EMPTY_ELEMENTDATA" "[Ljava/lang/Object;" (.ref dc) ∧ own_A Z h dc 0) ({ frames := 1, cells := 1, slots := 10, locals := 14 } : Room).cells ({ frames := 1, cells := 1, slots := 10, locals := 14 } : Room).slots (s₁.setTop (mkF m 0 #[.val (.ref b), .val (.int (1 : Int32)), .unset, .unset] []))
  refine own_st (q' := s₁.setTop (mkF m 1 #[.val (.ref b), .val (.int (1 : Int32)), .unset, .unset] [(.ref b)])) (fun _ k => XS.aloadN X0.here hx rfl (hb hby d_rmG1_0) rfl rfl k) ?_
  obtain ⟨T101, X101, e101, st101⟩ := getF X0 hx hZ hown (host := "") (Or.inl (wd_31 hw)) Via.refl e0 F_ed (g := (mkF m 1 #[.val (.ref b), .val (.int (1 : Int32)), .unset, .unset] [(.ref b)])) rfl rfl (hb hby d_rmG1_1)
  refine own_st (q' := T101.setTop (mkF m 4 #[.val (.ref b), .val (.int (1 : Int32)), .unset, .unset] [(.ref dc)])) st101 ?_
  refine own_lenA X101 hx hZ e101 A0 (w := (0 : Int32)) (by decide) (g := (mkF m 4 #[.val (.ref b), .val (.int (1 : Int32)), .unset, .unset] [(.ref dc)])) rfl rfl (hb hby d_rmG1_4) ?_
  show own_Dn p e below s (fun v h L => ∃ r : Addr, v = some (.ref r) ∧ Fr n0 L ∧ Keep h0 h [b] ∧ h0.size ≤ r ∧ Exa Z h b "java/util/ArrayList" ∧ Fld Z h b "java/util/AbstractList" "modCount" "I" (.int mc) ∧ Fld Z h b "java/util/ArrayList" "size" "I" (.int (0 : Int32)) ∧ Fld Z h b "java/util/ArrayList" "elementData" "[Ljava/lang/Object;" (.ref r) ∧ own_A Z h r 10 ∧ Sta Z h "java/util/ArrayList" "DEFAULTCAPACITY_EMPTY_ELEMENTDATA" "[Ljava/lang/Object;" (.ref dc) ∧ own_A Z h dc 0) ({ frames := 1, cells := 1, slots := 10, locals := 14 } : Room).cells ({ frames := 1, cells := 1, slots := 10, locals := 14 } : Room).slots (T101.setTop (mkF m 5 #[.val (.ref b), .val (.int (1 : Int32)), .unset, .unset] [(.int (0 : Int32))]))
  refine own_st (q' := T101.setTop (mkF m 11 #[.val (.ref b), .val (.int (1 : Int32)), .val (.int (0 : Int32)), .unset] [(.ref b)])) (fun _ k => XS.istoreN X101.here hx rfl (hb hby d_rmG1_5) rfl (l' := #[.val (.ref b), .val (.int (1 : Int32)), .val (.int (0 : Int32)), .unset]) rfl (XS.iloadN X101.here hx rfl (hb hby d_rmG1_6) rfl (XS.ifNo X101.here hx rfl (hb hby d_rmG1_7) rfl ((if0 _ _).trans (flt ((by decide : ¬ ((0 : Int32) < (0 : Int32))) : ¬ ((0 : Int32) < (0 : Int32)))).2.2.1) (XS.aloadN X101.here hx rfl (hb hby d_rmG1_10) rfl rfl k)))) ?_
  obtain ⟨T102, X102, e102, st102⟩ := getF X101 hx hZ hown (host := "") (Or.inl (wd_31 hw)) Via.refl e101 F_ed (g := (mkF m 11 #[.val (.ref b), .val (.int (1 : Int32)), .val (.int (0 : Int32)), .unset] [(.ref b)])) rfl rfl (hb hby d_rmG1_11)
  refine own_st (q' := T102.setTop (mkF m 14 #[.val (.ref b), .val (.int (1 : Int32)), .val (.int (0 : Int32)), .unset] [(.ref dc)])) st102 ?_
  obtain ⟨T103, X103, e103, st103⟩ := getS2 X102 hx hZ hown (host := "") (Or.inl (wd_30 hw)) Via.refl e102 Fs (g := (mkF m 14 #[.val (.ref b), .val (.int (1 : Int32)), .val (.int (0 : Int32)), .unset] [(.ref dc)])) rfl (hb hby d_rmG1_14)
  refine own_st (q' := T103.setTop (mkF m 17 #[.val (.ref b), .val (.int (1 : Int32)), .val (.int (0 : Int32)), .unset] [(.ref dc), (.ref dc)])) st103 ?_
  refine own_st (q' := T103.setTop (mkF m 45 #[.val (.ref b), .val (.int (1 : Int32)), .val (.int (0 : Int32)), .unset] [])) (fun _ k => Jvm.RoadKit.acmp (g := (mkF m 17 #[.val (.ref b), .val (.int (1 : Int32)), .val (.int (0 : Int32)), .unset] [(.ref dc), (.ref dc)])) X103 hx rfl rfl rfl (pc0 := 17) (pc' := 45) (same := true) rfl (hb hby d_rmG1_17) rfl (decide_eq_true (rfl)) (by decide) (by decide) k) ?_
  refine own_st (q' := T103.setTop (mkF m 49 #[.val (.ref b), .val (.int (1 : Int32)), .val (.int (0 : Int32)), .unset] [(.int (1 : Int32)), (.int (10 : Int32)), (.ref b)])) (fun _ k => XS.aloadN X103.here hx rfl (hb hby d_rmG1_45) rfl rfl (XS.bipush X103.here hx rfl (hb hby d_rmG1_46) (XS.iloadN X103.here hx rfl (hb hby d_rmG1_48) rfl k))) ?_
  refine own_callS (y := (⟨"java/lang/Math", "max", "(II)I"⟩ : MethodName)) X103 hx hZ hown (wd_107 hw) (wd_108 hw) (wd_109 hw) (wd_110 hw) (by decide) (rmMx l Z a0 hw [] h0 n0 Z0) e103 (W := 1) (by decide) (by decide) (by decide) (by decide) (g := (mkF m 49 #[.val (.ref b), .val (.int (1 : Int32)), .val (.int (0 : Int32)), .unset] [(.int (1 : Int32)), (.int (10 : Int32)), (.ref b)])) rfl (by rw [hml]; rfl) (argsL := [(.int (10 : Int32)), (.int (1 : Int32))]) (rest := [(.ref b)]) rfl (lenOf pd_1 rfl) rfl (by show 2 * 0 + _ ≤ _; exact Nat.le_of_eq rfl) (hb hby d_rmG1_49) ?_
  intro v104 T104 L104 hQ104 X104
  obtain ⟨rfl, NN104, e104⟩ := hQ104
  have N104 := Fr.app N0 NN104
  show own_Dn p e below s (fun v h L => ∃ r : Addr, v = some (.ref r) ∧ Fr n0 L ∧ Keep h0 h [b] ∧ h0.size ≤ r ∧ Exa Z h b "java/util/ArrayList" ∧ Fld Z h b "java/util/AbstractList" "modCount" "I" (.int mc) ∧ Fld Z h b "java/util/ArrayList" "size" "I" (.int (0 : Int32)) ∧ Fld Z h b "java/util/ArrayList" "elementData" "[Ljava/lang/Object;" (.ref r) ∧ own_A Z h r 10 ∧ Sta Z h "java/util/ArrayList" "DEFAULTCAPACITY_EMPTY_ELEMENTDATA" "[Ljava/lang/Object;" (.ref dc) ∧ own_A Z h dc 0) ({ frames := 1, cells := 1, slots := 10, locals := 14 } : Room).cells ({ frames := 1, cells := 1, slots := 10, locals := 14 } : Room).slots (T104.setTop (mkF m 52 #[.val (.ref b), .val (.int (1 : Int32)), .val (.int (0 : Int32)), .unset] [(.int (10 : Int32)), (.ref b)]))
  obtain ⟨T105, h105, X105, e105, E105, A105, st105⟩ := own_newA X104 hx hZ hown (wd_111 hw) (wd_112 hw) e104 (g := (mkF m 52 #[.val (.ref b), .val (.int (1 : Int32)), .val (.int (0 : Int32)), .unset] [(.int (10 : Int32)), (.ref b)])) rfl (hb hby d_rmG1_52) rfl (by decide) (cap := 10) (by decide) (by decide) (by decide) (by decide)
  obtain ⟨b105, g105⟩ : ∃ z, z = h0.size := ⟨_, rfl⟩
  rw [← g105] at A105 st105
  have lt_b_b105 : b < b105 := Nat.lt_of_lt_of_le E1.lt (Nat.le_of_eq g105.symm)
  have lt_dc_b105 : dc < b105 := Nat.lt_of_lt_of_le A0.lt (Nat.le_of_eq g105.symm)
  have ge_b105 : n0 ≤ b105 := Nat.le_trans Z0 (Nat.le_of_eq g105.symm)
  have sz_b105 : h0.size ≤ b105 := Nat.le_trans (Keep.refl h0 [b]).1 (Nat.le_of_eq g105.symm)
  have K106 : Keep h0 h105 [b] := ((Keep.refl h0 [b]).ext E105)
  refine own_st (q' := T105.setTop (mkF m 55 #[.val (.ref b), .val (.int (1 : Int32)), .val (.int (0 : Int32)), .unset] [(.ref b105), (.ref b)])) st105 ?_
  refine own_st (q' := T105.setTop (mkF m 56 #[.val (.ref b), .val (.int (1 : Int32)), .val (.int (0 : Int32)), .unset] [(.ref b105), (.ref b), (.ref b105)])) (fun _ k => XS.dupX1 X105.here hx rfl (hb hby d_rmG1_55) rfl rfl rfl k) ?_
  have f107 := (F_ed.ext E105)
  have f108 := (E1.ext E105)
  obtain ⟨T109, h109, X109, e109, W109, st109⟩ := putF X105 hx hZ hown (host := "") (Or.inl (wd_31 hw)) Via.refl e105 f107 f108 (Or.inl (wd_32 hw)) (wd_10 hw) (ty := (.array (.object "java/lang/Object"))) (by decide) rfl rfl (g := (mkF m 56 #[.val (.ref b), .val (.int (1 : Int32)), .val (.int (0 : Int32)), .unset] [(.ref b105), (.ref b), (.ref b105)])) rfl rfl (hb hby d_rmG1_56)
  have N109 := Fr.snoc X109 N104 g1
  have K110 : Keep h0 h109 [b] := (K106.wr W109 (Or.inl (List.mem_of_getElem? (i := 0) rfl)))
  have F109 := f107.same W109
  refine own_st (q' := T109.setTop (mkF m 59 #[.val (.ref b), .val (.int (1 : Int32)), .val (.int (0 : Int32)), .unset] [(.ref b105)])) st109 ?_
  have f111 := (f108.wr W109)
  have f112 := ((F_mod.ext E105).other W109 (Or.inr (sn_2 hw)))
  have f113 := ((F_sz.ext E105).other W109 (Or.inr (sn_3 hw)))
  have f114 := (A105.wr W109)
  have f115 := ((Fs.ext E105).wr W109)
  have f116 := ((A0.ext E105).wr W109)
  exact own_retO X109 hx hlk (i := .areturn) hret rfl (Or.inr (Or.inr (Or.inr (Or.inr ⟨rfl, rfl, rfl⟩)))) (hb hby d_rmG1_59) e109 (by exact ⟨_, rfl, N109, K110, sz_b105, f111, f112, f113, F109, f114, f115, f116⟩) (by decide) (by decide)
theorem ef_rmG0 (m : MethodId) (x0 : Addr) : entryFrame m #[(.ref x0)] 1 = mkF m 0 #[.val (.ref x0)] [] := by first | (simp [entryFrame, mkF, argsToLocals, Value.category]; done) | rfl
theorem wd_90 {a0 : Array Value} {Z : State} (hw : ∀ d ∈ tables_1, d.before a0 Z = true) : Cond.before (Jvm.Cond.fieldLink "java/util/ArrayList" (48 : Nat) "java/util/ArrayList" "size" "I") a0 Z = true := hw _ (List.mem_of_getElem? (i := 90) rfl)
theorem wd_102 {a0 : Array Value} {Z : State} (hw : ∀ d ∈ tables_1, d.before a0 Z = true) : Cond.before (Jvm.Cond.methodLink "java/util/ArrayList" (69 : Nat) ({ cls := "java/util/ArrayList", name := "grow", desc := "(I)[Ljava/lang/Object;" } : Jvm.MethodName)) a0 Z = true := hw _ (List.mem_of_getElem? (i := 102) rfl)
theorem pd_2 : parseMethodDescriptor "(I)[Ljava/lang/Object;" = some ⟨[.int], some (.array (.object "java/lang/Object"))⟩ := by decide +kernel
theorem wd_104 {a0 : Array Value} {Z : State} (hw : ∀ d ∈ tables_1, d.before a0 Z = true) : Cond.before (Jvm.Cond.privateMethod ({ cls := "java/util/ArrayList", name := "grow", desc := "(I)[Ljava/lang/Object;" } : Jvm.MethodName)) a0 Z = true := hw _ (List.mem_of_getElem? (i := 104) rfl)
theorem wd_82 {a0 : Array Value} {Z : State} (hw : ∀ d ∈ tables_1, d.before a0 Z = true) : Cond.before (Jvm.Cond.selects "java/util/ArrayList" ({ cls := "java/util/List", name := "add", desc := "(Ljava/lang/Object;)Z" } : Jvm.MethodName) ({ cls := "java/util/ArrayList", name := "add", desc := "(Ljava/lang/Object;)Z" } : Jvm.MethodName)) a0 Z = true := hw _ (List.mem_of_getElem? (i := 82) rfl)
theorem wd_103 {a0 : Array Value} {Z : State} (hw : ∀ d ∈ tables_1, d.before a0 Z = true) : Cond.before (Jvm.Cond.instanceMethod ({ cls := "java/util/ArrayList", name := "grow", desc := "(I)[Ljava/lang/Object;" } : Jvm.MethodName)) a0 Z = true := hw _ (List.mem_of_getElem? (i := 103) rfl)
theorem wd_11 {a0 : Array Value} {Z : State} (hw : ∀ d ∈ tables_1, d.before a0 Z = true) : Cond.before (Jvm.Cond.initialized "java/util/ArrayList") a0 Z = true := hw _ (List.mem_of_getElem? (i := 11) rfl)
theorem wd_106 {a0 : Array Value} {Z : State} (hw : ∀ d ∈ tables_1, d.before a0 Z = true) : Cond.before (Jvm.Cond.code ({ cls := "java/util/ArrayList", name := "grow", desc := "(I)[Ljava/lang/Object;" } : Jvm.MethodName) jdk_38_method_6_code (4 : Nat) (Option.some (Jvm.ClassFile.FieldType.array (Jvm.ClassFile.FieldType.object "java/lang/Object")))) a0 Z = true := hw _ (List.mem_of_getElem? (i := 106) rfl)
theorem d_rmG0_0 : decode jdk_38_method_7_code 0 = .ok (.aload_n 0, 1) := by decide +kernel
theorem d_rmG0_1 : decode jdk_38_method_7_code 1 = .ok (.aload_n 0, 1) := by decide +kernel
theorem d_rmG0_2 : decode jdk_38_method_7_code 2 = .ok (.getfield 48, 3) := by decide +kernel
theorem d_rmG0_5 : decode jdk_38_method_7_code 5 = .ok (.iconst 1, 1) := by decide +kernel
theorem d_rmG0_6 : decode jdk_38_method_7_code 6 = .ok (.iadd, 1) := by decide +kernel
theorem d_rmG0_7 : decode jdk_38_method_7_code 7 = .ok (.invokevirtual 69, 3) := by decide +kernel
theorem d_rmG0_10 : decode jdk_38_method_7_code 10 = .ok (.areturn, 1) := by decide +kernel
set_option maxRecDepth 65536 in
set_option maxHeartbeats 40000000 in
theorem rmG0 (l : Launch) (Z : State) (a0 : Array Value) (hw : ∀ d ∈ tables_1, d.before a0 Z = true) (ws : List Jvm.Cond) (b dc : Addr) (mc : Int32) (h0 : Heap) (n0 : Nat) (Z0 : n0 ≤ h0.size) (E1 : Exa Z h0 b "java/util/ArrayList") (g1 : n0 ≤ b) (F_mod : Fld Z h0 b "java/util/AbstractList" "modCount" "I" (.int mc)) (F_sz : Fld Z h0 b "java/util/ArrayList" "size" "I" (.int (0 : Int32))) (F_ed : Fld Z h0 b "java/util/ArrayList" "elementData" "[Ljava/lang/Object;" (.ref dc)) (Fs : Sta Z h0 "java/util/ArrayList" "DEFAULTCAPACITY_EMPTY_ELEMENTDATA" "[Ljava/lang/Object;" (.ref dc)) (A0 : own_A Z h0 dc 0) :
    own_Met l Z (⟨"java/util/ArrayList", "grow", "()[Ljava/lang/Object;"⟩ : MethodName) ws jdk_38_method_7_code 1 (some (.array (.object "java/lang/Object"))) ({ frames := 2, cells := 1, slots := 10, locals := 29 } : Room) #[(.ref b)] h0 (fun v h L => ∃ r : Addr, v = some (.ref r) ∧ Fr n0 L ∧ Keep h0 h [b] ∧ h0.size ≤ r ∧ Exa Z h b "java/util/ArrayList" ∧ Fld Z h b "java/util/AbstractList" "modCount" "I" (.int mc) ∧ Fld Z h b "java/util/ArrayList" "size" "I" (.int (0 : Int32)) ∧ Fld Z h b "java/util/ArrayList" "elementData" "[Ljava/lang/Object;" (.ref r) ∧ own_A Z h r 10 ∧ Sta Z h "java/util/ArrayList" "DEFAULTCAPACITY_EMPTY_ELEMENTDATA" "[Ljava/lang/Object;" (.ref dc) ∧ own_A Z h dc 0) := by
  refine own_body (y := (⟨"java/util/ArrayList", "grow", "()[Ljava/lang/Object;"⟩ : MethodName)) (plainFor_of_name pn_2) ?_
  intro p e s m below meth c s₁ hx hby hml hown hnm hret hlk hZ X0 e0
  have hml : c.maxLocals = 1 := hml
  have hown : s.vm.findClass "java/util/ArrayList" = some m.cls := hown
  have N0 := Fr.nil n0
  refine own_entry (ef_rmG0 m b) ?_
  show own_Dn p e below s (fun v h L => ∃ r : Addr, v = some (.ref r) ∧ Fr n0 L ∧ Keep h0 h [b] ∧ h0.size ≤ r ∧ Exa Z h b "java/util/ArrayList" ∧ Fld Z h b "java/util/AbstractList" "modCount" "I" (.int mc) ∧ Fld Z h b "java/util/ArrayList" "size" "I" (.int (0 : Int32)) ∧ Fld Z h b "java/util/ArrayList" "elementData" "[Ljava/lang/Object;" (.ref r) ∧ own_A Z h r 10 ∧ Sta Z h "java/util/ArrayList" "DEFAULTCAPACITY_EMPTY_ELEMENTDATA" "[Ljava/lang/Object;" (.ref dc) ∧ own_A Z h dc 0) ({ frames := 2, cells := 1, slots := 10, locals := 29 } : Room).cells ({ frames := 2, cells := 1, slots := 10, locals := 29 } : Room).slots (s₁.setTop (mkF m 0 #[.val (.ref b)] []))
  refine own_st (q' := s₁.setTop (mkF m 2 #[.val (.ref b)] [(.ref b), (.ref b)])) (fun _ k => XS.aloadN X0.here hx rfl (hb hby d_rmG0_0) rfl rfl (XS.aloadN X0.here hx rfl (hb hby d_rmG0_1) rfl rfl k)) ?_
  obtain ⟨T101, X101, e101, st101⟩ := getF X0 hx hZ hown (host := "") (Or.inl (wd_90 hw)) Via.refl e0 F_sz (g := (mkF m 2 #[.val (.ref b)] [(.ref b), (.ref b)])) rfl rfl (hb hby d_rmG0_2)
  refine own_st (q' := T101.setTop (mkF m 5 #[.val (.ref b)] [(.int (0 : Int32)), (.ref b)])) st101 ?_
  refine own_st (q' := T101.setTop (mkF m 7 #[.val (.ref b)] [(.int (1 : Int32)), (.ref b)])) (fun _ k => XS.iconst X101.here hx rfl (hb hby d_rmG0_5) (XS.iadd X101.here hx rfl (hb hby d_rmG0_6) rfl k)) ?_
  refine own_callP (xi := (⟨"java/util/List", "add", "(Ljava/lang/Object;)Z"⟩ : MethodName)) (x := (⟨"java/util/ArrayList", "add", "(Ljava/lang/Object;)Z"⟩ : MethodName)) (y := (⟨"java/util/ArrayList", "grow", "(I)[Ljava/lang/Object;"⟩ : MethodName)) X101 hx hZ hown (wd_102 hw) (wd_104 hw) (wd_82 hw) rfl (wd_103 hw) (wd_11 hw) (wd_106 hw) (by decide) (rmG1 l Z a0 hw [] b dc mc h0 n0 Z0 E1 g1 F_mod F_sz F_ed Fs A0) e101 E1 (W := 0) (by decide) (by decide) (by decide) (by decide) (g := (mkF m 7 #[.val (.ref b)] [(.int (1 : Int32)), (.ref b)])) rfl (by rw [hml]; rfl) (argsL := [(.int (1 : Int32))]) (rest := []) rfl (lenOf pd_2 rfl) rfl (by show 2 * 0 + _ ≤ _; exact Nat.le_of_eq rfl) (hb hby d_rmG0_7) ?_
  intro v102 T102 L102 hQ102 X102
  obtain ⟨r102, rfl, NN102, KK102, q102_0, q102_1, q102_2, q102_3, q102_4, q102_5, q102_6, q102_7⟩ := hQ102
  have N102 := Fr.app N0 NN102
  have K103 : Keep h0 T102.heap [b] := ((Keep.refl h0 [b]).trans KK102 (allS (Or.inl (List.mem_of_getElem? (i := 0) rfl)) all0))
  show own_Dn p e below s (fun v h L => ∃ r : Addr, v = some (.ref r) ∧ Fr n0 L ∧ Keep h0 h [b] ∧ h0.size ≤ r ∧ Exa Z h b "java/util/ArrayList" ∧ Fld Z h b "java/util/AbstractList" "modCount" "I" (.int mc) ∧ Fld Z h b "java/util/ArrayList" "size" "I" (.int (0 : Int32)) ∧ Fld Z h b "java/util/ArrayList" "elementData" "[Ljava/lang/Object;" (.ref r) ∧ own_A Z h r 10 ∧ Sta Z h "java/util/ArrayList" "DEFAULTCAPACITY_EMPTY_ELEMENTDATA" "[Ljava/lang/Object;" (.ref dc) ∧ own_A Z h dc 0) ({ frames := 2, cells := 1, slots := 10, locals := 29 } : Room).cells ({ frames := 2, cells := 1, slots := 10, locals := 29 } : Room).slots (T102.setTop (mkF m 10 #[.val (.ref b)] [(.ref r102)]))
  exact own_retO X102 hx hlk (i := .areturn) hret rfl (Or.inr (Or.inr (Or.inr (Or.inr ⟨rfl, rfl, rfl⟩)))) (hb hby d_rmG0_10) (rfl : T102.heap = T102.heap) (by exact ⟨_, rfl, N102, K103, (Nat.le_trans (Keep.refl h0 [b]).1 q102_0), q102_1, q102_2, q102_3, q102_4, q102_5, q102_6, q102_7⟩) (by decide) (by decide)
theorem ef_rmA3F (m : MethodId) (x0 : Addr) (x1 : Addr) (x2 : Addr) (x3 : Int32) : entryFrame m #[(.ref x0), (.ref x1), (.ref x2), (.int x3)] 4 = mkF m 0 #[.val (.ref x0), .val (.ref x1), .val (.ref x2), .val (.int x3)] [] := by first | (simp [entryFrame, mkF, argsToLocals, Value.category]; done) | rfl
theorem wd_97 {a0 : Array Value} {Z : State} (hw : ∀ d ∈ tables_1, d.before a0 Z = true) : Cond.before (Jvm.Cond.methodLink "java/util/ArrayList" (129 : Nat) ({ cls := "java/util/ArrayList", name := "grow", desc := "()[Ljava/lang/Object;" } : Jvm.MethodName)) a0 Z = true := hw _ (List.mem_of_getElem? (i := 97) rfl)
theorem pd_3 : parseMethodDescriptor "()[Ljava/lang/Object;" = some ⟨[], some (.array (.object "java/lang/Object"))⟩ := by decide +kernel
theorem wd_99 {a0 : Array Value} {Z : State} (hw : ∀ d ∈ tables_1, d.before a0 Z = true) : Cond.before (Jvm.Cond.privateMethod ({ cls := "java/util/ArrayList", name := "grow", desc := "()[Ljava/lang/Object;" } : Jvm.MethodName)) a0 Z = true := hw _ (List.mem_of_getElem? (i := 99) rfl)
theorem wd_98 {a0 : Array Value} {Z : State} (hw : ∀ d ∈ tables_1, d.before a0 Z = true) : Cond.before (Jvm.Cond.instanceMethod ({ cls := "java/util/ArrayList", name := "grow", desc := "()[Ljava/lang/Object;" } : Jvm.MethodName)) a0 Z = true := hw _ (List.mem_of_getElem? (i := 98) rfl)
theorem wd_101 {a0 : Array Value} {Z : State} (hw : ∀ d ∈ tables_1, d.before a0 Z = true) : Cond.before (Jvm.Cond.code ({ cls := "java/util/ArrayList", name := "grow", desc := "()[Ljava/lang/Object;" } : Jvm.MethodName) jdk_38_method_7_code (1 : Nat) (Option.some (Jvm.ClassFile.FieldType.array (Jvm.ClassFile.FieldType.object "java/lang/Object")))) a0 Z = true := hw _ (List.mem_of_getElem? (i := 101) rfl)
theorem wd_113 {a0 : Array Value} {Z : State} (hw : ∀ d ∈ tables_1, d.before a0 Z = true) : Cond.before (Jvm.Cond.castable "com/example/rock_dove/rockdove/store/StoredMessage" "java/lang/Object") a0 Z = true := hw _ (List.mem_of_getElem? (i := 113) rfl)
theorem sn_4 {a0 : Array Value} {Z : State} (hw : ∀ d ∈ tables_1, d.before a0 Z = true) : Jvm.RoadKit.slotOf Z "java/util/AbstractList" "modCount" "I" ≠ Jvm.RoadKit.slotOf Z "java/util/ArrayList" "size" "I" := slot_ne (Or.inl (wd_29 hw)) (Or.inl (wd_91 hw)) (by decide) (t := .int) (t' := .int) (by decide) (by decide)
theorem sn_5 {a0 : Array Value} {Z : State} (hw : ∀ d ∈ tables_1, d.before a0 Z = true) : Jvm.RoadKit.slotOf Z "java/util/ArrayList" "elementData" "[Ljava/lang/Object;" ≠ Jvm.RoadKit.slotOf Z "java/util/ArrayList" "size" "I" := slot_ne (Or.inl (wd_32 hw)) (Or.inl (wd_91 hw)) (by decide) (t := (.array (.object "java/lang/Object"))) (t' := .int) (by decide) (by decide)
theorem d_rmA3F_0 : decode jdk_38_method_24_code 0 = .ok (.iload_n 3, 1) := by decide +kernel
theorem d_rmA3F_1 : decode jdk_38_method_24_code 1 = .ok (.aload_n 2, 1) := by decide +kernel
theorem d_rmA3F_2 : decode jdk_38_method_24_code 2 = .ok (.arraylength, 1) := by decide +kernel
theorem d_rmA3F_3 : decode jdk_38_method_24_code 3 = .ok (.if_icmp .ne 8, 3) := by decide +kernel
theorem d_rmA3F_6 : decode jdk_38_method_24_code 6 = .ok (.aload_n 0, 1) := by decide +kernel
theorem d_rmA3F_7 : decode jdk_38_method_24_code 7 = .ok (.invokevirtual 129, 3) := by decide +kernel
theorem d_rmA3F_10 : decode jdk_38_method_24_code 10 = .ok (.astore_n 2, 1) := by decide +kernel
theorem d_rmA3F_11 : decode jdk_38_method_24_code 11 = .ok (.aload_n 2, 1) := by decide +kernel
theorem d_rmA3F_12 : decode jdk_38_method_24_code 12 = .ok (.iload_n 3, 1) := by decide +kernel
theorem d_rmA3F_13 : decode jdk_38_method_24_code 13 = .ok (.aload_n 1, 1) := by decide +kernel
theorem d_rmA3F_14 : decode jdk_38_method_24_code 14 = .ok (.aastore, 1) := by decide +kernel
theorem d_rmA3F_15 : decode jdk_38_method_24_code 15 = .ok (.aload_n 0, 1) := by decide +kernel
theorem d_rmA3F_16 : decode jdk_38_method_24_code 16 = .ok (.iload_n 3, 1) := by decide +kernel
theorem d_rmA3F_17 : decode jdk_38_method_24_code 17 = .ok (.iconst 1, 1) := by decide +kernel
theorem d_rmA3F_18 : decode jdk_38_method_24_code 18 = .ok (.iadd, 1) := by decide +kernel
theorem d_rmA3F_19 : decode jdk_38_method_24_code 19 = .ok (.putfield 48, 3) := by decide +kernel
theorem d_rmA3F_22 : decode jdk_38_method_24_code 22 = .ok (.return_, 1) := by decide +kernel
set_option maxRecDepth 65536 in
set_option maxHeartbeats 40000000 in
theorem rmA3F (l : Launch) (Z : State) (a0 : Array Value) (hw : ∀ d ∈ tables_1, d.before a0 Z = true) (ws : List Jvm.Cond) (b ms dc : Addr) (mc : Int32) (h0 : Heap) (n0 : Nat) (Z0 : n0 ≤ h0.size) (E1 : Exa Z h0 b "java/util/ArrayList") (g1 : n0 ≤ b) (F_mod : Fld Z h0 b "java/util/AbstractList" "modCount" "I" (.int mc)) (F_sz : Fld Z h0 b "java/util/ArrayList" "size" "I" (.int (0 : Int32))) (F_ed : Fld Z h0 b "java/util/ArrayList" "elementData" "[Ljava/lang/Object;" (.ref dc)) (Em : Exa Z h0 ms "com/example/rock_dove/rockdove/store/StoredMessage") (Fs : Sta Z h0 "java/util/ArrayList" "DEFAULTCAPACITY_EMPTY_ELEMENTDATA" "[Ljava/lang/Object;" (.ref dc)) (A0 : own_A Z h0 dc 0) :
    own_Met l Z (⟨"java/util/ArrayList", "add", "(Ljava/lang/Object;[Ljava/lang/Object;I)V"⟩ : MethodName) ws jdk_38_method_24_code 4 none ({ frames := 3, cells := 1, slots := 10, locals := 41 } : Room) #[(.ref b), (.ref ms), (.ref dc), (.int (0 : Int32))] h0 (fun v h L => ∃ r : Addr, v = none ∧ Fr n0 L ∧ Keep h0 h [b] ∧ h0.size ≤ r ∧ Exa Z h b "java/util/ArrayList" ∧ Fld Z h b "java/util/AbstractList" "modCount" "I" (.int mc) ∧ Fld Z h b "java/util/ArrayList" "size" "I" (.int (1 : Int32)) ∧ Fld Z h b "java/util/ArrayList" "elementData" "[Ljava/lang/Object;" (.ref r) ∧ own_B Z h r 10 ms ∧ Sta Z h "java/util/ArrayList" "DEFAULTCAPACITY_EMPTY_ELEMENTDATA" "[Ljava/lang/Object;" (.ref dc) ∧ own_A Z h dc 0) := by
  refine own_body (y := (⟨"java/util/ArrayList", "add", "(Ljava/lang/Object;[Ljava/lang/Object;I)V"⟩ : MethodName)) (plainFor_of_name pn_2) ?_
  intro p e s m below meth c s₁ hx hby hml hown hnm hret hlk hZ X0 e0
  have hml : c.maxLocals = 4 := hml
  have hown : s.vm.findClass "java/util/ArrayList" = some m.cls := hown
  have N0 := Fr.nil n0
  refine own_entry (ef_rmA3F m b ms dc (0 : Int32)) ?_
  show own_Dn p e below s (fun v h L => ∃ r : Addr, v = none ∧ Fr n0 L ∧ Keep h0 h [b] ∧ h0.size ≤ r ∧ Exa Z h b "java/util/ArrayList" ∧ Fld Z h b "java/util/AbstractList" "modCount" "I" (.int mc) ∧ Fld Z h b "java/util/ArrayList" "size" "I" (.int (1 : Int32)) ∧ Fld Z h b "java/util/ArrayList" "elementData" "[Ljava/lang/Object;" (.ref r) ∧ own_B Z h r 10 ms ∧ Sta Z h "java/util/ArrayList" "DEFAULTCAPACITY_EMPTY_ELEMENTDATA" "[Ljava/lang/Object;" (.ref dc) ∧ own_A Z h dc 0) ({ frames := 3, cells := 1, slots := 10, locals := 41 } : Room).cells ({ frames := 3, cells := 1, slots := 10, locals := 41 } : Room).slots (s₁.setTop (mkF m 0 #[.val (.ref b), .val (.ref ms), .val (.ref dc), .val (.int (0 : Int32))] []))
  refine own_st (q' := s₁.setTop (mkF m 2 #[.val (.ref b), .val (.ref ms), .val (.ref dc), .val (.int (0 : Int32))] [(.ref dc), (.int (0 : Int32))])) (fun _ k => XS.iloadN X0.here hx rfl (hb hby d_rmA3F_0) rfl (XS.aloadN X0.here hx rfl (hb hby d_rmA3F_1) rfl rfl k)) ?_
  refine own_lenA X0 hx hZ e0 A0 (w := (0 : Int32)) (by decide) (g := (mkF m 2 #[.val (.ref b), .val (.ref ms), .val (.ref dc), .val (.int (0 : Int32))] [(.ref dc), (.int (0 : Int32))])) rfl rfl (hb hby d_rmA3F_2) ?_
  show own_Dn p e below s (fun v h L => ∃ r : Addr, v = none ∧ Fr n0 L ∧ Keep h0 h [b] ∧ h0.size ≤ r ∧ Exa Z h b "java/util/ArrayList" ∧ Fld Z h b "java/util/AbstractList" "modCount" "I" (.int mc) ∧ Fld Z h b "java/util/ArrayList" "size" "I" (.int (1 : Int32)) ∧ Fld Z h b "java/util/ArrayList" "elementData" "[Ljava/lang/Object;" (.ref r) ∧ own_B Z h r 10 ms ∧ Sta Z h "java/util/ArrayList" "DEFAULTCAPACITY_EMPTY_ELEMENTDATA" "[Ljava/lang/Object;" (.ref dc) ∧ own_A Z h dc 0) ({ frames := 3, cells := 1, slots := 10, locals := 41 } : Room).cells ({ frames := 3, cells := 1, slots := 10, locals := 41 } : Room).slots (s₁.setTop (mkF m 3 #[.val (.ref b), .val (.ref ms), .val (.ref dc), .val (.int (0 : Int32))] [(.int (0 : Int32)), (.int (0 : Int32))]))
  refine own_st (q' := s₁.setTop (mkF m 7 #[.val (.ref b), .val (.ref ms), .val (.ref dc), .val (.int (0 : Int32))] [(.ref b)])) (fun _ k => XS.icmpNo X0.here hx rfl (hb hby d_rmA3F_3) rfl (teq ((by decide : (0 : Int32) = (0 : Int32)) : (0 : Int32) = (0 : Int32))).2 (XS.aloadN X0.here hx rfl (hb hby d_rmA3F_6) rfl rfl k)) ?_
  refine own_callP (xi := (⟨"java/util/List", "add", "(Ljava/lang/Object;)Z"⟩ : MethodName)) (x := (⟨"java/util/ArrayList", "add", "(Ljava/lang/Object;)Z"⟩ : MethodName)) (y := (⟨"java/util/ArrayList", "grow", "()[Ljava/lang/Object;"⟩ : MethodName)) X0 hx hZ hown (wd_97 hw) (wd_99 hw) (wd_82 hw) rfl (wd_98 hw) (wd_11 hw) (wd_101 hw) (by decide) (rmG0 l Z a0 hw [] b dc mc h0 n0 Z0 E1 g1 F_mod F_sz F_ed Fs A0) e0 E1 (W := 0) (by decide) (by decide) (by decide) (by decide) (g := (mkF m 7 #[.val (.ref b), .val (.ref ms), .val (.ref dc), .val (.int (0 : Int32))] [(.ref b)])) rfl (by rw [hml]; rfl) (argsL := []) (rest := []) rfl (lenOf pd_3 rfl) rfl (by show 2 * 0 + _ ≤ _; exact Nat.le_of_eq rfl) (hb hby d_rmA3F_7) ?_
  intro v101 T101 L101 hQ101 X101
  obtain ⟨r101, rfl, NN101, KK101, q101_0, q101_1, q101_2, q101_3, q101_4, q101_5, q101_6, q101_7⟩ := hQ101
  have N101 := Fr.app N0 NN101
  have K102 : Keep h0 T101.heap [b] := ((Keep.refl h0 [b]).trans KK101 (allS (Or.inl (List.mem_of_getElem? (i := 0) rfl)) all0))
  show own_Dn p e below s (fun v h L => ∃ r : Addr, v = none ∧ Fr n0 L ∧ Keep h0 h [b] ∧ h0.size ≤ r ∧ Exa Z h b "java/util/ArrayList" ∧ Fld Z h b "java/util/AbstractList" "modCount" "I" (.int mc) ∧ Fld Z h b "java/util/ArrayList" "size" "I" (.int (1 : Int32)) ∧ Fld Z h b "java/util/ArrayList" "elementData" "[Ljava/lang/Object;" (.ref r) ∧ own_B Z h r 10 ms ∧ Sta Z h "java/util/ArrayList" "DEFAULTCAPACITY_EMPTY_ELEMENTDATA" "[Ljava/lang/Object;" (.ref dc) ∧ own_A Z h dc 0) ({ frames := 3, cells := 1, slots := 10, locals := 41 } : Room).cells ({ frames := 3, cells := 1, slots := 10, locals := 41 } : Room).slots (T101.setTop (mkF m 10 #[.val (.ref b), .val (.ref ms), .val (.ref dc), .val (.int (0 : Int32))] [(.ref r101)]))
  refine own_st (q' := T101.setTop (mkF m 14 #[.val (.ref b), .val (.ref ms), .val (.ref r101), .val (.int (0 : Int32))] [(.ref ms), (.int (0 : Int32)), (.ref r101)])) (fun _ k => XS.astoreN X101.here hx rfl (hb hby d_rmA3F_10) rfl rfl (l' := #[.val (.ref b), .val (.ref ms), .val (.ref r101), .val (.int (0 : Int32))]) rfl (XS.aloadN X101.here hx rfl (hb hby d_rmA3F_11) rfl rfl (XS.iloadN X101.here hx rfl (hb hby d_rmA3F_12) rfl (XS.aloadN X101.here hx rfl (hb hby d_rmA3F_13) rfl rfl k)))) ?_
  have f104 := (Em.keep KK101)
  obtain ⟨T103, h103, X103, e103, W103, st103⟩ := own_aast X101 hx hZ (rfl : T101.heap = T101.heap) q101_5 (by decide) (by decide) (Or.inr ⟨_, rfl, Ins.of_exa f104 (wd_113 hw)⟩) (g := (mkF m 14 #[.val (.ref b), .val (.ref ms), .val (.ref r101), .val (.int (0 : Int32))] [(.ref ms), (.int (0 : Int32)), (.ref r101)])) rfl rfl (hb hby d_rmA3F_14)
  have N103 := Fr.snoc X103 N101 (Nat.le_trans Z0 q101_0)
  have K105 : Keep h0 h103 [b] := (K102.wr W103 (Or.inr (Nat.le_trans (Keep.refl h0 [b]).1 q101_0)))
  have B103 : own_B Z h103 r101 10 ms := own_B.of q101_5 W103
  refine own_st (q' := T103.setTop (mkF m 15 #[.val (.ref b), .val (.ref ms), .val (.ref r101), .val (.int (0 : Int32))] [])) st103 ?_
  refine own_st (q' := T103.setTop (mkF m 19 #[.val (.ref b), .val (.ref ms), .val (.ref r101), .val (.int (0 : Int32))] [(.int (1 : Int32)), (.ref b)])) (fun _ k => XS.aloadN X103.here hx rfl (hb hby d_rmA3F_15) rfl rfl (XS.iloadN X103.here hx rfl (hb hby d_rmA3F_16) rfl (XS.iconst X103.here hx rfl (hb hby d_rmA3F_17) (XS.iadd X103.here hx rfl (hb hby d_rmA3F_18) rfl k)))) ?_
  have f106 := (q101_3.other W103 (Or.inl (Nat.ne_of_lt (Nat.lt_of_lt_of_le E1.lt q101_0))))
  have f107 := (q101_1.wr W103)
  obtain ⟨T108, h108, X108, e108, W108, st108⟩ := putF X103 hx hZ hown (host := "") (Or.inl (wd_90 hw)) Via.refl e103 f106 f107 (Or.inl (wd_91 hw)) (wd_10 hw) (ty := .int) (by decide) rfl rfl (g := (mkF m 19 #[.val (.ref b), .val (.ref ms), .val (.ref r101), .val (.int (0 : Int32))] [(.int (1 : Int32)), (.ref b)])) rfl rfl (hb hby d_rmA3F_19)
  have N108 := Fr.snoc X108 N103 g1
  have K109 : Keep h0 h108 [b] := (K105.wr W108 (Or.inl (List.mem_of_getElem? (i := 0) rfl)))
  have F108 := f106.same W108
  refine own_st (q' := T108.setTop (mkF m 22 #[.val (.ref b), .val (.ref ms), .val (.ref r101), .val (.int (0 : Int32))] [])) st108 ?_
  have f110 := (f107.wr W108)
  have f111 := ((q101_2.other W103 (Or.inl (Nat.ne_of_lt (Nat.lt_of_lt_of_le E1.lt q101_0)))).other W108 (Or.inr (sn_4 hw)))
  have f112 := ((q101_4.other W103 (Or.inl (Nat.ne_of_lt (Nat.lt_of_lt_of_le E1.lt q101_0)))).other W108 (Or.inr (sn_5 hw)))
  have f113 := (B103.other W108 (Ne.symm (Nat.ne_of_lt (Nat.lt_of_lt_of_le E1.lt q101_0))))
  have f114 := ((q101_6.wr W103).wr W108)
  have f115 := ((q101_7.wr W103).wr W108)
  exact own_retV X108 hx hlk hret (hb hby d_rmA3F_22) e108 (by exact ⟨_, rfl, N108, K109, (Nat.le_trans (Keep.refl h0 [b]).1 q101_0), f110, f111, F108, f112, f113, f114, f115⟩) (by decide) (by decide)
theorem ef_rmA3G (m : MethodId) (x0 : Addr) (x1 : Addr) (x2 : Addr) (x3 : Int32) : entryFrame m #[(.ref x0), (.ref x1), (.ref x2), (.int x3)] 4 = mkF m 0 #[.val (.ref x0), .val (.ref x1), .val (.ref x2), .val (.int x3)] [] := by first | (simp [entryFrame, mkF, argsToLocals, Value.category]; done) | rfl
theorem d_rmA3G_0 : decode jdk_38_method_24_code 0 = .ok (.iload_n 3, 1) := by decide +kernel
theorem d_rmA3G_1 : decode jdk_38_method_24_code 1 = .ok (.aload_n 2, 1) := by decide +kernel
theorem d_rmA3G_2 : decode jdk_38_method_24_code 2 = .ok (.arraylength, 1) := by decide +kernel
theorem d_rmA3G_3 : decode jdk_38_method_24_code 3 = .ok (.if_icmp .ne 8, 3) := by decide +kernel
theorem d_rmA3G_11 : decode jdk_38_method_24_code 11 = .ok (.aload_n 2, 1) := by decide +kernel
theorem d_rmA3G_12 : decode jdk_38_method_24_code 12 = .ok (.iload_n 3, 1) := by decide +kernel
theorem d_rmA3G_13 : decode jdk_38_method_24_code 13 = .ok (.aload_n 1, 1) := by decide +kernel
theorem d_rmA3G_14 : decode jdk_38_method_24_code 14 = .ok (.aastore, 1) := by decide +kernel
theorem d_rmA3G_15 : decode jdk_38_method_24_code 15 = .ok (.aload_n 0, 1) := by decide +kernel
theorem d_rmA3G_16 : decode jdk_38_method_24_code 16 = .ok (.iload_n 3, 1) := by decide +kernel
theorem d_rmA3G_17 : decode jdk_38_method_24_code 17 = .ok (.iconst 1, 1) := by decide +kernel
theorem d_rmA3G_18 : decode jdk_38_method_24_code 18 = .ok (.iadd, 1) := by decide +kernel
theorem d_rmA3G_19 : decode jdk_38_method_24_code 19 = .ok (.putfield 48, 3) := by decide +kernel
theorem d_rmA3G_22 : decode jdk_38_method_24_code 22 = .ok (.return_, 1) := by decide +kernel
set_option maxRecDepth 65536 in
set_option maxHeartbeats 40000000 in
theorem rmA3G (l : Launch) (Z : State) (a0 : Array Value) (hw : ∀ d ∈ tables_1, d.before a0 Z = true) (ws : List Jvm.Cond) (b ms dc ea : Addr) (mc n : Int32) (h0 : Heap) (n0 : Nat) (Z0 : n0 ≤ h0.size) (E1 : Exa Z h0 b "java/util/ArrayList") (g1 : n0 ≤ b) (F_mod : Fld Z h0 b "java/util/AbstractList" "modCount" "I" (.int mc)) (F_sz : Fld Z h0 b "java/util/ArrayList" "size" "I" (.int n)) (F_ed : Fld Z h0 b "java/util/ArrayList" "elementData" "[Ljava/lang/Object;" (.ref ea)) (Aea : own_A Z h0 ea 10) (gea : n0 ≤ ea) (hn0 : 0 ≤ n.toInt) (hn1 : n.toInt ≤ 5) (Em : Exa Z h0 ms "com/example/rock_dove/rockdove/store/StoredMessage") (Fs : Sta Z h0 "java/util/ArrayList" "DEFAULTCAPACITY_EMPTY_ELEMENTDATA" "[Ljava/lang/Object;" (.ref dc)) (A0 : own_A Z h0 dc 0) :
    own_Met l Z (⟨"java/util/ArrayList", "add", "(Ljava/lang/Object;[Ljava/lang/Object;I)V"⟩ : MethodName) ws jdk_38_method_24_code 4 none ({ frames := 0, cells := 0, slots := 0, locals := 0 } : Room) #[(.ref b), (.ref ms), (.ref ea), (.int n)] h0 (fun v h L => v = none ∧ Fr n0 L ∧ Keep h0 h [b, ea] ∧ Exa Z h b "java/util/ArrayList" ∧ Fld Z h b "java/util/AbstractList" "modCount" "I" (.int mc) ∧ Fld Z h b "java/util/ArrayList" "size" "I" (.int (n + (1 : Int32))) ∧ Fld Z h b "java/util/ArrayList" "elementData" "[Ljava/lang/Object;" (.ref ea) ∧ own_A Z h ea 10 ∧ Sta Z h "java/util/ArrayList" "DEFAULTCAPACITY_EMPTY_ELEMENTDATA" "[Ljava/lang/Object;" (.ref dc) ∧ own_A Z h dc 0) := by
  refine own_body (y := (⟨"java/util/ArrayList", "add", "(Ljava/lang/Object;[Ljava/lang/Object;I)V"⟩ : MethodName)) (plainFor_of_name pn_2) ?_
  intro p e s m below meth c s₁ hx hby hml hown hnm hret hlk hZ X0 e0
  have hml : c.maxLocals = 4 := hml
  have hown : s.vm.findClass "java/util/ArrayList" = some m.cls := hown
  have N0 := Fr.nil n0
  refine own_entry (ef_rmA3G m b ms ea n) ?_
  show own_Dn p e below s (fun v h L => v = none ∧ Fr n0 L ∧ Keep h0 h [b, ea] ∧ Exa Z h b "java/util/ArrayList" ∧ Fld Z h b "java/util/AbstractList" "modCount" "I" (.int mc) ∧ Fld Z h b "java/util/ArrayList" "size" "I" (.int (n + (1 : Int32))) ∧ Fld Z h b "java/util/ArrayList" "elementData" "[Ljava/lang/Object;" (.ref ea) ∧ own_A Z h ea 10 ∧ Sta Z h "java/util/ArrayList" "DEFAULTCAPACITY_EMPTY_ELEMENTDATA" "[Ljava/lang/Object;" (.ref dc) ∧ own_A Z h dc 0) ({ frames := 0, cells := 0, slots := 0, locals := 0 } : Room).cells ({ frames := 0, cells := 0, slots := 0, locals := 0 } : Room).slots (s₁.setTop (mkF m 0 #[.val (.ref b), .val (.ref ms), .val (.ref ea), .val (.int n)] []))
  refine own_st (q' := s₁.setTop (mkF m 2 #[.val (.ref b), .val (.ref ms), .val (.ref ea), .val (.int n)] [(.ref ea), (.int n)])) (fun _ k => XS.iloadN X0.here hx rfl (hb hby d_rmA3G_0) rfl (XS.aloadN X0.here hx rfl (hb hby d_rmA3G_1) rfl rfl k)) ?_
  refine own_lenA X0 hx hZ e0 Aea (w := (10 : Int32)) (by decide) (g := (mkF m 2 #[.val (.ref b), .val (.ref ms), .val (.ref ea), .val (.int n)] [(.ref ea), (.int n)])) rfl rfl (hb hby d_rmA3G_2) ?_
  show own_Dn p e below s (fun v h L => v = none ∧ Fr n0 L ∧ Keep h0 h [b, ea] ∧ Exa Z h b "java/util/ArrayList" ∧ Fld Z h b "java/util/AbstractList" "modCount" "I" (.int mc) ∧ Fld Z h b "java/util/ArrayList" "size" "I" (.int (n + (1 : Int32))) ∧ Fld Z h b "java/util/ArrayList" "elementData" "[Ljava/lang/Object;" (.ref ea) ∧ own_A Z h ea 10 ∧ Sta Z h "java/util/ArrayList" "DEFAULTCAPACITY_EMPTY_ELEMENTDATA" "[Ljava/lang/Object;" (.ref dc) ∧ own_A Z h dc 0) ({ frames := 0, cells := 0, slots := 0, locals := 0 } : Room).cells ({ frames := 0, cells := 0, slots := 0, locals := 0 } : Room).slots (s₁.setTop (mkF m 3 #[.val (.ref b), .val (.ref ms), .val (.ref ea), .val (.int n)] [(.int (10 : Int32)), (.int n)]))
  refine own_st (q' := s₁.setTop (mkF m 14 #[.val (.ref b), .val (.ref ms), .val (.ref ea), .val (.int n)] [(.ref ms), (.int n), (.ref ea)])) (fun _ k => XS.icmpYes X0.here hx rfl (pc0 := 3) (pc' := 11) rfl (hb hby d_rmA3G_3) rfl (feq ((own_ne (by have : (10 : Int32).toInt = 10 := rfl; omega)) : ¬ (n = (10 : Int32)))).2 (by decide) (by decide) (XS.aloadN X0.here hx rfl (hb hby d_rmA3G_11) rfl rfl (XS.iloadN X0.here hx rfl (hb hby d_rmA3G_12) rfl (XS.aloadN X0.here hx rfl (hb hby d_rmA3G_13) rfl rfl k)))) ?_
  obtain ⟨T101, h101, X101, e101, W101, st101⟩ := own_aast X0 hx hZ e0 Aea hn0 (by omega) (Or.inr ⟨_, rfl, Ins.of_exa Em (wd_113 hw)⟩) (g := (mkF m 14 #[.val (.ref b), .val (.ref ms), .val (.ref ea), .val (.int n)] [(.ref ms), (.int n), (.ref ea)])) rfl rfl (hb hby d_rmA3G_14)
  have N101 := Fr.snoc X101 N0 gea
  have K102 : Keep h0 h101 [b, ea] := ((Keep.refl h0 [b, ea]).wr W101 (Or.inl (List.mem_of_getElem? (i := 1) rfl)))
  refine own_st (q' := T101.setTop (mkF m 15 #[.val (.ref b), .val (.ref ms), .val (.ref ea), .val (.int n)] [])) st101 ?_
  refine own_st (q' := T101.setTop (mkF m 19 #[.val (.ref b), .val (.ref ms), .val (.ref ea), .val (.int n)] [(.int (n + (1 : Int32))), (.ref b)])) (fun _ k => XS.aloadN X101.here hx rfl (hb hby d_rmA3G_15) rfl rfl (XS.iloadN X101.here hx rfl (hb hby d_rmA3G_16) rfl (XS.iconst X101.here hx rfl (hb hby d_rmA3G_17) (XS.iadd X101.here hx rfl (hb hby d_rmA3G_18) rfl k)))) ?_
  have f103 := (F_sz.other W101 (Or.inl (Aea.ne E1 (wd_10 hw))))
  have f104 := (E1.wr W101)
  obtain ⟨T105, h105, X105, e105, W105, st105⟩ := putF X101 hx hZ hown (host := "") (Or.inl (wd_90 hw)) Via.refl e101 f103 f104 (Or.inl (wd_91 hw)) (wd_10 hw) (ty := .int) (by decide) rfl rfl (g := (mkF m 19 #[.val (.ref b), .val (.ref ms), .val (.ref ea), .val (.int n)] [(.int (n + (1 : Int32))), (.ref b)])) rfl rfl (hb hby d_rmA3G_19)
  have N105 := Fr.snoc X105 N101 g1
  have K106 : Keep h0 h105 [b, ea] := (K102.wr W105 (Or.inl (List.mem_of_getElem? (i := 0) rfl)))
  have F105 := f103.same W105
  refine own_st (q' := T105.setTop (mkF m 22 #[.val (.ref b), .val (.ref ms), .val (.ref ea), .val (.int n)] [])) st105 ?_
  have f107 := (f104.wr W105)
  have f108 := ((F_mod.other W101 (Or.inl (Aea.ne E1 (wd_10 hw)))).other W105 (Or.inr (sn_4 hw)))
  have f109 := ((F_ed.other W101 (Or.inl (Aea.ne E1 (wd_10 hw)))).other W105 (Or.inr (sn_5 hw)))
  have f110 := ((Aea.wr W101).wr W105)
  have f111 := ((Fs.wr W101).wr W105)
  have f112 := ((A0.wr W101).wr W105)
  exact own_retV X105 hx hlk hret (hb hby d_rmA3G_22) e105 (by exact ⟨rfl, N105, K106, f107, f108, F105, f109, f110, f111, f112⟩) (by decide) (by decide)
theorem own_inc {n : Int32} {k : Nat} (h0 : 0 ≤ n.toInt) (h1 : n.toInt ≤ (k : Int)) (hk : k ≤ 3) : 0 ≤ (n + (1 : Int32)).toInt ∧ (n + (1 : Int32)).toInt ≤ ((k + 1 : Nat) : Int) := by
  have e1 := c_iadd n 1
  have r1 := rng32 (n + 1)
  have l1 : (1 : Int32).toInt = 1 := rfl
  constructor <;> omega
theorem ef_rmAdd (m : MethodId) (x0 : Addr) (x1 : Addr) : entryFrame m #[(.ref x0), (.ref x1)] 2 = mkF m 0 #[.val (.ref x0), .val (.ref x1)] [] := by first | (simp [entryFrame, mkF, argsToLocals, Value.category]; done) | rfl
theorem wd_88 {a0 : Array Value} {Z : State} (hw : ∀ d ∈ tables_1, d.before a0 Z = true) : Cond.before (Jvm.Cond.fieldLink "java/util/ArrayList" (63 : Nat) "java/util/ArrayList" "modCount" "I") a0 Z = true := hw _ (List.mem_of_getElem? (i := 88) rfl)
theorem wd_89 {a0 : Array Value} {Z : State} (hw : ∀ d ∈ tables_1, d.before a0 Z = true) : Cond.before (Jvm.Cond.sameField "java/util/ArrayList" "java/util/AbstractList" "modCount" "I") a0 Z = true := hw _ (List.mem_of_getElem? (i := 89) rfl)
theorem wd_92 {a0 : Array Value} {Z : State} (hw : ∀ d ∈ tables_1, d.before a0 Z = true) : Cond.before (Jvm.Cond.methodLink "java/util/ArrayList" (131 : Nat) ({ cls := "java/util/ArrayList", name := "add", desc := "(Ljava/lang/Object;[Ljava/lang/Object;I)V" } : Jvm.MethodName)) a0 Z = true := hw _ (List.mem_of_getElem? (i := 92) rfl)
theorem pd_4 : parseMethodDescriptor "(Ljava/lang/Object;[Ljava/lang/Object;I)V" = some ⟨[(.object "java/lang/Object"), (.array (.object "java/lang/Object")), .int], none⟩ := by decide +kernel
theorem wd_94 {a0 : Array Value} {Z : State} (hw : ∀ d ∈ tables_1, d.before a0 Z = true) : Cond.before (Jvm.Cond.privateMethod ({ cls := "java/util/ArrayList", name := "add", desc := "(Ljava/lang/Object;[Ljava/lang/Object;I)V" } : Jvm.MethodName)) a0 Z = true := hw _ (List.mem_of_getElem? (i := 94) rfl)
theorem wd_93 {a0 : Array Value} {Z : State} (hw : ∀ d ∈ tables_1, d.before a0 Z = true) : Cond.before (Jvm.Cond.instanceMethod ({ cls := "java/util/ArrayList", name := "add", desc := "(Ljava/lang/Object;[Ljava/lang/Object;I)V" } : Jvm.MethodName)) a0 Z = true := hw _ (List.mem_of_getElem? (i := 93) rfl)
theorem wd_96 {a0 : Array Value} {Z : State} (hw : ∀ d ∈ tables_1, d.before a0 Z = true) : Cond.before (Jvm.Cond.code ({ cls := "java/util/ArrayList", name := "add", desc := "(Ljava/lang/Object;[Ljava/lang/Object;I)V" } : Jvm.MethodName) jdk_38_method_24_code (4 : Nat) (Option.none : Option Jvm.ClassFile.FieldType)) a0 Z = true := hw _ (List.mem_of_getElem? (i := 96) rfl)
theorem d_rmAdd_0 : decode jdk_38_method_25_code 0 = .ok (.aload_n 0, 1) := by decide +kernel
theorem d_rmAdd_1 : decode jdk_38_method_25_code 1 = .ok (.dup, 1) := by decide +kernel
theorem d_rmAdd_2 : decode jdk_38_method_25_code 2 = .ok (.getfield 63, 3) := by decide +kernel
theorem d_rmAdd_5 : decode jdk_38_method_25_code 5 = .ok (.iconst 1, 1) := by decide +kernel
theorem d_rmAdd_6 : decode jdk_38_method_25_code 6 = .ok (.iadd, 1) := by decide +kernel
theorem d_rmAdd_7 : decode jdk_38_method_25_code 7 = .ok (.putfield 63, 3) := by decide +kernel
theorem d_rmAdd_10 : decode jdk_38_method_25_code 10 = .ok (.aload_n 0, 1) := by decide +kernel
theorem d_rmAdd_11 : decode jdk_38_method_25_code 11 = .ok (.aload_n 1, 1) := by decide +kernel
theorem d_rmAdd_12 : decode jdk_38_method_25_code 12 = .ok (.aload_n 0, 1) := by decide +kernel
theorem d_rmAdd_13 : decode jdk_38_method_25_code 13 = .ok (.getfield 9, 3) := by decide +kernel
theorem d_rmAdd_16 : decode jdk_38_method_25_code 16 = .ok (.aload_n 0, 1) := by decide +kernel
theorem d_rmAdd_17 : decode jdk_38_method_25_code 17 = .ok (.getfield 48, 3) := by decide +kernel
theorem d_rmAdd_20 : decode jdk_38_method_25_code 20 = .ok (.invokevirtual 131, 3) := by decide +kernel
theorem d_rmAdd_23 : decode jdk_38_method_25_code 23 = .ok (.iconst 1, 1) := by decide +kernel
theorem d_rmAdd_24 : decode jdk_38_method_25_code 24 = .ok (.ireturn, 1) := by decide +kernel
set_option maxRecDepth 65536 in
set_option maxHeartbeats 40000000 in
theorem rmAdd (l : Launch) (Z : State) (a0 : Array Value) (hw : ∀ d ∈ tables_1, d.before a0 Z = true) (ws : List Jvm.Cond) (b ms dc ea : Addr) (k : Nat) (h0 : Heap) (n0 : Nat) (Z0 : n0 ≤ h0.size) (HL : own_L Z n0 dc h0 b k ea) (hk : k ≤ 3) (Em : Exa Z h0 ms "com/example/rock_dove/rockdove/store/StoredMessage") (Fs : Sta Z h0 "java/util/ArrayList" "DEFAULTCAPACITY_EMPTY_ELEMENTDATA" "[Ljava/lang/Object;" (.ref dc)) (A0 : own_A Z h0 dc 0) :
    own_Met l Z (⟨"java/util/ArrayList", "add", "(Ljava/lang/Object;)Z"⟩ : MethodName) ws jdk_38_method_25_code 2 (some .boolean) ({ frames := 4, cells := 1, slots := 10, locals := 56 } : Room) #[(.ref b), (.ref ms)] h0 (fun v h L => ∃ r : Addr, v = some (.int (1 : Int32)) ∧ Fr n0 L ∧ Keep h0 h [b, ea] ∧ own_L Z n0 dc h b (k + 1) r ∧ Sta Z h "java/util/ArrayList" "DEFAULTCAPACITY_EMPTY_ELEMENTDATA" "[Ljava/lang/Object;" (.ref dc) ∧ own_A Z h dc 0) := by
  refine own_body (y := (⟨"java/util/ArrayList", "add", "(Ljava/lang/Object;)Z"⟩ : MethodName)) (plainFor_of_name pn_2) ?_
  intro p e s m below meth c s₁ hx hby hml hown hnm hret hlk hZ X0 e0
  have hml : c.maxLocals = 2 := hml
  have hown : s.vm.findClass "java/util/ArrayList" = some m.cls := hown
  have N0 := Fr.nil n0
  refine own_entry (ef_rmAdd m b ms) ?_
  show own_Dn p e below s (fun v h L => ∃ r : Addr, v = some (.int (1 : Int32)) ∧ Fr n0 L ∧ Keep h0 h [b, ea] ∧ own_L Z n0 dc h b (k + 1) r ∧ Sta Z h "java/util/ArrayList" "DEFAULTCAPACITY_EMPTY_ELEMENTDATA" "[Ljava/lang/Object;" (.ref dc) ∧ own_A Z h dc 0) ({ frames := 4, cells := 1, slots := 10, locals := 56 } : Room).cells ({ frames := 4, cells := 1, slots := 10, locals := 56 } : Room).slots (s₁.setTop (mkF m 0 #[.val (.ref b), .val (.ref ms)] []))
  obtain ⟨E1, g1, mc, n, hn0, hn1, F_mod, F_sz, F_ed, hcs⟩ := HL
  rcases hcs with ⟨q1, q2⟩ | ⟨gea, Aea⟩
  · skip
    rw [q1] at F_ed
    rw [q2] at F_sz
    refine own_st (q' := s₁.setTop (mkF m 2 #[.val (.ref b), .val (.ref ms)] [(.ref b), (.ref b)])) (fun _ k => XS.aloadN X0.here hx rfl (hb hby d_rmAdd_0) rfl rfl (XS.dup X0.here hx rfl (hb hby d_rmAdd_1) rfl rfl k)) ?_
    obtain ⟨T101, X101, e101, st101⟩ := getF X0 hx hZ hown (host := "") (Or.inl (wd_88 hw)) (Via.of (wd_89 hw)) e0 F_mod (g := (mkF m 2 #[.val (.ref b), .val (.ref ms)] [(.ref b), (.ref b)])) rfl rfl (hb hby d_rmAdd_2)
    refine own_st (q' := T101.setTop (mkF m 5 #[.val (.ref b), .val (.ref ms)] [(.int mc), (.ref b)])) st101 ?_
    refine own_st (q' := T101.setTop (mkF m 7 #[.val (.ref b), .val (.ref ms)] [(.int (mc + (1 : Int32))), (.ref b)])) (fun _ k => XS.iconst X101.here hx rfl (hb hby d_rmAdd_5) (XS.iadd X101.here hx rfl (hb hby d_rmAdd_6) rfl k)) ?_
    obtain ⟨T102, h102, X102, e102, W102, st102⟩ := putF X101 hx hZ hown (host := "") (Or.inl (wd_88 hw)) (Via.of (wd_89 hw)) e101 F_mod E1 (Or.inl (wd_29 hw)) (wd_10 hw) (ty := .int) (by decide) rfl rfl (g := (mkF m 7 #[.val (.ref b), .val (.ref ms)] [(.int (mc + (1 : Int32))), (.ref b)])) rfl rfl (hb hby d_rmAdd_7)
    have N102 := Fr.snoc X102 N0 g1
    have K103 : Keep h0 h102 [b, ea] := ((Keep.refl h0 [b, ea]).wr W102 (Or.inl (List.mem_of_getElem? (i := 0) rfl)))
    have F102 := F_mod.same W102
    refine own_st (q' := T102.setTop (mkF m 10 #[.val (.ref b), .val (.ref ms)] [])) st102 ?_
    refine own_st (q' := T102.setTop (mkF m 13 #[.val (.ref b), .val (.ref ms)] [(.ref b), (.ref ms), (.ref b)])) (fun _ k => XS.aloadN X102.here hx rfl (hb hby d_rmAdd_10) rfl rfl (XS.aloadN X102.here hx rfl (hb hby d_rmAdd_11) rfl rfl (XS.aloadN X102.here hx rfl (hb hby d_rmAdd_12) rfl rfl k))) ?_
    have f104 := (F_ed.other W102 (Or.inr (sn_1 hw)))
    obtain ⟨T105, X105, e105, st105⟩ := getF X102 hx hZ hown (host := "") (Or.inl (wd_31 hw)) Via.refl e102 f104 (g := (mkF m 13 #[.val (.ref b), .val (.ref ms)] [(.ref b), (.ref ms), (.ref b)])) rfl rfl (hb hby d_rmAdd_13)
    refine own_st (q' := T105.setTop (mkF m 16 #[.val (.ref b), .val (.ref ms)] [(.ref dc), (.ref ms), (.ref b)])) st105 ?_
    refine own_st (q' := T105.setTop (mkF m 17 #[.val (.ref b), .val (.ref ms)] [(.ref b), (.ref dc), (.ref ms), (.ref b)])) (fun _ k => XS.aloadN X105.here hx rfl (hb hby d_rmAdd_16) rfl rfl k) ?_
    have f106 := (F_sz.other W102 (Or.inr (sn_0 hw)))
    obtain ⟨T107, X107, e107, st107⟩ := getF X105 hx hZ hown (host := "") (Or.inl (wd_90 hw)) Via.refl e105 f106 (g := (mkF m 17 #[.val (.ref b), .val (.ref ms)] [(.ref b), (.ref dc), (.ref ms), (.ref b)])) rfl rfl (hb hby d_rmAdd_17)
    refine own_st (q' := T107.setTop (mkF m 20 #[.val (.ref b), .val (.ref ms)] [(.int (0 : Int32)), (.ref dc), (.ref ms), (.ref b)])) st107 ?_
    have f108 := (E1.wr W102)
    have f109 := (Em.wr W102)
    have f110 := (Fs.wr W102)
    have f111 := (A0.wr W102)
    refine own_callP (xi := (⟨"java/util/List", "add", "(Ljava/lang/Object;)Z"⟩ : MethodName)) (x := (⟨"java/util/ArrayList", "add", "(Ljava/lang/Object;)Z"⟩ : MethodName)) (y := (⟨"java/util/ArrayList", "add", "(Ljava/lang/Object;[Ljava/lang/Object;I)V"⟩ : MethodName)) X107 hx hZ hown (wd_92 hw) (wd_94 hw) (wd_82 hw) rfl (wd_93 hw) (wd_11 hw) (wd_96 hw) (by decide) (rmA3F l Z a0 hw [] b ms dc (mc + (1 : Int32)) h102 n0 (Nat.le_trans Z0 (Keep.of_wr W102).1) f108 g1 F102 f106 f104 f109 f110 f111) e107 f108 (W := 0) (by decide) (by decide) (by decide) (by decide) (g := (mkF m 20 #[.val (.ref b), .val (.ref ms)] [(.int (0 : Int32)), (.ref dc), (.ref ms), (.ref b)])) rfl (by rw [hml]; rfl) (argsL := [(.ref ms), (.ref dc), (.int (0 : Int32))]) (rest := []) rfl (lenOf pd_4 rfl) rfl (by show 2 * 0 + _ ≤ _; exact Nat.le_of_eq rfl) (hb hby d_rmAdd_20) ?_
    intro v112 T112 L112 hQ112 X112
    obtain ⟨r112, rfl, NN112, KK112, q112_0, q112_1, q112_2, q112_3, q112_4, q112_5, q112_6, q112_7⟩ := hQ112
    have N112 := Fr.app N102 NN112
    have K113 : Keep h0 T112.heap [b, ea] := (K103.trans KK112 (allS (Or.inl (List.mem_of_getElem? (i := 0) rfl)) all0))
    show own_Dn p e below s (fun v h L => ∃ r : Addr, v = some (.int (1 : Int32)) ∧ Fr n0 L ∧ Keep h0 h [b, ea] ∧ own_L Z n0 dc h b (k + 1) r ∧ Sta Z h "java/util/ArrayList" "DEFAULTCAPACITY_EMPTY_ELEMENTDATA" "[Ljava/lang/Object;" (.ref dc) ∧ own_A Z h dc 0) ({ frames := 4, cells := 1, slots := 10, locals := 56 } : Room).cells ({ frames := 4, cells := 1, slots := 10, locals := 56 } : Room).slots (T112.setTop (mkF m 23 #[.val (.ref b), .val (.ref ms)] []))
    refine own_st (q' := T112.setTop (mkF m 24 #[.val (.ref b), .val (.ref ms)] [(.int (1 : Int32))])) (fun _ k => XS.iconst X112.here hx rfl (hb hby d_rmAdd_23) k) ?_
    exact own_retN X112 hx hlk (t := .boolean) hret (by simp) (hb hby d_rmAdd_24) (rfl : T112.heap = T112.heap) (by exact ⟨r112, rfl, N112, K113, ⟨q112_1, g1, _, (1 : Int32), (by decide), (by have : (1 : Int32).toInt = 1 := rfl; omega), q112_2, q112_3, q112_4, Or.inr ⟨(Nat.le_trans (Nat.le_trans Z0 (Keep.of_wr W102).1) q112_0), q112_5.toA⟩⟩, q112_6, q112_7⟩) (by decide) (by decide)
  · skip
    refine own_st (q' := s₁.setTop (mkF m 2 #[.val (.ref b), .val (.ref ms)] [(.ref b), (.ref b)])) (fun _ k => XS.aloadN X0.here hx rfl (hb hby d_rmAdd_0) rfl rfl (XS.dup X0.here hx rfl (hb hby d_rmAdd_1) rfl rfl k)) ?_
    obtain ⟨T114, X114, e114, st114⟩ := getF X0 hx hZ hown (host := "") (Or.inl (wd_88 hw)) (Via.of (wd_89 hw)) e0 F_mod (g := (mkF m 2 #[.val (.ref b), .val (.ref ms)] [(.ref b), (.ref b)])) rfl rfl (hb hby d_rmAdd_2)
    refine own_st (q' := T114.setTop (mkF m 5 #[.val (.ref b), .val (.ref ms)] [(.int mc), (.ref b)])) st114 ?_
    refine own_st (q' := T114.setTop (mkF m 7 #[.val (.ref b), .val (.ref ms)] [(.int (mc + (1 : Int32))), (.ref b)])) (fun _ k => XS.iconst X114.here hx rfl (hb hby d_rmAdd_5) (XS.iadd X114.here hx rfl (hb hby d_rmAdd_6) rfl k)) ?_
    obtain ⟨T115, h115, X115, e115, W115, st115⟩ := putF X114 hx hZ hown (host := "") (Or.inl (wd_88 hw)) (Via.of (wd_89 hw)) e114 F_mod E1 (Or.inl (wd_29 hw)) (wd_10 hw) (ty := .int) (by decide) rfl rfl (g := (mkF m 7 #[.val (.ref b), .val (.ref ms)] [(.int (mc + (1 : Int32))), (.ref b)])) rfl rfl (hb hby d_rmAdd_7)
    have N115 := Fr.snoc X115 N0 g1
    have K116 : Keep h0 h115 [b, ea] := ((Keep.refl h0 [b, ea]).wr W115 (Or.inl (List.mem_of_getElem? (i := 0) rfl)))
    have F115 := F_mod.same W115
    refine own_st (q' := T115.setTop (mkF m 10 #[.val (.ref b), .val (.ref ms)] [])) st115 ?_
    refine own_st (q' := T115.setTop (mkF m 13 #[.val (.ref b), .val (.ref ms)] [(.ref b), (.ref ms), (.ref b)])) (fun _ k => XS.aloadN X115.here hx rfl (hb hby d_rmAdd_10) rfl rfl (XS.aloadN X115.here hx rfl (hb hby d_rmAdd_11) rfl rfl (XS.aloadN X115.here hx rfl (hb hby d_rmAdd_12) rfl rfl k))) ?_
    have f117 := (F_ed.other W115 (Or.inr (sn_1 hw)))
    obtain ⟨T118, X118, e118, st118⟩ := getF X115 hx hZ hown (host := "") (Or.inl (wd_31 hw)) Via.refl e115 f117 (g := (mkF m 13 #[.val (.ref b), .val (.ref ms)] [(.ref b), (.ref ms), (.ref b)])) rfl rfl (hb hby d_rmAdd_13)
    refine own_st (q' := T118.setTop (mkF m 16 #[.val (.ref b), .val (.ref ms)] [(.ref ea), (.ref ms), (.ref b)])) st118 ?_
    refine own_st (q' := T118.setTop (mkF m 17 #[.val (.ref b), .val (.ref ms)] [(.ref b), (.ref ea), (.ref ms), (.ref b)])) (fun _ k => XS.aloadN X118.here hx rfl (hb hby d_rmAdd_16) rfl rfl k) ?_
    have f119 := (F_sz.other W115 (Or.inr (sn_0 hw)))
    obtain ⟨T120, X120, e120, st120⟩ := getF X118 hx hZ hown (host := "") (Or.inl (wd_90 hw)) Via.refl e118 f119 (g := (mkF m 17 #[.val (.ref b), .val (.ref ms)] [(.ref b), (.ref ea), (.ref ms), (.ref b)])) rfl rfl (hb hby d_rmAdd_17)
    refine own_st (q' := T120.setTop (mkF m 20 #[.val (.ref b), .val (.ref ms)] [(.int n), (.ref ea), (.ref ms), (.ref b)])) st120 ?_
    have f121 := (E1.wr W115)
    have f122 := (Aea.wr W115)
    have f123 := (Em.wr W115)
    have f124 := (Fs.wr W115)
    have f125 := (A0.wr W115)
    refine own_callP (xi := (⟨"java/util/List", "add", "(Ljava/lang/Object;)Z"⟩ : MethodName)) (x := (⟨"java/util/ArrayList", "add", "(Ljava/lang/Object;)Z"⟩ : MethodName)) (y := (⟨"java/util/ArrayList", "add", "(Ljava/lang/Object;[Ljava/lang/Object;I)V"⟩ : MethodName)) X120 hx hZ hown (wd_92 hw) (wd_94 hw) (wd_82 hw) rfl (wd_93 hw) (wd_11 hw) (wd_96 hw) (by decide) (rmA3G l Z a0 hw [] b ms dc ea (mc + (1 : Int32)) n h115 n0 (Nat.le_trans Z0 (Keep.of_wr W115).1) f121 g1 F115 f119 f117 f122 gea hn0 (by omega) f123 f124 f125) e120 f121 (W := 0) (by decide) (by decide) (by decide) (by decide) (g := (mkF m 20 #[.val (.ref b), .val (.ref ms)] [(.int n), (.ref ea), (.ref ms), (.ref b)])) rfl (by rw [hml]; rfl) (argsL := [(.ref ms), (.ref ea), (.int n)]) (rest := []) rfl (lenOf pd_4 rfl) rfl (by show 2 * 0 + _ ≤ _; exact Nat.le_of_eq rfl) (hb hby d_rmAdd_20) ?_
    intro v126 T126 L126 hQ126 X126
    obtain ⟨rfl, NN126, KK126, q126_0, q126_1, q126_2, q126_3, q126_4, q126_5, q126_6⟩ := hQ126
    have N126 := Fr.app N115 NN126
    have K127 : Keep h0 T126.heap [b, ea] := (K116.trans KK126 (allS (Or.inl (List.mem_of_getElem? (i := 0) rfl)) (allS (Or.inl (List.mem_of_getElem? (i := 1) rfl)) all0)))
    show own_Dn p e below s (fun v h L => ∃ r : Addr, v = some (.int (1 : Int32)) ∧ Fr n0 L ∧ Keep h0 h [b, ea] ∧ own_L Z n0 dc h b (k + 1) r ∧ Sta Z h "java/util/ArrayList" "DEFAULTCAPACITY_EMPTY_ELEMENTDATA" "[Ljava/lang/Object;" (.ref dc) ∧ own_A Z h dc 0) ({ frames := 4, cells := 1, slots := 10, locals := 56 } : Room).cells ({ frames := 4, cells := 1, slots := 10, locals := 56 } : Room).slots (T126.setTop (mkF m 23 #[.val (.ref b), .val (.ref ms)] []))
    refine own_st (q' := T126.setTop (mkF m 24 #[.val (.ref b), .val (.ref ms)] [(.int (1 : Int32))])) (fun _ k => XS.iconst X126.here hx rfl (hb hby d_rmAdd_23) k) ?_
    exact own_retN X126 hx hlk (t := .boolean) hret (by simp) (hb hby d_rmAdd_24) (rfl : T126.heap = T126.heap) (by exact ⟨ea, rfl, N126, K127, ⟨q126_0, g1, _, _, (own_inc hn0 hn1 (by omega)).1, (own_inc hn0 hn1 (by omega)).2, q126_1, q126_2, q126_3, Or.inr ⟨gea, q126_4⟩⟩, q126_5, q126_6⟩) (by decide) (by decide)
theorem ef_rmAddF (m : MethodId) (x0 : Addr) (x1 : Addr) : entryFrame m #[(.ref x0), (.ref x1)] 2 = mkF m 0 #[.val (.ref x0), .val (.ref x1)] [] := by first | (simp [entryFrame, mkF, argsToLocals, Value.category]; done) | rfl
theorem d_rmAddF_0 : decode jdk_38_method_25_code 0 = .ok (.aload_n 0, 1) := by decide +kernel
theorem d_rmAddF_1 : decode jdk_38_method_25_code 1 = .ok (.dup, 1) := by decide +kernel
theorem d_rmAddF_2 : decode jdk_38_method_25_code 2 = .ok (.getfield 63, 3) := by decide +kernel
theorem d_rmAddF_5 : decode jdk_38_method_25_code 5 = .ok (.iconst 1, 1) := by decide +kernel
theorem d_rmAddF_6 : decode jdk_38_method_25_code 6 = .ok (.iadd, 1) := by decide +kernel
theorem d_rmAddF_7 : decode jdk_38_method_25_code 7 = .ok (.putfield 63, 3) := by decide +kernel
theorem d_rmAddF_10 : decode jdk_38_method_25_code 10 = .ok (.aload_n 0, 1) := by decide +kernel
theorem d_rmAddF_11 : decode jdk_38_method_25_code 11 = .ok (.aload_n 1, 1) := by decide +kernel
theorem d_rmAddF_12 : decode jdk_38_method_25_code 12 = .ok (.aload_n 0, 1) := by decide +kernel
theorem d_rmAddF_13 : decode jdk_38_method_25_code 13 = .ok (.getfield 9, 3) := by decide +kernel
theorem d_rmAddF_16 : decode jdk_38_method_25_code 16 = .ok (.aload_n 0, 1) := by decide +kernel
theorem d_rmAddF_17 : decode jdk_38_method_25_code 17 = .ok (.getfield 48, 3) := by decide +kernel
theorem d_rmAddF_20 : decode jdk_38_method_25_code 20 = .ok (.invokevirtual 131, 3) := by decide +kernel
theorem d_rmAddF_23 : decode jdk_38_method_25_code 23 = .ok (.iconst 1, 1) := by decide +kernel
theorem d_rmAddF_24 : decode jdk_38_method_25_code 24 = .ok (.ireturn, 1) := by decide +kernel
set_option maxRecDepth 65536 in
set_option maxHeartbeats 40000000 in
theorem rmAddF (l : Launch) (Z : State) (a0 : Array Value) (hw : ∀ d ∈ tables_1, d.before a0 Z = true) (ws : List Jvm.Cond) (b ms dc : Addr) (mc : Int32) (h0 : Heap) (n0 : Nat) (Z0 : n0 ≤ h0.size) (E1 : Exa Z h0 b "java/util/ArrayList") (g1 : n0 ≤ b) (F_mod : Fld Z h0 b "java/util/AbstractList" "modCount" "I" (.int mc)) (F_sz : Fld Z h0 b "java/util/ArrayList" "size" "I" (.int (0 : Int32))) (F_ed : Fld Z h0 b "java/util/ArrayList" "elementData" "[Ljava/lang/Object;" (.ref dc)) (Em : Exa Z h0 ms "com/example/rock_dove/rockdove/store/StoredMessage") (Fs : Sta Z h0 "java/util/ArrayList" "DEFAULTCAPACITY_EMPTY_ELEMENTDATA" "[Ljava/lang/Object;" (.ref dc)) (A0 : own_A Z h0 dc 0) :
    own_Met l Z (⟨"java/util/ArrayList", "add", "(Ljava/lang/Object;)Z"⟩ : MethodName) ws jdk_38_method_25_code 2 (some .boolean) ({ frames := 4, cells := 1, slots := 10, locals := 56 } : Room) #[(.ref b), (.ref ms)] h0 (fun v h L => ∃ r : Addr, v = some (.int (1 : Int32)) ∧ Fr n0 L ∧ Keep h0 h [b] ∧ h0.size ≤ r ∧ Exa Z h b "java/util/ArrayList" ∧ Fld Z h b "java/util/AbstractList" "modCount" "I" (.int (mc + (1 : Int32))) ∧ Fld Z h b "java/util/ArrayList" "size" "I" (.int (1 : Int32)) ∧ Fld Z h b "java/util/ArrayList" "elementData" "[Ljava/lang/Object;" (.ref r) ∧ own_B Z h r 10 ms ∧ Sta Z h "java/util/ArrayList" "DEFAULTCAPACITY_EMPTY_ELEMENTDATA" "[Ljava/lang/Object;" (.ref dc) ∧ own_A Z h dc 0) := by
  refine own_body (y := (⟨"java/util/ArrayList", "add", "(Ljava/lang/Object;)Z"⟩ : MethodName)) (plainFor_of_name pn_2) ?_
  intro p e s m below meth c s₁ hx hby hml hown hnm hret hlk hZ X0 e0
  have hml : c.maxLocals = 2 := hml
  have hown : s.vm.findClass "java/util/ArrayList" = some m.cls := hown
  have N0 := Fr.nil n0
  refine own_entry (ef_rmAddF m b ms) ?_
  show own_Dn p e below s (fun v h L => ∃ r : Addr, v = some (.int (1 : Int32)) ∧ Fr n0 L ∧ Keep h0 h [b] ∧ h0.size ≤ r ∧ Exa Z h b "java/util/ArrayList" ∧ Fld Z h b "java/util/AbstractList" "modCount" "I" (.int (mc + (1 : Int32))) ∧ Fld Z h b "java/util/ArrayList" "size" "I" (.int (1 : Int32)) ∧ Fld Z h b "java/util/ArrayList" "elementData" "[Ljava/lang/Object;" (.ref r) ∧ own_B Z h r 10 ms ∧ Sta Z h "java/util/ArrayList" "DEFAULTCAPACITY_EMPTY_ELEMENTDATA" "[Ljava/lang/Object;" (.ref dc) ∧ own_A Z h dc 0) ({ frames := 4, cells := 1, slots := 10, locals := 56 } : Room).cells ({ frames := 4, cells := 1, slots := 10, locals := 56 } : Room).slots (s₁.setTop (mkF m 0 #[.val (.ref b), .val (.ref ms)] []))
  refine own_st (q' := s₁.setTop (mkF m 2 #[.val (.ref b), .val (.ref ms)] [(.ref b), (.ref b)])) (fun _ k => XS.aloadN X0.here hx rfl (hb hby d_rmAddF_0) rfl rfl (XS.dup X0.here hx rfl (hb hby d_rmAddF_1) rfl rfl k)) ?_
  obtain ⟨T101, X101, e101, st101⟩ := getF X0 hx hZ hown (host := "") (Or.inl (wd_88 hw)) (Via.of (wd_89 hw)) e0 F_mod (g := (mkF m 2 #[.val (.ref b), .val (.ref ms)] [(.ref b), (.ref b)])) rfl rfl (hb hby d_rmAddF_2)
  refine own_st (q' := T101.setTop (mkF m 5 #[.val (.ref b), .val (.ref ms)] [(.int mc), (.ref b)])) st101 ?_
  refine own_st (q' := T101.setTop (mkF m 7 #[.val (.ref b), .val (.ref ms)] [(.int (mc + (1 : Int32))), (.ref b)])) (fun _ k => XS.iconst X101.here hx rfl (hb hby d_rmAddF_5) (XS.iadd X101.here hx rfl (hb hby d_rmAddF_6) rfl k)) ?_
  obtain ⟨T102, h102, X102, e102, W102, st102⟩ := putF X101 hx hZ hown (host := "") (Or.inl (wd_88 hw)) (Via.of (wd_89 hw)) e101 F_mod E1 (Or.inl (wd_29 hw)) (wd_10 hw) (ty := .int) (by decide) rfl rfl (g := (mkF m 7 #[.val (.ref b), .val (.ref ms)] [(.int (mc + (1 : Int32))), (.ref b)])) rfl rfl (hb hby d_rmAddF_7)
  have N102 := Fr.snoc X102 N0 g1
  have K103 : Keep h0 h102 [b] := ((Keep.refl h0 [b]).wr W102 (Or.inl (List.mem_of_getElem? (i := 0) rfl)))
  have F102 := F_mod.same W102
  refine own_st (q' := T102.setTop (mkF m 10 #[.val (.ref b), .val (.ref ms)] [])) st102 ?_
  refine own_st (q' := T102.setTop (mkF m 13 #[.val (.ref b), .val (.ref ms)] [(.ref b), (.ref ms), (.ref b)])) (fun _ k => XS.aloadN X102.here hx rfl (hb hby d_rmAddF_10) rfl rfl (XS.aloadN X102.here hx rfl (hb hby d_rmAddF_11) rfl rfl (XS.aloadN X102.here hx rfl (hb hby d_rmAddF_12) rfl rfl k))) ?_
  have f104 := (F_ed.other W102 (Or.inr (sn_1 hw)))
  obtain ⟨T105, X105, e105, st105⟩ := getF X102 hx hZ hown (host := "") (Or.inl (wd_31 hw)) Via.refl e102 f104 (g := (mkF m 13 #[.val (.ref b), .val (.ref ms)] [(.ref b), (.ref ms), (.ref b)])) rfl rfl (hb hby d_rmAddF_13)
  refine own_st (q' := T105.setTop (mkF m 16 #[.val (.ref b), .val (.ref ms)] [(.ref dc), (.ref ms), (.ref b)])) st105 ?_
  refine own_st (q' := T105.setTop (mkF m 17 #[.val (.ref b), .val (.ref ms)] [(.ref b), (.ref dc), (.ref ms), (.ref b)])) (fun _ k => XS.aloadN X105.here hx rfl (hb hby d_rmAddF_16) rfl rfl k) ?_
  have f106 := (F_sz.other W102 (Or.inr (sn_0 hw)))
  obtain ⟨T107, X107, e107, st107⟩ := getF X105 hx hZ hown (host := "") (Or.inl (wd_90 hw)) Via.refl e105 f106 (g := (mkF m 17 #[.val (.ref b), .val (.ref ms)] [(.ref b), (.ref dc), (.ref ms), (.ref b)])) rfl rfl (hb hby d_rmAddF_17)
  refine own_st (q' := T107.setTop (mkF m 20 #[.val (.ref b), .val (.ref ms)] [(.int (0 : Int32)), (.ref dc), (.ref ms), (.ref b)])) st107 ?_
  have f108 := (E1.wr W102)
  have f109 := (Em.wr W102)
  have f110 := (Fs.wr W102)
  have f111 := (A0.wr W102)
  refine own_callP (xi := (⟨"java/util/List", "add", "(Ljava/lang/Object;)Z"⟩ : MethodName)) (x := (⟨"java/util/ArrayList", "add", "(Ljava/lang/Object;)Z"⟩ : MethodName)) (y := (⟨"java/util/ArrayList", "add", "(Ljava/lang/Object;[Ljava/lang/Object;I)V"⟩ : MethodName)) X107 hx hZ hown (wd_92 hw) (wd_94 hw) (wd_82 hw) rfl (wd_93 hw) (wd_11 hw) (wd_96 hw) (by decide) (rmA3F l Z a0 hw [] b ms dc (mc + (1 : Int32)) h102 n0 (Nat.le_trans Z0 (Keep.of_wr W102).1) f108 g1 F102 f106 f104 f109 f110 f111) e107 f108 (W := 0) (by decide) (by decide) (by decide) (by decide) (g := (mkF m 20 #[.val (.ref b), .val (.ref ms)] [(.int (0 : Int32)), (.ref dc), (.ref ms), (.ref b)])) rfl (by rw [hml]; rfl) (argsL := [(.ref ms), (.ref dc), (.int (0 : Int32))]) (rest := []) rfl (lenOf pd_4 rfl) rfl (by show 2 * 0 + _ ≤ _; exact Nat.le_of_eq rfl) (hb hby d_rmAddF_20) ?_
  intro v112 T112 L112 hQ112 X112
  obtain ⟨r112, rfl, NN112, KK112, q112_0, q112_1, q112_2, q112_3, q112_4, q112_5, q112_6, q112_7⟩ := hQ112
  have N112 := Fr.app N102 NN112
  have K113 : Keep h0 T112.heap [b] := (K103.trans KK112 (allS (Or.inl (List.mem_of_getElem? (i := 0) rfl)) all0))
  show own_Dn p e below s (fun v h L => ∃ r : Addr, v = some (.int (1 : Int32)) ∧ Fr n0 L ∧ Keep h0 h [b] ∧ h0.size ≤ r ∧ Exa Z h b "java/util/ArrayList" ∧ Fld Z h b "java/util/AbstractList" "modCount" "I" (.int (mc + (1 : Int32))) ∧ Fld Z h b "java/util/ArrayList" "size" "I" (.int (1 : Int32)) ∧ Fld Z h b "java/util/ArrayList" "elementData" "[Ljava/lang/Object;" (.ref r) ∧ own_B Z h r 10 ms ∧ Sta Z h "java/util/ArrayList" "DEFAULTCAPACITY_EMPTY_ELEMENTDATA" "[Ljava/lang/Object;" (.ref dc) ∧ own_A Z h dc 0) ({ frames := 4, cells := 1, slots := 10, locals := 56 } : Room).cells ({ frames := 4, cells := 1, slots := 10, locals := 56 } : Room).slots (T112.setTop (mkF m 23 #[.val (.ref b), .val (.ref ms)] []))
  refine own_st (q' := T112.setTop (mkF m 24 #[.val (.ref b), .val (.ref ms)] [(.int (1 : Int32))])) (fun _ k => XS.iconst X112.here hx rfl (hb hby d_rmAddF_23) k) ?_
  exact own_retN X112 hx hlk (t := .boolean) hret (by simp) (hb hby d_rmAddF_24) (rfl : T112.heap = T112.heap) (by exact ⟨_, rfl, N112, K113, (Nat.le_trans K103.1 q112_0), q112_1, q112_2, q112_3, q112_4, q112_5, q112_6, q112_7⟩) (by decide) (by decide)
theorem ef_rmCl (m : MethodId) (x0 : Addr) : entryFrame m #[(.ref x0)] 4 = mkF m 0 #[.val (.ref x0), .unset, .unset, .unset] [] := by first | (simp [entryFrame, mkF, argsToLocals, Value.category]; done) | rfl
theorem d_rmCl_0 : decode jdk_38_method_40_code 0 = .ok (.aload_n 0, 1) := by decide +kernel
theorem d_rmCl_1 : decode jdk_38_method_40_code 1 = .ok (.dup, 1) := by decide +kernel
theorem d_rmCl_2 : decode jdk_38_method_40_code 2 = .ok (.getfield 63, 3) := by decide +kernel
theorem d_rmCl_5 : decode jdk_38_method_40_code 5 = .ok (.iconst 1, 1) := by decide +kernel
theorem d_rmCl_6 : decode jdk_38_method_40_code 6 = .ok (.iadd, 1) := by decide +kernel
theorem d_rmCl_7 : decode jdk_38_method_40_code 7 = .ok (.putfield 63, 3) := by decide +kernel
theorem d_rmCl_10 : decode jdk_38_method_40_code 10 = .ok (.aload_n 0, 1) := by decide +kernel
theorem d_rmCl_11 : decode jdk_38_method_40_code 11 = .ok (.getfield 9, 3) := by decide +kernel
theorem d_rmCl_14 : decode jdk_38_method_40_code 14 = .ok (.astore_n 1, 1) := by decide +kernel
theorem d_rmCl_15 : decode jdk_38_method_40_code 15 = .ok (.aload_n 0, 1) := by decide +kernel
theorem d_rmCl_16 : decode jdk_38_method_40_code 16 = .ok (.getfield 48, 3) := by decide +kernel
theorem d_rmCl_19 : decode jdk_38_method_40_code 19 = .ok (.istore_n 2, 1) := by decide +kernel
theorem d_rmCl_20 : decode jdk_38_method_40_code 20 = .ok (.aload_n 0, 1) := by decide +kernel
theorem d_rmCl_21 : decode jdk_38_method_40_code 21 = .ok (.iconst 0, 1) := by decide +kernel
theorem d_rmCl_22 : decode jdk_38_method_40_code 22 = .ok (.dup_x1, 1) := by decide +kernel
theorem d_rmCl_23 : decode jdk_38_method_40_code 23 = .ok (.putfield 48, 3) := by decide +kernel
theorem d_rmCl_26 : decode jdk_38_method_40_code 26 = .ok (.istore_n 3, 1) := by decide +kernel
theorem d_rmCl_27 : decode jdk_38_method_40_code 27 = .ok (.iload_n 3, 1) := by decide +kernel
theorem d_rmCl_28 : decode jdk_38_method_40_code 28 = .ok (.iload_n 2, 1) := by decide +kernel
theorem d_rmCl_29 : decode jdk_38_method_40_code 29 = .ok (.if_icmp .ge 13, 3) := by decide +kernel
theorem d_rmCl_32 : decode jdk_38_method_40_code 32 = .ok (.aload_n 1, 1) := by decide +kernel
theorem d_rmCl_33 : decode jdk_38_method_40_code 33 = .ok (.iload_n 3, 1) := by decide +kernel
theorem d_rmCl_34 : decode jdk_38_method_40_code 34 = .ok (.aconst_null, 1) := by decide +kernel
theorem d_rmCl_35 : decode jdk_38_method_40_code 35 = .ok (.aastore, 1) := by decide +kernel
theorem d_rmCl_36 : decode jdk_38_method_40_code 36 = .ok (.iinc 3 1, 3) := by decide +kernel
theorem d_rmCl_39 : decode jdk_38_method_40_code 39 = .ok (.goto (-12), 3) := by decide +kernel
theorem d_rmCl_42 : decode jdk_38_method_40_code 42 = .ok (.return_, 1) := by decide +kernel
set_option maxRecDepth 65536 in
set_option maxHeartbeats 40000000 in
theorem rmCl (l : Launch) (Z : State) (a0 : Array Value) (hw : ∀ d ∈ tables_1, d.before a0 Z = true) (ws : List Jvm.Cond) (b dc ea : Addr) (k : Nat) (h0 : Heap) (n0 : Nat) (Z0 : n0 ≤ h0.size) (HL : own_L Z n0 dc h0 b k ea) (hk : k ≤ 3) (Fs : Sta Z h0 "java/util/ArrayList" "DEFAULTCAPACITY_EMPTY_ELEMENTDATA" "[Ljava/lang/Object;" (.ref dc)) (A0 : own_A Z h0 dc 0) :
    own_Met l Z (⟨"java/util/ArrayList", "clear", "()V"⟩ : MethodName) ws jdk_38_method_40_code 4 none ({ frames := 0, cells := 0, slots := 0, locals := 0 } : Room) #[(.ref b)] h0 (fun v h L => v = none ∧ Fr n0 L ∧ Keep h0 h [b, ea] ∧ own_L Z n0 dc h b 0 ea ∧ Sta Z h "java/util/ArrayList" "DEFAULTCAPACITY_EMPTY_ELEMENTDATA" "[Ljava/lang/Object;" (.ref dc) ∧ own_A Z h dc 0) := by
  refine own_body (y := (⟨"java/util/ArrayList", "clear", "()V"⟩ : MethodName)) (plainFor_of_name pn_2) ?_
  intro p e s m below meth c s₁ hx hby hml hown hnm hret hlk hZ X0 e0
  have hml : c.maxLocals = 4 := hml
  have hown : s.vm.findClass "java/util/ArrayList" = some m.cls := hown
  have N0 := Fr.nil n0
  refine own_entry (ef_rmCl m b) ?_
  show own_Dn p e below s (fun v h L => v = none ∧ Fr n0 L ∧ Keep h0 h [b, ea] ∧ own_L Z n0 dc h b 0 ea ∧ Sta Z h "java/util/ArrayList" "DEFAULTCAPACITY_EMPTY_ELEMENTDATA" "[Ljava/lang/Object;" (.ref dc) ∧ own_A Z h dc 0) ({ frames := 0, cells := 0, slots := 0, locals := 0 } : Room).cells ({ frames := 0, cells := 0, slots := 0, locals := 0 } : Room).slots (s₁.setTop (mkF m 0 #[.val (.ref b), .unset, .unset, .unset] []))
  obtain ⟨E1, g1, mc, n, hn0, hn1, F_mod, F_sz, F_ed, hcs⟩ := HL
  rcases hcs with ⟨q1, q2⟩ | ⟨gea, Aea⟩
  · skip
    rw [q1] at F_ed
    rw [q2] at F_sz
    refine own_st (q' := s₁.setTop (mkF m 2 #[.val (.ref b), .unset, .unset, .unset] [(.ref b), (.ref b)])) (fun _ k => XS.aloadN X0.here hx rfl (hb hby d_rmCl_0) rfl rfl (XS.dup X0.here hx rfl (hb hby d_rmCl_1) rfl rfl k)) ?_
    obtain ⟨T101, X101, e101, st101⟩ := getF X0 hx hZ hown (host := "") (Or.inl (wd_88 hw)) (Via.of (wd_89 hw)) e0 F_mod (g := (mkF m 2 #[.val (.ref b), .unset, .unset, .unset] [(.ref b), (.ref b)])) rfl rfl (hb hby d_rmCl_2)
    refine own_st (q' := T101.setTop (mkF m 5 #[.val (.ref b), .unset, .unset, .unset] [(.int mc), (.ref b)])) st101 ?_
    refine own_st (q' := T101.setTop (mkF m 7 #[.val (.ref b), .unset, .unset, .unset] [(.int (mc + (1 : Int32))), (.ref b)])) (fun _ k => XS.iconst X101.here hx rfl (hb hby d_rmCl_5) (XS.iadd X101.here hx rfl (hb hby d_rmCl_6) rfl k)) ?_
    obtain ⟨T102, h102, X102, e102, W102, st102⟩ := putF X101 hx hZ hown (host := "") (Or.inl (wd_88 hw)) (Via.of (wd_89 hw)) e101 F_mod E1 (Or.inl (wd_29 hw)) (wd_10 hw) (ty := .int) (by decide) rfl rfl (g := (mkF m 7 #[.val (.ref b), .unset, .unset, .unset] [(.int (mc + (1 : Int32))), (.ref b)])) rfl rfl (hb hby d_rmCl_7)
    have N102 := Fr.snoc X102 N0 g1
    have K103 : Keep h0 h102 [b, ea] := ((Keep.refl h0 [b, ea]).wr W102 (Or.inl (List.mem_of_getElem? (i := 0) rfl)))
    have F102 := F_mod.same W102
    refine own_st (q' := T102.setTop (mkF m 10 #[.val (.ref b), .unset, .unset, .unset] [])) st102 ?_
    refine own_st (q' := T102.setTop (mkF m 11 #[.val (.ref b), .unset, .unset, .unset] [(.ref b)])) (fun _ k => XS.aloadN X102.here hx rfl (hb hby d_rmCl_10) rfl rfl k) ?_
    have f104 := (F_ed.other W102 (Or.inr (sn_1 hw)))
    obtain ⟨T105, X105, e105, st105⟩ := getF X102 hx hZ hown (host := "") (Or.inl (wd_31 hw)) Via.refl e102 f104 (g := (mkF m 11 #[.val (.ref b), .unset, .unset, .unset] [(.ref b)])) rfl rfl (hb hby d_rmCl_11)
    refine own_st (q' := T105.setTop (mkF m 14 #[.val (.ref b), .unset, .unset, .unset] [(.ref dc)])) st105 ?_
    refine own_st (q' := T105.setTop (mkF m 16 #[.val (.ref b), .val (.ref dc), .unset, .unset] [(.ref b)])) (fun _ k => XS.astoreN X105.here hx rfl (hb hby d_rmCl_14) rfl rfl (l' := #[.val (.ref b), .val (.ref dc), .unset, .unset]) rfl (XS.aloadN X105.here hx rfl (hb hby d_rmCl_15) rfl rfl k)) ?_
    have f106 := (F_sz.other W102 (Or.inr (sn_0 hw)))
    obtain ⟨T107, X107, e107, st107⟩ := getF X105 hx hZ hown (host := "") (Or.inl (wd_90 hw)) Via.refl e105 f106 (g := (mkF m 16 #[.val (.ref b), .val (.ref dc), .unset, .unset] [(.ref b)])) rfl rfl (hb hby d_rmCl_16)
    refine own_st (q' := T107.setTop (mkF m 19 #[.val (.ref b), .val (.ref dc), .unset, .unset] [(.int (0 : Int32))])) st107 ?_
    refine own_st (q' := T107.setTop (mkF m 23 #[.val (.ref b), .val (.ref dc), .val (.int (0 : Int32)), .unset] [(.int (0 : Int32)), (.ref b), (.int (0 : Int32))])) (fun _ k => XS.istoreN X107.here hx rfl (hb hby d_rmCl_19) rfl (l' := #[.val (.ref b), .val (.ref dc), .val (.int (0 : Int32)), .unset]) rfl (XS.aloadN X107.here hx rfl (hb hby d_rmCl_20) rfl rfl (XS.iconst X107.here hx rfl (hb hby d_rmCl_21) (XS.dupX1 X107.here hx rfl (hb hby d_rmCl_22) rfl rfl rfl k)))) ?_
    have f108 := (E1.wr W102)
    obtain ⟨T109, h109, X109, e109, W109, st109⟩ := putF X107 hx hZ hown (host := "") (Or.inl (wd_90 hw)) Via.refl e107 f106 f108 (Or.inl (wd_91 hw)) (wd_10 hw) (ty := .int) (by decide) rfl rfl (g := (mkF m 23 #[.val (.ref b), .val (.ref dc), .val (.int (0 : Int32)), .unset] [(.int (0 : Int32)), (.ref b), (.int (0 : Int32))])) rfl rfl (hb hby d_rmCl_23)
    have N109 := Fr.snoc X109 N102 g1
    have K110 : Keep h0 h109 [b, ea] := (K103.wr W109 (Or.inl (List.mem_of_getElem? (i := 0) rfl)))
    have F109 := f106.same W109
    refine own_st (q' := T109.setTop (mkF m 26 #[.val (.ref b), .val (.ref dc), .val (.int (0 : Int32)), .unset] [(.int (0 : Int32))])) st109 ?_
    refine own_st (q' := T109.setTop (mkF m 42 #[.val (.ref b), .val (.ref dc), .val (.int (0 : Int32)), .val (.int (0 : Int32))] [])) (fun _ k => XS.istoreN X109.here hx rfl (hb hby d_rmCl_26) rfl (l' := #[.val (.ref b), .val (.ref dc), .val (.int (0 : Int32)), .val (.int (0 : Int32))]) rfl (XS.iloadN X109.here hx rfl (hb hby d_rmCl_27) rfl (XS.iloadN X109.here hx rfl (hb hby d_rmCl_28) rfl (XS.icmpYes X109.here hx rfl (pc0 := 29) (pc' := 42) rfl (hb hby d_rmCl_29) rfl (flt ((by decide : ¬ ((0 : Int32) < (0 : Int32))) : ¬ ((0 : Int32) < (0 : Int32)))).2.1 (by decide) (by decide) k)))) ?_
    have f111 := (F102.other W109 (Or.inr (sn_4 hw)))
    have f112 := (f104.other W109 (Or.inr (sn_5 hw)))
    have f113 := (f108.wr W109)
    have f114 := ((Fs.wr W102).wr W109)
    have f115 := ((A0.wr W102).wr W109)
    exact own_retV X109 hx hlk hret (hb hby d_rmCl_42) e109 (by exact ⟨rfl, N109, K110, (by rw [q1]; exact ⟨f113, g1, _, (0 : Int32), (by decide), (by decide), f111, F109, f112, Or.inl ⟨rfl, rfl⟩⟩), f114, f115⟩) (by decide) (by decide)
  · skip
    rcases own_4 hn0 (by omega) with q | q | q | q
    · skip
      rw [q] at F_sz
      refine own_st (q' := s₁.setTop (mkF m 2 #[.val (.ref b), .unset, .unset, .unset] [(.ref b), (.ref b)])) (fun _ k => XS.aloadN X0.here hx rfl (hb hby d_rmCl_0) rfl rfl (XS.dup X0.here hx rfl (hb hby d_rmCl_1) rfl rfl k)) ?_
      obtain ⟨T116, X116, e116, st116⟩ := getF X0 hx hZ hown (host := "") (Or.inl (wd_88 hw)) (Via.of (wd_89 hw)) e0 F_mod (g := (mkF m 2 #[.val (.ref b), .unset, .unset, .unset] [(.ref b), (.ref b)])) rfl rfl (hb hby d_rmCl_2)
      refine own_st (q' := T116.setTop (mkF m 5 #[.val (.ref b), .unset, .unset, .unset] [(.int mc), (.ref b)])) st116 ?_
      refine own_st (q' := T116.setTop (mkF m 7 #[.val (.ref b), .unset, .unset, .unset] [(.int (mc + (1 : Int32))), (.ref b)])) (fun _ k => XS.iconst X116.here hx rfl (hb hby d_rmCl_5) (XS.iadd X116.here hx rfl (hb hby d_rmCl_6) rfl k)) ?_
      obtain ⟨T117, h117, X117, e117, W117, st117⟩ := putF X116 hx hZ hown (host := "") (Or.inl (wd_88 hw)) (Via.of (wd_89 hw)) e116 F_mod E1 (Or.inl (wd_29 hw)) (wd_10 hw) (ty := .int) (by decide) rfl rfl (g := (mkF m 7 #[.val (.ref b), .unset, .unset, .unset] [(.int (mc + (1 : Int32))), (.ref b)])) rfl rfl (hb hby d_rmCl_7)
      have N117 := Fr.snoc X117 N0 g1
      have K118 : Keep h0 h117 [b, ea] := ((Keep.refl h0 [b, ea]).wr W117 (Or.inl (List.mem_of_getElem? (i := 0) rfl)))
      have F117 := F_mod.same W117
      refine own_st (q' := T117.setTop (mkF m 10 #[.val (.ref b), .unset, .unset, .unset] [])) st117 ?_
      refine own_st (q' := T117.setTop (mkF m 11 #[.val (.ref b), .unset, .unset, .unset] [(.ref b)])) (fun _ k => XS.aloadN X117.here hx rfl (hb hby d_rmCl_10) rfl rfl k) ?_
      have f119 := (F_ed.other W117 (Or.inr (sn_1 hw)))
      obtain ⟨T120, X120, e120, st120⟩ := getF X117 hx hZ hown (host := "") (Or.inl (wd_31 hw)) Via.refl e117 f119 (g := (mkF m 11 #[.val (.ref b), .unset, .unset, .unset] [(.ref b)])) rfl rfl (hb hby d_rmCl_11)
      refine own_st (q' := T120.setTop (mkF m 14 #[.val (.ref b), .unset, .unset, .unset] [(.ref ea)])) st120 ?_
      refine own_st (q' := T120.setTop (mkF m 16 #[.val (.ref b), .val (.ref ea), .unset, .unset] [(.ref b)])) (fun _ k => XS.astoreN X120.here hx rfl (hb hby d_rmCl_14) rfl rfl (l' := #[.val (.ref b), .val (.ref ea), .unset, .unset]) rfl (XS.aloadN X120.here hx rfl (hb hby d_rmCl_15) rfl rfl k)) ?_
      have f121 := (F_sz.other W117 (Or.inr (sn_0 hw)))
      obtain ⟨T122, X122, e122, st122⟩ := getF X120 hx hZ hown (host := "") (Or.inl (wd_90 hw)) Via.refl e120 f121 (g := (mkF m 16 #[.val (.ref b), .val (.ref ea), .unset, .unset] [(.ref b)])) rfl rfl (hb hby d_rmCl_16)
      refine own_st (q' := T122.setTop (mkF m 19 #[.val (.ref b), .val (.ref ea), .unset, .unset] [(.int (0 : Int32))])) st122 ?_
      refine own_st (q' := T122.setTop (mkF m 23 #[.val (.ref b), .val (.ref ea), .val (.int (0 : Int32)), .unset] [(.int (0 : Int32)), (.ref b), (.int (0 : Int32))])) (fun _ k => XS.istoreN X122.here hx rfl (hb hby d_rmCl_19) rfl (l' := #[.val (.ref b), .val (.ref ea), .val (.int (0 : Int32)), .unset]) rfl (XS.aloadN X122.here hx rfl (hb hby d_rmCl_20) rfl rfl (XS.iconst X122.here hx rfl (hb hby d_rmCl_21) (XS.dupX1 X122.here hx rfl (hb hby d_rmCl_22) rfl rfl rfl k)))) ?_
      have f123 := (E1.wr W117)
      obtain ⟨T124, h124, X124, e124, W124, st124⟩ := putF X122 hx hZ hown (host := "") (Or.inl (wd_90 hw)) Via.refl e122 f121 f123 (Or.inl (wd_91 hw)) (wd_10 hw) (ty := .int) (by decide) rfl rfl (g := (mkF m 23 #[.val (.ref b), .val (.ref ea), .val (.int (0 : Int32)), .unset] [(.int (0 : Int32)), (.ref b), (.int (0 : Int32))])) rfl rfl (hb hby d_rmCl_23)
      have N124 := Fr.snoc X124 N117 g1
      have K125 : Keep h0 h124 [b, ea] := (K118.wr W124 (Or.inl (List.mem_of_getElem? (i := 0) rfl)))
      have F124 := f121.same W124
      refine own_st (q' := T124.setTop (mkF m 26 #[.val (.ref b), .val (.ref ea), .val (.int (0 : Int32)), .unset] [(.int (0 : Int32))])) st124 ?_
      refine own_st (q' := T124.setTop (mkF m 42 #[.val (.ref b), .val (.ref ea), .val (.int (0 : Int32)), .val (.int (0 : Int32))] [])) (fun _ k => XS.istoreN X124.here hx rfl (hb hby d_rmCl_26) rfl (l' := #[.val (.ref b), .val (.ref ea), .val (.int (0 : Int32)), .val (.int (0 : Int32))]) rfl (XS.iloadN X124.here hx rfl (hb hby d_rmCl_27) rfl (XS.iloadN X124.here hx rfl (hb hby d_rmCl_28) rfl (XS.icmpYes X124.here hx rfl (pc0 := 29) (pc' := 42) rfl (hb hby d_rmCl_29) rfl (flt ((by decide : ¬ ((0 : Int32) < (0 : Int32))) : ¬ ((0 : Int32) < (0 : Int32)))).2.1 (by decide) (by decide) k)))) ?_
      have f126 := (F117.other W124 (Or.inr (sn_4 hw)))
      have f127 := (f119.other W124 (Or.inr (sn_5 hw)))
      have f128 := (f123.wr W124)
      have f129 := ((Aea.wr W117).wr W124)
      have f130 := ((Fs.wr W117).wr W124)
      have f131 := ((A0.wr W117).wr W124)
      exact own_retV X124 hx hlk hret (hb hby d_rmCl_42) e124 (by exact ⟨rfl, N124, K125, ⟨f128, g1, _, (0 : Int32), (by decide), (by decide), f126, F124, f127, Or.inr ⟨gea, f129⟩⟩, f130, f131⟩) (by decide) (by decide)
    · skip
      rw [q] at F_sz
      refine own_st (q' := s₁.setTop (mkF m 2 #[.val (.ref b), .unset, .unset, .unset] [(.ref b), (.ref b)])) (fun _ k => XS.aloadN X0.here hx rfl (hb hby d_rmCl_0) rfl rfl (XS.dup X0.here hx rfl (hb hby d_rmCl_1) rfl rfl k)) ?_
      obtain ⟨T132, X132, e132, st132⟩ := getF X0 hx hZ hown (host := "") (Or.inl (wd_88 hw)) (Via.of (wd_89 hw)) e0 F_mod (g := (mkF m 2 #[.val (.ref b), .unset, .unset, .unset] [(.ref b), (.ref b)])) rfl rfl (hb hby d_rmCl_2)
      refine own_st (q' := T132.setTop (mkF m 5 #[.val (.ref b), .unset, .unset, .unset] [(.int mc), (.ref b)])) st132 ?_
      refine own_st (q' := T132.setTop (mkF m 7 #[.val (.ref b), .unset, .unset, .unset] [(.int (mc + (1 : Int32))), (.ref b)])) (fun _ k => XS.iconst X132.here hx rfl (hb hby d_rmCl_5) (XS.iadd X132.here hx rfl (hb hby d_rmCl_6) rfl k)) ?_
      obtain ⟨T133, h133, X133, e133, W133, st133⟩ := putF X132 hx hZ hown (host := "") (Or.inl (wd_88 hw)) (Via.of (wd_89 hw)) e132 F_mod E1 (Or.inl (wd_29 hw)) (wd_10 hw) (ty := .int) (by decide) rfl rfl (g := (mkF m 7 #[.val (.ref b), .unset, .unset, .unset] [(.int (mc + (1 : Int32))), (.ref b)])) rfl rfl (hb hby d_rmCl_7)
      have N133 := Fr.snoc X133 N0 g1
      have K134 : Keep h0 h133 [b, ea] := ((Keep.refl h0 [b, ea]).wr W133 (Or.inl (List.mem_of_getElem? (i := 0) rfl)))
      have F133 := F_mod.same W133
      refine own_st (q' := T133.setTop (mkF m 10 #[.val (.ref b), .unset, .unset, .unset] [])) st133 ?_
      refine own_st (q' := T133.setTop (mkF m 11 #[.val (.ref b), .unset, .unset, .unset] [(.ref b)])) (fun _ k => XS.aloadN X133.here hx rfl (hb hby d_rmCl_10) rfl rfl k) ?_
      have f135 := (F_ed.other W133 (Or.inr (sn_1 hw)))
      obtain ⟨T136, X136, e136, st136⟩ := getF X133 hx hZ hown (host := "") (Or.inl (wd_31 hw)) Via.refl e133 f135 (g := (mkF m 11 #[.val (.ref b), .unset, .unset, .unset] [(.ref b)])) rfl rfl (hb hby d_rmCl_11)
      refine own_st (q' := T136.setTop (mkF m 14 #[.val (.ref b), .unset, .unset, .unset] [(.ref ea)])) st136 ?_
      refine own_st (q' := T136.setTop (mkF m 16 #[.val (.ref b), .val (.ref ea), .unset, .unset] [(.ref b)])) (fun _ k => XS.astoreN X136.here hx rfl (hb hby d_rmCl_14) rfl rfl (l' := #[.val (.ref b), .val (.ref ea), .unset, .unset]) rfl (XS.aloadN X136.here hx rfl (hb hby d_rmCl_15) rfl rfl k)) ?_
      have f137 := (F_sz.other W133 (Or.inr (sn_0 hw)))
      obtain ⟨T138, X138, e138, st138⟩ := getF X136 hx hZ hown (host := "") (Or.inl (wd_90 hw)) Via.refl e136 f137 (g := (mkF m 16 #[.val (.ref b), .val (.ref ea), .unset, .unset] [(.ref b)])) rfl rfl (hb hby d_rmCl_16)
      refine own_st (q' := T138.setTop (mkF m 19 #[.val (.ref b), .val (.ref ea), .unset, .unset] [(.int (1 : Int32))])) st138 ?_
      refine own_st (q' := T138.setTop (mkF m 23 #[.val (.ref b), .val (.ref ea), .val (.int (1 : Int32)), .unset] [(.int (0 : Int32)), (.ref b), (.int (0 : Int32))])) (fun _ k => XS.istoreN X138.here hx rfl (hb hby d_rmCl_19) rfl (l' := #[.val (.ref b), .val (.ref ea), .val (.int (1 : Int32)), .unset]) rfl (XS.aloadN X138.here hx rfl (hb hby d_rmCl_20) rfl rfl (XS.iconst X138.here hx rfl (hb hby d_rmCl_21) (XS.dupX1 X138.here hx rfl (hb hby d_rmCl_22) rfl rfl rfl k)))) ?_
      have f139 := (E1.wr W133)
      obtain ⟨T140, h140, X140, e140, W140, st140⟩ := putF X138 hx hZ hown (host := "") (Or.inl (wd_90 hw)) Via.refl e138 f137 f139 (Or.inl (wd_91 hw)) (wd_10 hw) (ty := .int) (by decide) rfl rfl (g := (mkF m 23 #[.val (.ref b), .val (.ref ea), .val (.int (1 : Int32)), .unset] [(.int (0 : Int32)), (.ref b), (.int (0 : Int32))])) rfl rfl (hb hby d_rmCl_23)
      have N140 := Fr.snoc X140 N133 g1
      have K141 : Keep h0 h140 [b, ea] := (K134.wr W140 (Or.inl (List.mem_of_getElem? (i := 0) rfl)))
      have F140 := f137.same W140
      refine own_st (q' := T140.setTop (mkF m 26 #[.val (.ref b), .val (.ref ea), .val (.int (1 : Int32)), .unset] [(.int (0 : Int32))])) st140 ?_
      refine own_st (q' := T140.setTop (mkF m 33 #[.val (.ref b), .val (.ref ea), .val (.int (1 : Int32)), .val (.int (0 : Int32))] [(.ref ea)])) (fun _ k => XS.istoreN X140.here hx rfl (hb hby d_rmCl_26) rfl (l' := #[.val (.ref b), .val (.ref ea), .val (.int (1 : Int32)), .val (.int (0 : Int32))]) rfl (XS.iloadN X140.here hx rfl (hb hby d_rmCl_27) rfl (XS.iloadN X140.here hx rfl (hb hby d_rmCl_28) rfl (XS.icmpNo X140.here hx rfl (hb hby d_rmCl_29) rfl (tlt ((by decide : (0 : Int32) < (1 : Int32)) : (0 : Int32) < (1 : Int32))).2.1 (XS.aloadN X140.here hx rfl (hb hby d_rmCl_32) rfl rfl k))))) ?_
      refine own_st (q' := T140.setTop (mkF m 35 #[.val (.ref b), .val (.ref ea), .val (.int (1 : Int32)), .val (.int (0 : Int32))] [.null, (.int (0 : Int32)), (.ref ea)])) (fun _ k => XS.iloadN X140.here hx rfl (hb hby d_rmCl_33) rfl (XS.aconstNull X140.here hx rfl (hb hby d_rmCl_34) k)) ?_
      have f143 := ((Aea.wr W133).wr W140)
      obtain ⟨T142, h142, X142, e142, W142, st142⟩ := own_aast X140 hx hZ e140 f143 (by decide) (by decide) (Or.inl rfl) (g := (mkF m 35 #[.val (.ref b), .val (.ref ea), .val (.int (1 : Int32)), .val (.int (0 : Int32))] [.null, (.int (0 : Int32)), (.ref ea)])) rfl rfl (hb hby d_rmCl_35)
      have N142 := Fr.snoc X142 N140 gea
      have K144 : Keep h0 h142 [b, ea] := (K141.wr W142 (Or.inl (List.mem_of_getElem? (i := 1) rfl)))
      refine own_st (q' := T142.setTop (mkF m 36 #[.val (.ref b), .val (.ref ea), .val (.int (1 : Int32)), .val (.int (0 : Int32))] [])) st142 ?_
      refine own_st (q' := T142.setTop (mkF m 42 #[.val (.ref b), .val (.ref ea), .val (.int (1 : Int32)), .val (.int (1 : Int32))] [])) (fun _ k => XS.iinc X142.here hx rfl (hb hby d_rmCl_36) rfl (l' := #[.val (.ref b), .val (.ref ea), .val (.int (1 : Int32)), .val (.int (1 : Int32))]) rfl (XS.goto X142.here hx rfl (pc0 := 39) (pc' := 27) rfl (hb hby d_rmCl_39) (by decide) (by decide) (XS.iloadN X142.here hx rfl (hb hby d_rmCl_27) rfl (XS.iloadN X142.here hx rfl (hb hby d_rmCl_28) rfl (XS.icmpYes X142.here hx rfl (pc0 := 29) (pc' := 42) rfl (hb hby d_rmCl_29) rfl (flt ((by decide : ¬ ((1 : Int32) < (1 : Int32))) : ¬ ((1 : Int32) < (1 : Int32)))).2.1 (by decide) (by decide) k))))) ?_
      have f145 := ((F133.other W140 (Or.inr (sn_4 hw))).other W142 (Or.inl (Aea.ne E1 (wd_10 hw))))
      have f146 := (F140.other W142 (Or.inl (Aea.ne E1 (wd_10 hw))))
      have f147 := ((f135.other W140 (Or.inr (sn_5 hw))).other W142 (Or.inl (Aea.ne E1 (wd_10 hw))))
      have f148 := ((f139.wr W140).wr W142)
      have f149 := (f143.wr W142)
      have f150 := (((Fs.wr W133).wr W140).wr W142)
      have f151 := (((A0.wr W133).wr W140).wr W142)
      exact own_retV X142 hx hlk hret (hb hby d_rmCl_42) e142 (by exact ⟨rfl, N142, K144, ⟨f148, g1, _, (0 : Int32), (by decide), (by decide), f145, f146, f147, Or.inr ⟨gea, f149⟩⟩, f150, f151⟩) (by decide) (by decide)
    · skip
      rw [q] at F_sz
      refine own_st (q' := s₁.setTop (mkF m 2 #[.val (.ref b), .unset, .unset, .unset] [(.ref b), (.ref b)])) (fun _ k => XS.aloadN X0.here hx rfl (hb hby d_rmCl_0) rfl rfl (XS.dup X0.here hx rfl (hb hby d_rmCl_1) rfl rfl k)) ?_
      obtain ⟨T152, X152, e152, st152⟩ := getF X0 hx hZ hown (host := "") (Or.inl (wd_88 hw)) (Via.of (wd_89 hw)) e0 F_mod (g := (mkF m 2 #[.val (.ref b), .unset, .unset, .unset] [(.ref b), (.ref b)])) rfl rfl (hb hby d_rmCl_2)
      refine own_st (q' := T152.setTop (mkF m 5 #[.val (.ref b), .unset, .unset, .unset] [(.int mc), (.ref b)])) st152 ?_
      refine own_st (q' := T152.setTop (mkF m 7 #[.val (.ref b), .unset, .unset, .unset] [(.int (mc + (1 : Int32))), (.ref b)])) (fun _ k => XS.iconst X152.here hx rfl (hb hby d_rmCl_5) (XS.iadd X152.here hx rfl (hb hby d_rmCl_6) rfl k)) ?_
      obtain ⟨T153, h153, X153, e153, W153, st153⟩ := putF X152 hx hZ hown (host := "") (Or.inl (wd_88 hw)) (Via.of (wd_89 hw)) e152 F_mod E1 (Or.inl (wd_29 hw)) (wd_10 hw) (ty := .int) (by decide) rfl rfl (g := (mkF m 7 #[.val (.ref b), .unset, .unset, .unset] [(.int (mc + (1 : Int32))), (.ref b)])) rfl rfl (hb hby d_rmCl_7)
      have N153 := Fr.snoc X153 N0 g1
      have K154 : Keep h0 h153 [b, ea] := ((Keep.refl h0 [b, ea]).wr W153 (Or.inl (List.mem_of_getElem? (i := 0) rfl)))
      have F153 := F_mod.same W153
      refine own_st (q' := T153.setTop (mkF m 10 #[.val (.ref b), .unset, .unset, .unset] [])) st153 ?_
      refine own_st (q' := T153.setTop (mkF m 11 #[.val (.ref b), .unset, .unset, .unset] [(.ref b)])) (fun _ k => XS.aloadN X153.here hx rfl (hb hby d_rmCl_10) rfl rfl k) ?_
      have f155 := (F_ed.other W153 (Or.inr (sn_1 hw)))
      obtain ⟨T156, X156, e156, st156⟩ := getF X153 hx hZ hown (host := "") (Or.inl (wd_31 hw)) Via.refl e153 f155 (g := (mkF m 11 #[.val (.ref b), .unset, .unset, .unset] [(.ref b)])) rfl rfl (hb hby d_rmCl_11)
      refine own_st (q' := T156.setTop (mkF m 14 #[.val (.ref b), .unset, .unset, .unset] [(.ref ea)])) st156 ?_
      refine own_st (q' := T156.setTop (mkF m 16 #[.val (.ref b), .val (.ref ea), .unset, .unset] [(.ref b)])) (fun _ k => XS.astoreN X156.here hx rfl (hb hby d_rmCl_14) rfl rfl (l' := #[.val (.ref b), .val (.ref ea), .unset, .unset]) rfl (XS.aloadN X156.here hx rfl (hb hby d_rmCl_15) rfl rfl k)) ?_
      have f157 := (F_sz.other W153 (Or.inr (sn_0 hw)))
      obtain ⟨T158, X158, e158, st158⟩ := getF X156 hx hZ hown (host := "") (Or.inl (wd_90 hw)) Via.refl e156 f157 (g := (mkF m 16 #[.val (.ref b), .val (.ref ea), .unset, .unset] [(.ref b)])) rfl rfl (hb hby d_rmCl_16)
      refine own_st (q' := T158.setTop (mkF m 19 #[.val (.ref b), .val (.ref ea), .unset, .unset] [(.int (2 : Int32))])) st158 ?_
      refine own_st (q' := T158.setTop (mkF m 23 #[.val (.ref b), .val (.ref ea), .val (.int (2 : Int32)), .unset] [(.int (0 : Int32)), (.ref b), (.int (0 : Int32))])) (fun _ k => XS.istoreN X158.here hx rfl (hb hby d_rmCl_19) rfl (l' := #[.val (.ref b), .val (.ref ea), .val (.int (2 : Int32)), .unset]) rfl (XS.aloadN X158.here hx rfl (hb hby d_rmCl_20) rfl rfl (XS.iconst X158.here hx rfl (hb hby d_rmCl_21) (XS.dupX1 X158.here hx rfl (hb hby d_rmCl_22) rfl rfl rfl k)))) ?_
      have f159 := (E1.wr W153)
      obtain ⟨T160, h160, X160, e160, W160, st160⟩ := putF X158 hx hZ hown (host := "") (Or.inl (wd_90 hw)) Via.refl e158 f157 f159 (Or.inl (wd_91 hw)) (wd_10 hw) (ty := .int) (by decide) rfl rfl (g := (mkF m 23 #[.val (.ref b), .val (.ref ea), .val (.int (2 : Int32)), .unset] [(.int (0 : Int32)), (.ref b), (.int (0 : Int32))])) rfl rfl (hb hby d_rmCl_23)
      have N160 := Fr.snoc X160 N153 g1
      have K161 : Keep h0 h160 [b, ea] := (K154.wr W160 (Or.inl (List.mem_of_getElem? (i := 0) rfl)))
      have F160 := f157.same W160
      refine own_st (q' := T160.setTop (mkF m 26 #[.val (.ref b), .val (.ref ea), .val (.int (2 : Int32)), .unset] [(.int (0 : Int32))])) st160 ?_
      refine own_st (q' := T160.setTop (mkF m 33 #[.val (.ref b), .val (.ref ea), .val (.int (2 : Int32)), .val (.int (0 : Int32))] [(.ref ea)])) (fun _ k => XS.istoreN X160.here hx rfl (hb hby d_rmCl_26) rfl (l' := #[.val (.ref b), .val (.ref ea), .val (.int (2 : Int32)), .val (.int (0 : Int32))]) rfl (XS.iloadN X160.here hx rfl (hb hby d_rmCl_27) rfl (XS.iloadN X160.here hx rfl (hb hby d_rmCl_28) rfl (XS.icmpNo X160.here hx rfl (hb hby d_rmCl_29) rfl (tlt ((by decide : (0 : Int32) < (2 : Int32)) : (0 : Int32) < (2 : Int32))).2.1 (XS.aloadN X160.here hx rfl (hb hby d_rmCl_32) rfl rfl k))))) ?_
      refine own_st (q' := T160.setTop (mkF m 35 #[.val (.ref b), .val (.ref ea), .val (.int (2 : Int32)), .val (.int (0 : Int32))] [.null, (.int (0 : Int32)), (.ref ea)])) (fun _ k => XS.iloadN X160.here hx rfl (hb hby d_rmCl_33) rfl (XS.aconstNull X160.here hx rfl (hb hby d_rmCl_34) k)) ?_
      have f163 := ((Aea.wr W153).wr W160)
      obtain ⟨T162, h162, X162, e162, W162, st162⟩ := own_aast X160 hx hZ e160 f163 (by decide) (by decide) (Or.inl rfl) (g := (mkF m 35 #[.val (.ref b), .val (.ref ea), .val (.int (2 : Int32)), .val (.int (0 : Int32))] [.null, (.int (0 : Int32)), (.ref ea)])) rfl rfl (hb hby d_rmCl_35)
      have N162 := Fr.snoc X162 N160 gea
      have K164 : Keep h0 h162 [b, ea] := (K161.wr W162 (Or.inl (List.mem_of_getElem? (i := 1) rfl)))
      refine own_st (q' := T162.setTop (mkF m 36 #[.val (.ref b), .val (.ref ea), .val (.int (2 : Int32)), .val (.int (0 : Int32))] [])) st162 ?_
      refine own_st (q' := T162.setTop (mkF m 32 #[.val (.ref b), .val (.ref ea), .val (.int (2 : Int32)), .val (.int (1 : Int32))] [])) (fun _ k => XS.iinc X162.here hx rfl (hb hby d_rmCl_36) rfl (l' := #[.val (.ref b), .val (.ref ea), .val (.int (2 : Int32)), .val (.int (1 : Int32))]) rfl (XS.goto X162.here hx rfl (pc0 := 39) (pc' := 27) rfl (hb hby d_rmCl_39) (by decide) (by decide) (XS.iloadN X162.here hx rfl (hb hby d_rmCl_27) rfl (XS.iloadN X162.here hx rfl (hb hby d_rmCl_28) rfl (XS.icmpNo X162.here hx rfl (hb hby d_rmCl_29) rfl (tlt ((by decide : (1 : Int32) < (2 : Int32)) : (1 : Int32) < (2 : Int32))).2.1 k))))) ?_
      refine own_st (q' := T162.setTop (mkF m 35 #[.val (.ref b), .val (.ref ea), .val (.int (2 : Int32)), .val (.int (1 : Int32))] [.null, (.int (1 : Int32)), (.ref ea)])) (fun _ k => XS.aloadN X162.here hx rfl (hb hby d_rmCl_32) rfl rfl (XS.iloadN X162.here hx rfl (hb hby d_rmCl_33) rfl (XS.aconstNull X162.here hx rfl (hb hby d_rmCl_34) k))) ?_
      have f166 := (f163.wr W162)
      obtain ⟨T165, h165, X165, e165, W165, st165⟩ := own_aast X162 hx hZ e162 f166 (by decide) (by decide) (Or.inl rfl) (g := (mkF m 35 #[.val (.ref b), .val (.ref ea), .val (.int (2 : Int32)), .val (.int (1 : Int32))] [.null, (.int (1 : Int32)), (.ref ea)])) rfl rfl (hb hby d_rmCl_35)
      have N165 := Fr.snoc X165 N162 gea
      have K167 : Keep h0 h165 [b, ea] := (K164.wr W165 (Or.inl (List.mem_of_getElem? (i := 1) rfl)))
      refine own_st (q' := T165.setTop (mkF m 36 #[.val (.ref b), .val (.ref ea), .val (.int (2 : Int32)), .val (.int (1 : Int32))] [])) st165 ?_
      refine own_st (q' := T165.setTop (mkF m 42 #[.val (.ref b), .val (.ref ea), .val (.int (2 : Int32)), .val (.int (2 : Int32))] [])) (fun _ k => XS.iinc X165.here hx rfl (hb hby d_rmCl_36) rfl (l' := #[.val (.ref b), .val (.ref ea), .val (.int (2 : Int32)), .val (.int (2 : Int32))]) rfl (XS.goto X165.here hx rfl (pc0 := 39) (pc' := 27) rfl (hb hby d_rmCl_39) (by decide) (by decide) (XS.iloadN X165.here hx rfl (hb hby d_rmCl_27) rfl (XS.iloadN X165.here hx rfl (hb hby d_rmCl_28) rfl (XS.icmpYes X165.here hx rfl (pc0 := 29) (pc' := 42) rfl (hb hby d_rmCl_29) rfl (flt ((by decide : ¬ ((2 : Int32) < (2 : Int32))) : ¬ ((2 : Int32) < (2 : Int32)))).2.1 (by decide) (by decide) k))))) ?_
      have f168 := (((F153.other W160 (Or.inr (sn_4 hw))).other W162 (Or.inl (Aea.ne E1 (wd_10 hw)))).other W165 (Or.inl (Aea.ne E1 (wd_10 hw))))
      have f169 := ((F160.other W162 (Or.inl (Aea.ne E1 (wd_10 hw)))).other W165 (Or.inl (Aea.ne E1 (wd_10 hw))))
      have f170 := (((f155.other W160 (Or.inr (sn_5 hw))).other W162 (Or.inl (Aea.ne E1 (wd_10 hw)))).other W165 (Or.inl (Aea.ne E1 (wd_10 hw))))
      have f171 := (((f159.wr W160).wr W162).wr W165)
      have f172 := (f166.wr W165)
      have f173 := ((((Fs.wr W153).wr W160).wr W162).wr W165)
      have f174 := ((((A0.wr W153).wr W160).wr W162).wr W165)
      exact own_retV X165 hx hlk hret (hb hby d_rmCl_42) e165 (by exact ⟨rfl, N165, K167, ⟨f171, g1, _, (0 : Int32), (by decide), (by decide), f168, f169, f170, Or.inr ⟨gea, f172⟩⟩, f173, f174⟩) (by decide) (by decide)
    · skip
      rw [q] at F_sz
      refine own_st (q' := s₁.setTop (mkF m 2 #[.val (.ref b), .unset, .unset, .unset] [(.ref b), (.ref b)])) (fun _ k => XS.aloadN X0.here hx rfl (hb hby d_rmCl_0) rfl rfl (XS.dup X0.here hx rfl (hb hby d_rmCl_1) rfl rfl k)) ?_
      obtain ⟨T175, X175, e175, st175⟩ := getF X0 hx hZ hown (host := "") (Or.inl (wd_88 hw)) (Via.of (wd_89 hw)) e0 F_mod (g := (mkF m 2 #[.val (.ref b), .unset, .unset, .unset] [(.ref b), (.ref b)])) rfl rfl (hb hby d_rmCl_2)
      refine own_st (q' := T175.setTop (mkF m 5 #[.val (.ref b), .unset, .unset, .unset] [(.int mc), (.ref b)])) st175 ?_
      refine own_st (q' := T175.setTop (mkF m 7 #[.val (.ref b), .unset, .unset, .unset] [(.int (mc + (1 : Int32))), (.ref b)])) (fun _ k => XS.iconst X175.here hx rfl (hb hby d_rmCl_5) (XS.iadd X175.here hx rfl (hb hby d_rmCl_6) rfl k)) ?_
      obtain ⟨T176, h176, X176, e176, W176, st176⟩ := putF X175 hx hZ hown (host := "") (Or.inl (wd_88 hw)) (Via.of (wd_89 hw)) e175 F_mod E1 (Or.inl (wd_29 hw)) (wd_10 hw) (ty := .int) (by decide) rfl rfl (g := (mkF m 7 #[.val (.ref b), .unset, .unset, .unset] [(.int (mc + (1 : Int32))), (.ref b)])) rfl rfl (hb hby d_rmCl_7)
      have N176 := Fr.snoc X176 N0 g1
      have K177 : Keep h0 h176 [b, ea] := ((Keep.refl h0 [b, ea]).wr W176 (Or.inl (List.mem_of_getElem? (i := 0) rfl)))
      have F176 := F_mod.same W176
      refine own_st (q' := T176.setTop (mkF m 10 #[.val (.ref b), .unset, .unset, .unset] [])) st176 ?_
      refine own_st (q' := T176.setTop (mkF m 11 #[.val (.ref b), .unset, .unset, .unset] [(.ref b)])) (fun _ k => XS.aloadN X176.here hx rfl (hb hby d_rmCl_10) rfl rfl k) ?_
      have f178 := (F_ed.other W176 (Or.inr (sn_1 hw)))
      obtain ⟨T179, X179, e179, st179⟩ := getF X176 hx hZ hown (host := "") (Or.inl (wd_31 hw)) Via.refl e176 f178 (g := (mkF m 11 #[.val (.ref b), .unset, .unset, .unset] [(.ref b)])) rfl rfl (hb hby d_rmCl_11)
      refine own_st (q' := T179.setTop (mkF m 14 #[.val (.ref b), .unset, .unset, .unset] [(.ref ea)])) st179 ?_
      refine own_st (q' := T179.setTop (mkF m 16 #[.val (.ref b), .val (.ref ea), .unset, .unset] [(.ref b)])) (fun _ k => XS.astoreN X179.here hx rfl (hb hby d_rmCl_14) rfl rfl (l' := #[.val (.ref b), .val (.ref ea), .unset, .unset]) rfl (XS.aloadN X179.here hx rfl (hb hby d_rmCl_15) rfl rfl k)) ?_
      have f180 := (F_sz.other W176 (Or.inr (sn_0 hw)))
      obtain ⟨T181, X181, e181, st181⟩ := getF X179 hx hZ hown (host := "") (Or.inl (wd_90 hw)) Via.refl e179 f180 (g := (mkF m 16 #[.val (.ref b), .val (.ref ea), .unset, .unset] [(.ref b)])) rfl rfl (hb hby d_rmCl_16)
      refine own_st (q' := T181.setTop (mkF m 19 #[.val (.ref b), .val (.ref ea), .unset, .unset] [(.int (3 : Int32))])) st181 ?_
      refine own_st (q' := T181.setTop (mkF m 23 #[.val (.ref b), .val (.ref ea), .val (.int (3 : Int32)), .unset] [(.int (0 : Int32)), (.ref b), (.int (0 : Int32))])) (fun _ k => XS.istoreN X181.here hx rfl (hb hby d_rmCl_19) rfl (l' := #[.val (.ref b), .val (.ref ea), .val (.int (3 : Int32)), .unset]) rfl (XS.aloadN X181.here hx rfl (hb hby d_rmCl_20) rfl rfl (XS.iconst X181.here hx rfl (hb hby d_rmCl_21) (XS.dupX1 X181.here hx rfl (hb hby d_rmCl_22) rfl rfl rfl k)))) ?_
      have f182 := (E1.wr W176)
      obtain ⟨T183, h183, X183, e183, W183, st183⟩ := putF X181 hx hZ hown (host := "") (Or.inl (wd_90 hw)) Via.refl e181 f180 f182 (Or.inl (wd_91 hw)) (wd_10 hw) (ty := .int) (by decide) rfl rfl (g := (mkF m 23 #[.val (.ref b), .val (.ref ea), .val (.int (3 : Int32)), .unset] [(.int (0 : Int32)), (.ref b), (.int (0 : Int32))])) rfl rfl (hb hby d_rmCl_23)
      have N183 := Fr.snoc X183 N176 g1
      have K184 : Keep h0 h183 [b, ea] := (K177.wr W183 (Or.inl (List.mem_of_getElem? (i := 0) rfl)))
      have F183 := f180.same W183
      refine own_st (q' := T183.setTop (mkF m 26 #[.val (.ref b), .val (.ref ea), .val (.int (3 : Int32)), .unset] [(.int (0 : Int32))])) st183 ?_
      refine own_st (q' := T183.setTop (mkF m 33 #[.val (.ref b), .val (.ref ea), .val (.int (3 : Int32)), .val (.int (0 : Int32))] [(.ref ea)])) (fun _ k => XS.istoreN X183.here hx rfl (hb hby d_rmCl_26) rfl (l' := #[.val (.ref b), .val (.ref ea), .val (.int (3 : Int32)), .val (.int (0 : Int32))]) rfl (XS.iloadN X183.here hx rfl (hb hby d_rmCl_27) rfl (XS.iloadN X183.here hx rfl (hb hby d_rmCl_28) rfl (XS.icmpNo X183.here hx rfl (hb hby d_rmCl_29) rfl (tlt ((by decide : (0 : Int32) < (3 : Int32)) : (0 : Int32) < (3 : Int32))).2.1 (XS.aloadN X183.here hx rfl (hb hby d_rmCl_32) rfl rfl k))))) ?_
      refine own_st (q' := T183.setTop (mkF m 35 #[.val (.ref b), .val (.ref ea), .val (.int (3 : Int32)), .val (.int (0 : Int32))] [.null, (.int (0 : Int32)), (.ref ea)])) (fun _ k => XS.iloadN X183.here hx rfl (hb hby d_rmCl_33) rfl (XS.aconstNull X183.here hx rfl (hb hby d_rmCl_34) k)) ?_
      have f186 := ((Aea.wr W176).wr W183)
      obtain ⟨T185, h185, X185, e185, W185, st185⟩ := own_aast X183 hx hZ e183 f186 (by decide) (by decide) (Or.inl rfl) (g := (mkF m 35 #[.val (.ref b), .val (.ref ea), .val (.int (3 : Int32)), .val (.int (0 : Int32))] [.null, (.int (0 : Int32)), (.ref ea)])) rfl rfl (hb hby d_rmCl_35)
      have N185 := Fr.snoc X185 N183 gea
      have K187 : Keep h0 h185 [b, ea] := (K184.wr W185 (Or.inl (List.mem_of_getElem? (i := 1) rfl)))
      refine own_st (q' := T185.setTop (mkF m 36 #[.val (.ref b), .val (.ref ea), .val (.int (3 : Int32)), .val (.int (0 : Int32))] [])) st185 ?_
      refine own_st (q' := T185.setTop (mkF m 32 #[.val (.ref b), .val (.ref ea), .val (.int (3 : Int32)), .val (.int (1 : Int32))] [])) (fun _ k => XS.iinc X185.here hx rfl (hb hby d_rmCl_36) rfl (l' := #[.val (.ref b), .val (.ref ea), .val (.int (3 : Int32)), .val (.int (1 : Int32))]) rfl (XS.goto X185.here hx rfl (pc0 := 39) (pc' := 27) rfl (hb hby d_rmCl_39) (by decide) (by decide) (XS.iloadN X185.here hx rfl (hb hby d_rmCl_27) rfl (XS.iloadN X185.here hx rfl (hb hby d_rmCl_28) rfl (XS.icmpNo X185.here hx rfl (hb hby d_rmCl_29) rfl (tlt ((by decide : (1 : Int32) < (3 : Int32)) : (1 : Int32) < (3 : Int32))).2.1 k))))) ?_
      refine own_st (q' := T185.setTop (mkF m 35 #[.val (.ref b), .val (.ref ea), .val (.int (3 : Int32)), .val (.int (1 : Int32))] [.null, (.int (1 : Int32)), (.ref ea)])) (fun _ k => XS.aloadN X185.here hx rfl (hb hby d_rmCl_32) rfl rfl (XS.iloadN X185.here hx rfl (hb hby d_rmCl_33) rfl (XS.aconstNull X185.here hx rfl (hb hby d_rmCl_34) k))) ?_
      have f189 := (f186.wr W185)
      obtain ⟨T188, h188, X188, e188, W188, st188⟩ := own_aast X185 hx hZ e185 f189 (by decide) (by decide) (Or.inl rfl) (g := (mkF m 35 #[.val (.ref b), .val (.ref ea), .val (.int (3 : Int32)), .val (.int (1 : Int32))] [.null, (.int (1 : Int32)), (.ref ea)])) rfl rfl (hb hby d_rmCl_35)
      have N188 := Fr.snoc X188 N185 gea
      have K190 : Keep h0 h188 [b, ea] := (K187.wr W188 (Or.inl (List.mem_of_getElem? (i := 1) rfl)))
      refine own_st (q' := T188.setTop (mkF m 36 #[.val (.ref b), .val (.ref ea), .val (.int (3 : Int32)), .val (.int (1 : Int32))] [])) st188 ?_
      refine own_st (q' := T188.setTop (mkF m 32 #[.val (.ref b), .val (.ref ea), .val (.int (3 : Int32)), .val (.int (2 : Int32))] [])) (fun _ k => XS.iinc X188.here hx rfl (hb hby d_rmCl_36) rfl (l' := #[.val (.ref b), .val (.ref ea), .val (.int (3 : Int32)), .val (.int (2 : Int32))]) rfl (XS.goto X188.here hx rfl (pc0 := 39) (pc' := 27) rfl (hb hby d_rmCl_39) (by decide) (by decide) (XS.iloadN X188.here hx rfl (hb hby d_rmCl_27) rfl (XS.iloadN X188.here hx rfl (hb hby d_rmCl_28) rfl (XS.icmpNo X188.here hx rfl (hb hby d_rmCl_29) rfl (tlt ((by decide : (2 : Int32) < (3 : Int32)) : (2 : Int32) < (3 : Int32))).2.1 k))))) ?_
      refine own_st (q' := T188.setTop (mkF m 35 #[.val (.ref b), .val (.ref ea), .val (.int (3 : Int32)), .val (.int (2 : Int32))] [.null, (.int (2 : Int32)), (.ref ea)])) (fun _ k => XS.aloadN X188.here hx rfl (hb hby d_rmCl_32) rfl rfl (XS.iloadN X188.here hx rfl (hb hby d_rmCl_33) rfl (XS.aconstNull X188.here hx rfl (hb hby d_rmCl_34) k))) ?_
      have f192 := (f189.wr W188)
      obtain ⟨T191, h191, X191, e191, W191, st191⟩ := own_aast X188 hx hZ e188 f192 (by decide) (by decide) (Or.inl rfl) (g := (mkF m 35 #[.val (.ref b), .val (.ref ea), .val (.int (3 : Int32)), .val (.int (2 : Int32))] [.null, (.int (2 : Int32)), (.ref ea)])) rfl rfl (hb hby d_rmCl_35)
      have N191 := Fr.snoc X191 N188 gea
      have K193 : Keep h0 h191 [b, ea] := (K190.wr W191 (Or.inl (List.mem_of_getElem? (i := 1) rfl)))
      refine own_st (q' := T191.setTop (mkF m 36 #[.val (.ref b), .val (.ref ea), .val (.int (3 : Int32)), .val (.int (2 : Int32))] [])) st191 ?_
      refine own_st (q' := T191.setTop (mkF m 42 #[.val (.ref b), .val (.ref ea), .val (.int (3 : Int32)), .val (.int (3 : Int32))] [])) (fun _ k => XS.iinc X191.here hx rfl (hb hby d_rmCl_36) rfl (l' := #[.val (.ref b), .val (.ref ea), .val (.int (3 : Int32)), .val (.int (3 : Int32))]) rfl (XS.goto X191.here hx rfl (pc0 := 39) (pc' := 27) rfl (hb hby d_rmCl_39) (by decide) (by decide) (XS.iloadN X191.here hx rfl (hb hby d_rmCl_27) rfl (XS.iloadN X191.here hx rfl (hb hby d_rmCl_28) rfl (XS.icmpYes X191.here hx rfl (pc0 := 29) (pc' := 42) rfl (hb hby d_rmCl_29) rfl (flt ((by decide : ¬ ((3 : Int32) < (3 : Int32))) : ¬ ((3 : Int32) < (3 : Int32)))).2.1 (by decide) (by decide) k))))) ?_
      have f194 := ((((F176.other W183 (Or.inr (sn_4 hw))).other W185 (Or.inl (Aea.ne E1 (wd_10 hw)))).other W188 (Or.inl (Aea.ne E1 (wd_10 hw)))).other W191 (Or.inl (Aea.ne E1 (wd_10 hw))))
      have f195 := (((F183.other W185 (Or.inl (Aea.ne E1 (wd_10 hw)))).other W188 (Or.inl (Aea.ne E1 (wd_10 hw)))).other W191 (Or.inl (Aea.ne E1 (wd_10 hw))))
      have f196 := ((((f178.other W183 (Or.inr (sn_5 hw))).other W185 (Or.inl (Aea.ne E1 (wd_10 hw)))).other W188 (Or.inl (Aea.ne E1 (wd_10 hw)))).other W191 (Or.inl (Aea.ne E1 (wd_10 hw))))
      have f197 := ((((f182.wr W183).wr W185).wr W188).wr W191)
      have f198 := (f192.wr W191)
      have f199 := (((((Fs.wr W176).wr W183).wr W185).wr W188).wr W191)
      have f200 := (((((A0.wr W176).wr W183).wr W185).wr W188).wr W191)
      exact own_retV X191 hx hlk hret (hb hby d_rmCl_42) e191 (by exact ⟨rfl, N191, K193, ⟨f197, g1, _, (0 : Int32), (by decide), (by decide), f194, f195, f196, Or.inr ⟨gea, f198⟩⟩, f199, f200⟩) (by decide) (by decide)
theorem ef_rmIE (m : MethodId) (x0 : Addr) : entryFrame m #[(.ref x0)] 1 = mkF m 0 #[.val (.ref x0)] [] := by first | (simp [entryFrame, mkF, argsToLocals, Value.category]; done) | rfl
theorem d_rmIE_0 : decode jdk_38_method_9_code 0 = .ok (.aload_n 0, 1) := by decide +kernel
theorem d_rmIE_1 : decode jdk_38_method_9_code 1 = .ok (.getfield 48, 3) := by decide +kernel
theorem d_rmIE_4 : decode jdk_38_method_9_code 4 = .ok (.ifCond .ne 7, 3) := by decide +kernel
theorem d_rmIE_7 : decode jdk_38_method_9_code 7 = .ok (.iconst 1, 1) := by decide +kernel
theorem d_rmIE_8 : decode jdk_38_method_9_code 8 = .ok (.goto 4, 3) := by decide +kernel
theorem d_rmIE_12 : decode jdk_38_method_9_code 12 = .ok (.ireturn, 1) := by decide +kernel
set_option maxRecDepth 65536 in
set_option maxHeartbeats 40000000 in
theorem rmIE (l : Launch) (Z : State) (a0 : Array Value) (hw : ∀ d ∈ tables_1, d.before a0 Z = true) (ws : List Jvm.Cond) (b : Addr) (h0 : Heap) (n0 : Nat) (Z0 : n0 ≤ h0.size) (F_sz : Fld Z h0 b "java/util/ArrayList" "size" "I" (.int (0 : Int32))) :
    own_Met l Z (⟨"java/util/ArrayList", "isEmpty", "()Z"⟩ : MethodName) ws jdk_38_method_9_code 1 (some .boolean) ({ frames := 0, cells := 0, slots := 0, locals := 0 } : Room) #[(.ref b)] h0 (fun v h L => v = some (.int (1 : Int32)) ∧ Fr n0 L ∧ h = h0) := by
  refine own_body (y := (⟨"java/util/ArrayList", "isEmpty", "()Z"⟩ : MethodName)) (plainFor_of_name pn_2) ?_
  intro p e s m below meth c s₁ hx hby hml hown hnm hret hlk hZ X0 e0
  have hml : c.maxLocals = 1 := hml
  have hown : s.vm.findClass "java/util/ArrayList" = some m.cls := hown
  have N0 := Fr.nil n0
  refine own_entry (ef_rmIE m b) ?_
  show own_Dn p e below s (fun v h L => v = some (.int (1 : Int32)) ∧ Fr n0 L ∧ h = h0) ({ frames := 0, cells := 0, slots := 0, locals := 0 } : Room).cells ({ frames := 0, cells := 0, slots := 0, locals := 0 } : Room).slots (s₁.setTop (mkF m 0 #[.val (.ref b)] []))
  refine own_st (q' := s₁.setTop (mkF m 1 #[.val (.ref b)] [(.ref b)])) (fun _ k => XS.aloadN X0.here hx rfl (hb hby d_rmIE_0) rfl rfl k) ?_
  obtain ⟨T101, X101, e101, st101⟩ := getF X0 hx hZ hown (host := "") (Or.inl (wd_90 hw)) Via.refl e0 F_sz (g := (mkF m 1 #[.val (.ref b)] [(.ref b)])) rfl rfl (hb hby d_rmIE_1)
  refine own_st (q' := T101.setTop (mkF m 4 #[.val (.ref b)] [(.int (0 : Int32))])) st101 ?_
  refine own_st (q' := T101.setTop (mkF m 12 #[.val (.ref b)] [(.int (1 : Int32))])) (fun _ k => XS.ifNo X101.here hx rfl (hb hby d_rmIE_4) rfl ((if0 _ _).trans (teq ((by decide : (0 : Int32) = (0 : Int32)) : (0 : Int32) = (0 : Int32))).2) (XS.iconst X101.here hx rfl (hb hby d_rmIE_7) (XS.goto X101.here hx rfl (pc0 := 8) (pc' := 12) rfl (hb hby d_rmIE_8) (by decide) (by decide) k))) ?_
  exact own_retN X101 hx hlk (t := .boolean) hret (by simp) (hb hby d_rmIE_12) e101 (by exact ⟨rfl, N0, rfl⟩) (by decide) (by decide)
theorem pn_3 : plainName "java/util/Arrays" = true := by first | (simp [plainName, overriddenIn]; done) | decide +kernel
theorem ef_rmC3 (m : MethodId) (x0 : Addr) (x1 : Int32) (x2 : Addr) : entryFrame m #[(.ref x0), (.int x1), (.ref x2)] 4 = mkF m 0 #[.val (.ref x0), .val (.int x1), .val (.ref x2), .unset] [] := by first | (simp [entryFrame, mkF, argsToLocals, Value.category]; done) | rfl
theorem wd_182 {a0 : Array Value} {Z : State} (hw : ∀ d ∈ tables_1, d.before a0 Z = true) : Cond.before (Jvm.Cond.classLink "java/util/Arrays" (110 : Nat) "[Ljava/lang/Object;") a0 Z = true := hw _ (List.mem_of_getElem? (i := 182) rfl)
theorem wd_183 {a0 : Array Value} {Z : State} (hw : ∀ d ∈ tables_1, d.before a0 Z = true) : Cond.before (Jvm.Cond.classLink "java/util/Arrays" (2 : Nat) "java/lang/Object") a0 Z = true := hw _ (List.mem_of_getElem? (i := 183) rfl)
theorem wd_184 {a0 : Array Value} {Z : State} (hw : ∀ d ∈ tables_1, d.before a0 Z = true) : Cond.before (Jvm.Cond.methodLink "java/util/Arrays" (304 : Nat) ({ cls := "java/lang/Math", name := "min", desc := "(II)I" } : Jvm.MethodName)) a0 Z = true := hw _ (List.mem_of_getElem? (i := 184) rfl)
theorem wd_185 {a0 : Array Value} {Z : State} (hw : ∀ d ∈ tables_1, d.before a0 Z = true) : Cond.before (Jvm.Cond.static ({ cls := "java/lang/Math", name := "min", desc := "(II)I" } : Jvm.MethodName)) a0 Z = true := hw _ (List.mem_of_getElem? (i := 185) rfl)
theorem wd_186 {a0 : Array Value} {Z : State} (hw : ∀ d ∈ tables_1, d.before a0 Z = true) : Cond.before (Jvm.Cond.code ({ cls := "java/lang/Math", name := "min", desc := "(II)I" } : Jvm.MethodName) jdk_29_method_69_code (2 : Nat) (Option.some Jvm.ClassFile.FieldType.int)) a0 Z = true := hw _ (List.mem_of_getElem? (i := 186) rfl)
theorem wd_187 {a0 : Array Value} {Z : State} (hw : ∀ d ∈ tables_1, d.before a0 Z = true) : Cond.before (Jvm.Cond.methodLink "java/util/Arrays" (150 : Nat) ({ cls := "java/lang/System", name := "arraycopy", desc := "(Ljava/lang/Object;ILjava/lang/Object;II)V" } : Jvm.MethodName)) a0 Z = true := hw _ (List.mem_of_getElem? (i := 187) rfl)
theorem wd_190 {a0 : Array Value} {Z : State} (hw : ∀ d ∈ tables_1, d.before a0 Z = true) : Cond.before (Jvm.Cond.native ({ cls := "java/lang/System", name := "arraycopy", desc := "(Ljava/lang/Object;ILjava/lang/Object;II)V" } : Jvm.MethodName)) a0 Z = true := hw _ (List.mem_of_getElem? (i := 190) rfl)
theorem wd_188 {a0 : Array Value} {Z : State} (hw : ∀ d ∈ tables_1, d.before a0 Z = true) : Cond.before (Jvm.Cond.static ({ cls := "java/lang/System", name := "arraycopy", desc := "(Ljava/lang/Object;ILjava/lang/Object;II)V" } : Jvm.MethodName)) a0 Z = true := hw _ (List.mem_of_getElem? (i := 188) rfl)
theorem wd_189 {a0 : Array Value} {Z : State} (hw : ∀ d ∈ tables_1, d.before a0 Z = true) : Cond.before (Jvm.Cond.initialized "java/lang/System") a0 Z = true := hw _ (List.mem_of_getElem? (i := 189) rfl)
theorem d_rmC3_0 : decode jdk_65_method_120_code 0 = .ok (.aload_n 2, 1) := by decide +kernel
theorem d_rmC3_1 : decode jdk_65_method_120_code 1 = .ok (.ldc 110, 2) := by decide +kernel
theorem d_rmC3_3 : decode jdk_65_method_120_code 3 = .ok (.if_acmp .ne 10, 3) := by decide +kernel
theorem d_rmC3_6 : decode jdk_65_method_120_code 6 = .ok (.iload_n 1, 1) := by decide +kernel
theorem d_rmC3_7 : decode jdk_65_method_120_code 7 = .ok (.anewarray 2, 3) := by decide +kernel
theorem d_rmC3_10 : decode jdk_65_method_120_code 10 = .ok (.goto 14, 3) := by decide +kernel
theorem d_rmC3_24 : decode jdk_65_method_120_code 24 = .ok (.astore_n 3, 1) := by decide +kernel
theorem d_rmC3_25 : decode jdk_65_method_120_code 25 = .ok (.aload_n 0, 1) := by decide +kernel
theorem d_rmC3_26 : decode jdk_65_method_120_code 26 = .ok (.iconst 0, 1) := by decide +kernel
theorem d_rmC3_27 : decode jdk_65_method_120_code 27 = .ok (.aload_n 3, 1) := by decide +kernel
theorem d_rmC3_28 : decode jdk_65_method_120_code 28 = .ok (.iconst 0, 1) := by decide +kernel
theorem d_rmC3_29 : decode jdk_65_method_120_code 29 = .ok (.aload_n 0, 1) := by decide +kernel
theorem d_rmC3_30 : decode jdk_65_method_120_code 30 = .ok (.arraylength, 1) := by decide +kernel
theorem d_rmC3_31 : decode jdk_65_method_120_code 31 = .ok (.iload_n 1, 1) := by decide +kernel
theorem d_rmC3_32 : decode jdk_65_method_120_code 32 = .ok (.invokestatic 304, 3) := by decide +kernel
theorem d_rmC3_35 : decode jdk_65_method_120_code 35 = .ok (.invokestatic 150, 3) := by decide +kernel
theorem d_rmC3_38 : decode jdk_65_method_120_code 38 = .ok (.aload_n 3, 1) := by decide +kernel
theorem d_rmC3_39 : decode jdk_65_method_120_code 39 = .ok (.areturn, 1) := by decide +kernel
set_option maxRecDepth 65536 in
set_option maxHeartbeats 40000000 in
theorem rmC3 (l : Launch) (Z : State) (a0 : Array Value) (hw : ∀ d ∈ tables_1, d.before a0 Z = true) (ws : List Jvm.Cond) (ar ms mir dc : Addr) (h0 : Heap) (n0 : Nat) (Z0 : n0 ≤ h0.size) (Bar : own_B Z h0 ar 10 ms) (Mi : own_Mi Z mir) (Em : Exa Z h0 ms "com/example/rock_dove/rockdove/store/StoredMessage") (Fs : Sta Z h0 "java/util/ArrayList" "DEFAULTCAPACITY_EMPTY_ELEMENTDATA" "[Ljava/lang/Object;" (.ref dc)) (A0 : own_A Z h0 dc 0) :
    own_Met l Z (⟨"java/util/Arrays", "copyOf", "([Ljava/lang/Object;ILjava/lang/Class;)[Ljava/lang/Object;"⟩ : MethodName) ws jdk_65_method_120_code 4 (some (.array (.object "java/lang/Object"))) ({ frames := 1, cells := 1, slots := 1, locals := 18 } : Room) #[(.ref ar), (.int (1 : Int32)), (.ref mir)] h0 (fun v h L => ∃ r : Addr, v = some (.ref r) ∧ Fr n0 L ∧ Keep h0 h [] ∧ h0.size ≤ r ∧ own_B Z h r 1 ms ∧ Sta Z h "java/util/ArrayList" "DEFAULTCAPACITY_EMPTY_ELEMENTDATA" "[Ljava/lang/Object;" (.ref dc) ∧ own_A Z h dc 0) := by
  refine own_body (y := (⟨"java/util/Arrays", "copyOf", "([Ljava/lang/Object;ILjava/lang/Class;)[Ljava/lang/Object;"⟩ : MethodName)) (plainFor_of_name pn_3) ?_
  intro p e s m below meth c s₁ hx hby hml hown hnm hret hlk hZ X0 e0
  have hml : c.maxLocals = 4 := hml
  have hown : s.vm.findClass "java/util/Arrays" = some m.cls := hown
  have N0 := Fr.nil n0
  refine own_entry (ef_rmC3 m ar (1 : Int32) mir) ?_
  show own_Dn p e below s (fun v h L => ∃ r : Addr, v = some (.ref r) ∧ Fr n0 L ∧ Keep h0 h [] ∧ h0.size ≤ r ∧ own_B Z h r 1 ms ∧ Sta Z h "java/util/ArrayList" "DEFAULTCAPACITY_EMPTY_ELEMENTDATA" "[Ljava/lang/Object;" (.ref dc) ∧ own_A Z h dc 0) ({ frames := 1, cells := 1, slots := 1, locals := 18 } : Room).cells ({ frames := 1, cells := 1, slots := 1, locals := 18 } : Room).slots (s₁.setTop (mkF m 0 #[.val (.ref ar), .val (.int (1 : Int32)), .val (.ref mir), .unset] []))
  refine own_st (q' := s₁.setTop (mkF m 1 #[.val (.ref ar), .val (.int (1 : Int32)), .val (.ref mir), .unset] [(.ref mir)])) (fun _ k => XS.aloadN X0.here hx rfl (hb hby d_rmC3_0) rfl rfl k) ?_
  refine own_ldcM X0 hx hZ hown (wd_182 hw) Mi (g := (mkF m 1 #[.val (.ref ar), .val (.int (1 : Int32)), .val (.ref mir), .unset] [(.ref mir)])) rfl (hb hby d_rmC3_1) ?_
  intro vm101 X101
  have e101 : (s₁.setVm vm101).heap = h0 := e0
  show own_Dn p e below s (fun v h L => ∃ r : Addr, v = some (.ref r) ∧ Fr n0 L ∧ Keep h0 h [] ∧ h0.size ≤ r ∧ own_B Z h r 1 ms ∧ Sta Z h "java/util/ArrayList" "DEFAULTCAPACITY_EMPTY_ELEMENTDATA" "[Ljava/lang/Object;" (.ref dc) ∧ own_A Z h dc 0) ({ frames := 1, cells := 1, slots := 1, locals := 18 } : Room).cells ({ frames := 1, cells := 1, slots := 1, locals := 18 } : Room).slots ((s₁.setVm vm101).setTop (mkF m 3 #[.val (.ref ar), .val (.int (1 : Int32)), .val (.ref mir), .unset] [(.ref mir), (.ref mir)]))
  refine own_st (q' := (s₁.setVm vm101).setTop (mkF m 6 #[.val (.ref ar), .val (.int (1 : Int32)), .val (.ref mir), .unset] [])) (fun _ k => Jvm.RoadKit.acmp (g := (mkF m 3 #[.val (.ref ar), .val (.int (1 : Int32)), .val (.ref mir), .unset] [(.ref mir), (.ref mir)])) X101 hx rfl rfl rfl (pc0 := 3) (pc' := 6) (same := true) rfl (hb hby d_rmC3_3) rfl (decide_eq_true (rfl)) (by decide) (by decide) k) ?_
  refine own_st (q' := (s₁.setVm vm101).setTop (mkF m 7 #[.val (.ref ar), .val (.int (1 : Int32)), .val (.ref mir), .unset] [(.int (1 : Int32))])) (fun _ k => XS.iloadN X101.here hx rfl (hb hby d_rmC3_6) rfl k) ?_
  obtain ⟨T102, h102, X102, e102, E102, A102, st102⟩ := own_newA X101 hx hZ hown (wd_183 hw) (wd_112 hw) e101 (g := (mkF m 7 #[.val (.ref ar), .val (.int (1 : Int32)), .val (.ref mir), .unset] [(.int (1 : Int32))])) rfl (hb hby d_rmC3_7) rfl (by decide) (cap := 1) (by decide) (by decide) (by decide) (by decide)
  obtain ⟨b102, g102⟩ : ∃ z, z = h0.size := ⟨_, rfl⟩
  rw [← g102] at A102 st102
  have lt_ar_b102 : ar < b102 := Nat.lt_of_lt_of_le Bar.lt (Nat.le_of_eq g102.symm)
  have lt_ms_b102 : ms < b102 := Nat.lt_of_lt_of_le Em.lt (Nat.le_of_eq g102.symm)
  have lt_dc_b102 : dc < b102 := Nat.lt_of_lt_of_le A0.lt (Nat.le_of_eq g102.symm)
  have ge_b102 : n0 ≤ b102 := Nat.le_trans Z0 (Nat.le_of_eq g102.symm)
  have sz_b102 : h0.size ≤ b102 := Nat.le_trans (Keep.refl h0 []).1 (Nat.le_of_eq g102.symm)
  have K103 : Keep h0 h102 [] := ((Keep.refl h0 []).ext E102)
  refine own_st (q' := T102.setTop (mkF m 10 #[.val (.ref ar), .val (.int (1 : Int32)), .val (.ref mir), .unset] [(.ref b102)])) st102 ?_
  refine own_st (q' := T102.setTop (mkF m 28 #[.val (.ref ar), .val (.int (1 : Int32)), .val (.ref mir), .val (.ref b102)] [(.ref b102), (.int (0 : Int32)), (.ref ar)])) (fun _ k => XS.goto X102.here hx rfl (pc0 := 10) (pc' := 24) rfl (hb hby d_rmC3_10) (by decide) (by decide) (XS.astoreN X102.here hx rfl (hb hby d_rmC3_24) rfl rfl (l' := #[.val (.ref ar), .val (.int (1 : Int32)), .val (.ref mir), .val (.ref b102)]) rfl (XS.aloadN X102.here hx rfl (hb hby d_rmC3_25) rfl rfl (XS.iconst X102.here hx rfl (hb hby d_rmC3_26) (XS.aloadN X102.here hx rfl (hb hby d_rmC3_27) rfl rfl k))))) ?_
  refine own_st (q' := T102.setTop (mkF m 30 #[.val (.ref ar), .val (.int (1 : Int32)), .val (.ref mir), .val (.ref b102)] [(.ref ar), (.int (0 : Int32)), (.ref b102), (.int (0 : Int32)), (.ref ar)])) (fun _ k => XS.iconst X102.here hx rfl (hb hby d_rmC3_28) (XS.aloadN X102.here hx rfl (hb hby d_rmC3_29) rfl rfl k)) ?_
  have f104 := (Bar.toA.ext E102)
  refine own_lenA X102 hx hZ e102 f104 (w := (10 : Int32)) (by decide) (g := (mkF m 30 #[.val (.ref ar), .val (.int (1 : Int32)), .val (.ref mir), .val (.ref b102)] [(.ref ar), (.int (0 : Int32)), (.ref b102), (.int (0 : Int32)), (.ref ar)])) rfl rfl (hb hby d_rmC3_30) ?_
  show own_Dn p e below s (fun v h L => ∃ r : Addr, v = some (.ref r) ∧ Fr n0 L ∧ Keep h0 h [] ∧ h0.size ≤ r ∧ own_B Z h r 1 ms ∧ Sta Z h "java/util/ArrayList" "DEFAULTCAPACITY_EMPTY_ELEMENTDATA" "[Ljava/lang/Object;" (.ref dc) ∧ own_A Z h dc 0) ({ frames := 1, cells := 1, slots := 1, locals := 18 } : Room).cells ({ frames := 1, cells := 1, slots := 1, locals := 18 } : Room).slots (T102.setTop (mkF m 31 #[.val (.ref ar), .val (.int (1 : Int32)), .val (.ref mir), .val (.ref b102)] [(.int (10 : Int32)), (.int (0 : Int32)), (.ref b102), (.int (0 : Int32)), (.ref ar)]))
  refine own_st (q' := T102.setTop (mkF m 32 #[.val (.ref ar), .val (.int (1 : Int32)), .val (.ref mir), .val (.ref b102)] [(.int (1 : Int32)), (.int (10 : Int32)), (.int (0 : Int32)), (.ref b102), (.int (0 : Int32)), (.ref ar)])) (fun _ k => XS.iloadN X102.here hx rfl (hb hby d_rmC3_31) rfl k) ?_
  refine own_callS (y := (⟨"java/lang/Math", "min", "(II)I"⟩ : MethodName)) X102 hx hZ hown (wd_184 hw) (wd_185 hw) (wd_109 hw) (wd_186 hw) (by decide) (rmMn l Z a0 hw [] h102 n0 (Nat.le_trans Z0 E102.1)) e102 (W := 4) (by decide) (by decide) (by decide) (by decide) (g := (mkF m 32 #[.val (.ref ar), .val (.int (1 : Int32)), .val (.ref mir), .val (.ref b102)] [(.int (1 : Int32)), (.int (10 : Int32)), (.int (0 : Int32)), (.ref b102), (.int (0 : Int32)), (.ref ar)])) rfl (by rw [hml]; rfl) (argsL := [(.int (10 : Int32)), (.int (1 : Int32))]) (rest := [(.int (0 : Int32)), (.ref b102), (.int (0 : Int32)), (.ref ar)]) rfl (lenOf pd_1 rfl) rfl (by show 2 * 0 + _ ≤ _; exact Nat.le_of_eq rfl) (hb hby d_rmC3_32) ?_
  intro v105 T105 L105 hQ105 X105
  obtain ⟨rfl, NN105, e105⟩ := hQ105
  have N105 := Fr.app N0 NN105
  show own_Dn p e below s (fun v h L => ∃ r : Addr, v = some (.ref r) ∧ Fr n0 L ∧ Keep h0 h [] ∧ h0.size ≤ r ∧ own_B Z h r 1 ms ∧ Sta Z h "java/util/ArrayList" "DEFAULTCAPACITY_EMPTY_ELEMENTDATA" "[Ljava/lang/Object;" (.ref dc) ∧ own_A Z h dc 0) ({ frames := 1, cells := 1, slots := 1, locals := 18 } : Room).cells ({ frames := 1, cells := 1, slots := 1, locals := 18 } : Room).slots (T105.setTop (mkF m 35 #[.val (.ref ar), .val (.int (1 : Int32)), .val (.ref mir), .val (.ref b102)] [(.int (1 : Int32)), (.int (0 : Int32)), (.ref b102), (.int (0 : Int32)), (.ref ar)]))
  have f107 := (Bar.ext E102)
  have f108 := (Em.ext E102)
  obtain ⟨T106, h106, X106, e106, W106, st106⟩ := own_copy1 X105 hx hZ hown (wd_187 hw) (wd_190 hw) (wd_188 hw) (wd_189 hw) e105 f107 (by decide) A102 f108 (wd_113 hw) (by decide) (by decide) (g := (mkF m 35 #[.val (.ref ar), .val (.int (1 : Int32)), .val (.ref mir), .val (.ref b102)] [(.int (1 : Int32)), (.int (0 : Int32)), (.ref b102), (.int (0 : Int32)), (.ref ar)])) rfl (by rw [hml]; rfl) (rest := []) rfl (hb hby d_rmC3_35) (by decide) (by show 2 * 0 + 0 + (nativeFrameWords "java/lang/System" "arraycopy" 5 + 11) ≤ _; decide +kernel)
  have N106 := Fr.snoc X106 N105 ge_b102
  have K109 : Keep h0 h106 [] := (K103.wr W106 (Or.inr sz_b102))
  have B106 : own_B Z h106 b102 1 ms := own_B.of A102 W106
  refine own_st (q' := T106.setTop (mkF m 38 #[.val (.ref ar), .val (.int (1 : Int32)), .val (.ref mir), .val (.ref b102)] [])) st106 ?_
  refine own_st (q' := T106.setTop (mkF m 39 #[.val (.ref ar), .val (.int (1 : Int32)), .val (.ref mir), .val (.ref b102)] [(.ref b102)])) (fun _ k => XS.aloadN X106.here hx rfl (hb hby d_rmC3_38) rfl rfl k) ?_
  have f110 := ((Fs.ext E102).wr W106)
  have f111 := ((A0.ext E102).wr W106)
  exact own_retO X106 hx hlk (i := .areturn) hret rfl (Or.inr (Or.inr (Or.inr (Or.inr ⟨rfl, rfl, rfl⟩)))) (hb hby d_rmC3_39) e106 (by exact ⟨_, rfl, N106, K109, sz_b102, B106, f110, f111⟩) (by decide) (by decide)
theorem ef_rmC2 (m : MethodId) (x0 : Addr) (x1 : Int32) : entryFrame m #[(.ref x0), (.int x1)] 2 = mkF m 0 #[.val (.ref x0), .val (.int x1)] [] := by first | (simp [entryFrame, mkF, argsToLocals, Value.category]; done) | rfl
theorem wd_173 {a0 : Array Value} {Z : State} (hw : ∀ d ∈ tables_1, d.before a0 Z = true) : Cond.before (Jvm.Cond.methodLink "java/util/Arrays" (86 : Nat) ({ cls := "java/lang/Object", name := "getClass", desc := "()Ljava/lang/Class;" } : Jvm.MethodName)) a0 Z = true := hw _ (List.mem_of_getElem? (i := 173) rfl)
theorem wd_174 {a0 : Array Value} {Z : State} (hw : ∀ d ∈ tables_1, d.before a0 Z = true) : Cond.before (Jvm.Cond.declares ({ cls := "java/lang/Object", name := "getClass", desc := "()Ljava/lang/Class;" } : Jvm.MethodName)) a0 Z = true := hw _ (List.mem_of_getElem? (i := 174) rfl)
theorem wd_176 {a0 : Array Value} {Z : State} (hw : ∀ d ∈ tables_1, d.before a0 Z = true) : Cond.before (Jvm.Cond.selects "[Ljava/lang/Object;" ({ cls := "java/lang/Object", name := "getClass", desc := "()Ljava/lang/Class;" } : Jvm.MethodName) ({ cls := "java/lang/Object", name := "getClass", desc := "()Ljava/lang/Class;" } : Jvm.MethodName)) a0 Z = true := hw _ (List.mem_of_getElem? (i := 176) rfl)
theorem wd_175 {a0 : Array Value} {Z : State} (hw : ∀ d ∈ tables_1, d.before a0 Z = true) : Cond.before (Jvm.Cond.instanceMethod ({ cls := "java/lang/Object", name := "getClass", desc := "()Ljava/lang/Class;" } : Jvm.MethodName)) a0 Z = true := hw _ (List.mem_of_getElem? (i := 175) rfl)
theorem wd_177 {a0 : Array Value} {Z : State} (hw : ∀ d ∈ tables_1, d.before a0 Z = true) : Cond.before (Jvm.Cond.native ({ cls := "java/lang/Object", name := "getClass", desc := "()Ljava/lang/Class;" } : Jvm.MethodName)) a0 Z = true := hw _ (List.mem_of_getElem? (i := 177) rfl)
theorem wd_179 {a0 : Array Value} {Z : State} (hw : ∀ d ∈ tables_1, d.before a0 Z = true) : Cond.before (Jvm.Cond.methodLink "java/util/Arrays" (300 : Nat) ({ cls := "java/util/Arrays", name := "copyOf", desc := "([Ljava/lang/Object;ILjava/lang/Class;)[Ljava/lang/Object;" } : Jvm.MethodName)) a0 Z = true := hw _ (List.mem_of_getElem? (i := 179) rfl)
theorem pd_5 : parseMethodDescriptor "([Ljava/lang/Object;ILjava/lang/Class;)[Ljava/lang/Object;" = some ⟨[(.array (.object "java/lang/Object")), .int, (.object "java/lang/Class")], some (.array (.object "java/lang/Object"))⟩ := by decide +kernel
theorem wd_180 {a0 : Array Value} {Z : State} (hw : ∀ d ∈ tables_1, d.before a0 Z = true) : Cond.before (Jvm.Cond.static ({ cls := "java/util/Arrays", name := "copyOf", desc := "([Ljava/lang/Object;ILjava/lang/Class;)[Ljava/lang/Object;" } : Jvm.MethodName)) a0 Z = true := hw _ (List.mem_of_getElem? (i := 180) rfl)
theorem wd_171 {a0 : Array Value} {Z : State} (hw : ∀ d ∈ tables_1, d.before a0 Z = true) : Cond.before (Jvm.Cond.initialized "java/util/Arrays") a0 Z = true := hw _ (List.mem_of_getElem? (i := 171) rfl)
theorem wd_181 {a0 : Array Value} {Z : State} (hw : ∀ d ∈ tables_1, d.before a0 Z = true) : Cond.before (Jvm.Cond.code ({ cls := "java/util/Arrays", name := "copyOf", desc := "([Ljava/lang/Object;ILjava/lang/Class;)[Ljava/lang/Object;" } : Jvm.MethodName) jdk_65_method_120_code (4 : Nat) (Option.some (Jvm.ClassFile.FieldType.array (Jvm.ClassFile.FieldType.object "java/lang/Object")))) a0 Z = true := hw _ (List.mem_of_getElem? (i := 181) rfl)
theorem d_rmC2_0 : decode jdk_65_method_119_code 0 = .ok (.aload_n 0, 1) := by decide +kernel
theorem d_rmC2_1 : decode jdk_65_method_119_code 1 = .ok (.iload_n 1, 1) := by decide +kernel
theorem d_rmC2_2 : decode jdk_65_method_119_code 2 = .ok (.aload_n 0, 1) := by decide +kernel
theorem d_rmC2_3 : decode jdk_65_method_119_code 3 = .ok (.invokevirtual 86, 3) := by decide +kernel
theorem d_rmC2_6 : decode jdk_65_method_119_code 6 = .ok (.invokestatic 300, 3) := by decide +kernel
theorem d_rmC2_9 : decode jdk_65_method_119_code 9 = .ok (.areturn, 1) := by decide +kernel
set_option maxRecDepth 65536 in
set_option maxHeartbeats 40000000 in
theorem rmC2 (l : Launch) (Z : State) (a0 : Array Value) (hw : ∀ d ∈ tables_1, d.before a0 Z = true) (ws : List Jvm.Cond) (ar ms mir dc : Addr) (h0 : Heap) (n0 : Nat) (Z0 : n0 ≤ h0.size) (Bar : own_B Z h0 ar 10 ms) (Mi : own_Mi Z mir) (Em : Exa Z h0 ms "com/example/rock_dove/rockdove/store/StoredMessage") (Fs : Sta Z h0 "java/util/ArrayList" "DEFAULTCAPACITY_EMPTY_ELEMENTDATA" "[Ljava/lang/Object;" (.ref dc)) (A0 : own_A Z h0 dc 0) :
    own_Met l Z (⟨"java/util/Arrays", "copyOf", "([Ljava/lang/Object;I)[Ljava/lang/Object;"⟩ : MethodName) ws jdk_65_method_119_code 2 (some (.array (.object "java/lang/Object"))) ({ frames := 2, cells := 1, slots := 1, locals := 33 } : Room) #[(.ref ar), (.int (1 : Int32))] h0 (fun v h L => ∃ r : Addr, v = some (.ref r) ∧ Fr n0 L ∧ Keep h0 h [] ∧ h0.size ≤ r ∧ own_B Z h r 1 ms ∧ Sta Z h "java/util/ArrayList" "DEFAULTCAPACITY_EMPTY_ELEMENTDATA" "[Ljava/lang/Object;" (.ref dc) ∧ own_A Z h dc 0) := by
  refine own_body (y := (⟨"java/util/Arrays", "copyOf", "([Ljava/lang/Object;I)[Ljava/lang/Object;"⟩ : MethodName)) (plainFor_of_name pn_3) ?_
  intro p e s m below meth c s₁ hx hby hml hown hnm hret hlk hZ X0 e0
  have hml : c.maxLocals = 2 := hml
  have hown : s.vm.findClass "java/util/Arrays" = some m.cls := hown
  have N0 := Fr.nil n0
  refine own_entry (ef_rmC2 m ar (1 : Int32)) ?_
  show own_Dn p e below s (fun v h L => ∃ r : Addr, v = some (.ref r) ∧ Fr n0 L ∧ Keep h0 h [] ∧ h0.size ≤ r ∧ own_B Z h r 1 ms ∧ Sta Z h "java/util/ArrayList" "DEFAULTCAPACITY_EMPTY_ELEMENTDATA" "[Ljava/lang/Object;" (.ref dc) ∧ own_A Z h dc 0) ({ frames := 2, cells := 1, slots := 1, locals := 33 } : Room).cells ({ frames := 2, cells := 1, slots := 1, locals := 33 } : Room).slots (s₁.setTop (mkF m 0 #[.val (.ref ar), .val (.int (1 : Int32))] []))
  refine own_st (q' := s₁.setTop (mkF m 3 #[.val (.ref ar), .val (.int (1 : Int32))] [(.ref ar), (.int (1 : Int32)), (.ref ar)])) (fun _ k => XS.aloadN X0.here hx rfl (hb hby d_rmC2_0) rfl rfl (XS.iloadN X0.here hx rfl (hb hby d_rmC2_1) rfl (XS.aloadN X0.here hx rfl (hb hby d_rmC2_2) rfl rfl k))) ?_
  refine own_getC X0 hx hZ hown (wd_173 hw) (wd_174 hw) (wd_176 hw) (wd_175 hw) (wd_177 hw) e0 Bar.toA Mi (g := (mkF m 3 #[.val (.ref ar), .val (.int (1 : Int32))] [(.ref ar), (.int (1 : Int32)), (.ref ar)])) rfl (by rw [hml]; rfl) (rest := [(.int (1 : Int32)), (.ref ar)]) rfl (hb hby d_rmC2_3) (by decide) (by show 2 * 0 + 2 + (nativeFrameWords "java/lang/Object" "getClass" 1 + 11) ≤ _; decide +kernel) ?_
  intro vm101 X101
  have e101 : (s₁.setVm vm101).heap = h0 := e0
  show own_Dn p e below s (fun v h L => ∃ r : Addr, v = some (.ref r) ∧ Fr n0 L ∧ Keep h0 h [] ∧ h0.size ≤ r ∧ own_B Z h r 1 ms ∧ Sta Z h "java/util/ArrayList" "DEFAULTCAPACITY_EMPTY_ELEMENTDATA" "[Ljava/lang/Object;" (.ref dc) ∧ own_A Z h dc 0) ({ frames := 2, cells := 1, slots := 1, locals := 33 } : Room).cells ({ frames := 2, cells := 1, slots := 1, locals := 33 } : Room).slots ((s₁.setVm vm101).setTop (mkF m 6 #[.val (.ref ar), .val (.int (1 : Int32))] [(.ref mir), (.int (1 : Int32)), (.ref ar)]))
  refine own_callS (y := (⟨"java/util/Arrays", "copyOf", "([Ljava/lang/Object;ILjava/lang/Class;)[Ljava/lang/Object;"⟩ : MethodName)) X101 hx hZ hown (wd_179 hw) (wd_180 hw) (wd_171 hw) (wd_181 hw) (by decide) (rmC3 l Z a0 hw [] ar ms mir dc h0 n0 Z0 Bar Mi Em Fs A0) e101 (W := 0) (by decide) (by decide) (by decide) (by decide) (g := (mkF m 6 #[.val (.ref ar), .val (.int (1 : Int32))] [(.ref mir), (.int (1 : Int32)), (.ref ar)])) rfl (by rw [hml]; rfl) (argsL := [(.ref ar), (.int (1 : Int32)), (.ref mir)]) (rest := []) rfl (lenOf pd_5 rfl) rfl (by show 2 * 0 + _ ≤ _; exact Nat.le_of_eq rfl) (hb hby d_rmC2_6) ?_
  intro v102 T102 L102 hQ102 X102
  obtain ⟨r102, rfl, NN102, KK102, q102_0, q102_1, q102_2, q102_3⟩ := hQ102
  have N102 := Fr.app N0 NN102
  have K103 : Keep h0 T102.heap [] := ((Keep.refl h0 []).trans KK102 all0)
  show own_Dn p e below s (fun v h L => ∃ r : Addr, v = some (.ref r) ∧ Fr n0 L ∧ Keep h0 h [] ∧ h0.size ≤ r ∧ own_B Z h r 1 ms ∧ Sta Z h "java/util/ArrayList" "DEFAULTCAPACITY_EMPTY_ELEMENTDATA" "[Ljava/lang/Object;" (.ref dc) ∧ own_A Z h dc 0) ({ frames := 2, cells := 1, slots := 1, locals := 33 } : Room).cells ({ frames := 2, cells := 1, slots := 1, locals := 33 } : Room).slots (T102.setTop (mkF m 9 #[.val (.ref ar), .val (.int (1 : Int32))] [(.ref r102)]))
  exact own_retO X102 hx hlk (i := .areturn) hret rfl (Or.inr (Or.inr (Or.inr (Or.inr ⟨rfl, rfl, rfl⟩)))) (hb hby d_rmC2_9) (rfl : T102.heap = T102.heap) (by exact ⟨_, rfl, N102, K103, (Nat.le_trans (Keep.refl h0 []).1 q102_0), q102_1, q102_2, q102_3⟩) (by decide) (by decide)
theorem ef_rmTA (m : MethodId) (x0 : Addr) : entryFrame m #[(.ref x0)] 1 = mkF m 0 #[.val (.ref x0)] [] := by first | (simp [entryFrame, mkF, argsToLocals, Value.category]; done) | rfl
theorem wd_169 {a0 : Array Value} {Z : State} (hw : ∀ d ∈ tables_1, d.before a0 Z = true) : Cond.before (Jvm.Cond.methodLink "java/util/ArrayList" (66 : Nat) ({ cls := "java/util/Arrays", name := "copyOf", desc := "([Ljava/lang/Object;I)[Ljava/lang/Object;" } : Jvm.MethodName)) a0 Z = true := hw _ (List.mem_of_getElem? (i := 169) rfl)
theorem pd_6 : parseMethodDescriptor "([Ljava/lang/Object;I)[Ljava/lang/Object;" = some ⟨[(.array (.object "java/lang/Object")), .int], some (.array (.object "java/lang/Object"))⟩ := by decide +kernel
theorem wd_170 {a0 : Array Value} {Z : State} (hw : ∀ d ∈ tables_1, d.before a0 Z = true) : Cond.before (Jvm.Cond.static ({ cls := "java/util/Arrays", name := "copyOf", desc := "([Ljava/lang/Object;I)[Ljava/lang/Object;" } : Jvm.MethodName)) a0 Z = true := hw _ (List.mem_of_getElem? (i := 170) rfl)
theorem wd_172 {a0 : Array Value} {Z : State} (hw : ∀ d ∈ tables_1, d.before a0 Z = true) : Cond.before (Jvm.Cond.code ({ cls := "java/util/Arrays", name := "copyOf", desc := "([Ljava/lang/Object;I)[Ljava/lang/Object;" } : Jvm.MethodName) jdk_65_method_119_code (2 : Nat) (Option.some (Jvm.ClassFile.FieldType.array (Jvm.ClassFile.FieldType.object "java/lang/Object")))) a0 Z = true := hw _ (List.mem_of_getElem? (i := 172) rfl)
theorem d_rmTA_0 : decode jdk_38_method_16_code 0 = .ok (.aload_n 0, 1) := by decide +kernel
theorem d_rmTA_1 : decode jdk_38_method_16_code 1 = .ok (.getfield 9, 3) := by decide +kernel
theorem d_rmTA_4 : decode jdk_38_method_16_code 4 = .ok (.aload_n 0, 1) := by decide +kernel
theorem d_rmTA_5 : decode jdk_38_method_16_code 5 = .ok (.getfield 48, 3) := by decide +kernel
theorem d_rmTA_8 : decode jdk_38_method_16_code 8 = .ok (.invokestatic 66, 3) := by decide +kernel
theorem d_rmTA_11 : decode jdk_38_method_16_code 11 = .ok (.areturn, 1) := by decide +kernel
set_option maxRecDepth 65536 in
set_option maxHeartbeats 40000000 in
theorem rmTA (l : Launch) (Z : State) (a0 : Array Value) (hw : ∀ d ∈ tables_1, d.before a0 Z = true) (ws : List Jvm.Cond) (b ar ms mir dc : Addr) (h0 : Heap) (n0 : Nat) (Z0 : n0 ≤ h0.size) (F_sz : Fld Z h0 b "java/util/ArrayList" "size" "I" (.int (1 : Int32))) (F_ed : Fld Z h0 b "java/util/ArrayList" "elementData" "[Ljava/lang/Object;" (.ref ar)) (Bar : own_B Z h0 ar 10 ms) (Mi : own_Mi Z mir) (Em : Exa Z h0 ms "com/example/rock_dove/rockdove/store/StoredMessage") (Fs : Sta Z h0 "java/util/ArrayList" "DEFAULTCAPACITY_EMPTY_ELEMENTDATA" "[Ljava/lang/Object;" (.ref dc)) (A0 : own_A Z h0 dc 0) :
    own_Met l Z (⟨"java/util/ArrayList", "toArray", "()[Ljava/lang/Object;"⟩ : MethodName) ws jdk_38_method_16_code 1 (some (.array (.object "java/lang/Object"))) ({ frames := 3, cells := 1, slots := 1, locals := 46 } : Room) #[(.ref b)] h0 (fun v h L => ∃ r : Addr, v = some (.ref r) ∧ Fr n0 L ∧ Keep h0 h [] ∧ h0.size ≤ r ∧ own_B Z h r 1 ms ∧ Sta Z h "java/util/ArrayList" "DEFAULTCAPACITY_EMPTY_ELEMENTDATA" "[Ljava/lang/Object;" (.ref dc) ∧ own_A Z h dc 0) := by
  refine own_body (y := (⟨"java/util/ArrayList", "toArray", "()[Ljava/lang/Object;"⟩ : MethodName)) (plainFor_of_name pn_2) ?_
  intro p e s m below meth c s₁ hx hby hml hown hnm hret hlk hZ X0 e0
  have hml : c.maxLocals = 1 := hml
  have hown : s.vm.findClass "java/util/ArrayList" = some m.cls := hown
  have N0 := Fr.nil n0
  refine own_entry (ef_rmTA m b) ?_
  show own_Dn p e below s (fun v h L => ∃ r : Addr, v = some (.ref r) ∧ Fr n0 L ∧ Keep h0 h [] ∧ h0.size ≤ r ∧ own_B Z h r 1 ms ∧ Sta Z h "java/util/ArrayList" "DEFAULTCAPACITY_EMPTY_ELEMENTDATA" "[Ljava/lang/Object;" (.ref dc) ∧ own_A Z h dc 0) ({ frames := 3, cells := 1, slots := 1, locals := 46 } : Room).cells ({ frames := 3, cells := 1, slots := 1, locals := 46 } : Room).slots (s₁.setTop (mkF m 0 #[.val (.ref b)] []))
  refine own_st (q' := s₁.setTop (mkF m 1 #[.val (.ref b)] [(.ref b)])) (fun _ k => XS.aloadN X0.here hx rfl (hb hby d_rmTA_0) rfl rfl k) ?_
  obtain ⟨T101, X101, e101, st101⟩ := getF X0 hx hZ hown (host := "") (Or.inl (wd_31 hw)) Via.refl e0 F_ed (g := (mkF m 1 #[.val (.ref b)] [(.ref b)])) rfl rfl (hb hby d_rmTA_1)
  refine own_st (q' := T101.setTop (mkF m 4 #[.val (.ref b)] [(.ref ar)])) st101 ?_
  refine own_st (q' := T101.setTop (mkF m 5 #[.val (.ref b)] [(.ref b), (.ref ar)])) (fun _ k => XS.aloadN X101.here hx rfl (hb hby d_rmTA_4) rfl rfl k) ?_
  obtain ⟨T102, X102, e102, st102⟩ := getF X101 hx hZ hown (host := "") (Or.inl (wd_90 hw)) Via.refl e101 F_sz (g := (mkF m 5 #[.val (.ref b)] [(.ref b), (.ref ar)])) rfl rfl (hb hby d_rmTA_5)
  refine own_st (q' := T102.setTop (mkF m 8 #[.val (.ref b)] [(.int (1 : Int32)), (.ref ar)])) st102 ?_
  refine own_callS (y := (⟨"java/util/Arrays", "copyOf", "([Ljava/lang/Object;I)[Ljava/lang/Object;"⟩ : MethodName)) X102 hx hZ hown (wd_169 hw) (wd_170 hw) (wd_171 hw) (wd_172 hw) (by decide) (rmC2 l Z a0 hw [] ar ms mir dc h0 n0 Z0 Bar Mi Em Fs A0) e102 (W := 0) (by decide) (by decide) (by decide) (by decide) (g := (mkF m 8 #[.val (.ref b)] [(.int (1 : Int32)), (.ref ar)])) rfl (by rw [hml]; rfl) (argsL := [(.ref ar), (.int (1 : Int32))]) (rest := []) rfl (lenOf pd_6 rfl) rfl (by show 2 * 0 + _ ≤ _; exact Nat.le_of_eq rfl) (hb hby d_rmTA_8) ?_
  intro v103 T103 L103 hQ103 X103
  obtain ⟨r103, rfl, NN103, KK103, q103_0, q103_1, q103_2, q103_3⟩ := hQ103
  have N103 := Fr.app N0 NN103
  have K104 : Keep h0 T103.heap [] := ((Keep.refl h0 []).trans KK103 all0)
  show own_Dn p e below s (fun v h L => ∃ r : Addr, v = some (.ref r) ∧ Fr n0 L ∧ Keep h0 h [] ∧ h0.size ≤ r ∧ own_B Z h r 1 ms ∧ Sta Z h "java/util/ArrayList" "DEFAULTCAPACITY_EMPTY_ELEMENTDATA" "[Ljava/lang/Object;" (.ref dc) ∧ own_A Z h dc 0) ({ frames := 3, cells := 1, slots := 1, locals := 46 } : Room).cells ({ frames := 3, cells := 1, slots := 1, locals := 46 } : Room).slots (T103.setTop (mkF m 11 #[.val (.ref b)] [(.ref r103)]))
  exact own_retO X103 hx hlk (i := .areturn) hret rfl (Or.inr (Or.inr (Or.inr (Or.inr ⟨rfl, rfl, rfl⟩)))) (hb hby d_rmTA_11) (rfl : T103.heap = T103.heap) (by exact ⟨_, rfl, N103, K104, (Nat.le_trans (Keep.refl h0 []).1 q103_0), q103_1, q103_2, q103_3⟩) (by decide) (by decide)
theorem ef_rmAA (m : MethodId) (x0 : Addr) (x1 : Addr) : entryFrame m #[(.ref x0), (.ref x1)] 6 = mkF m 0 #[.val (.ref x0), .val (.ref x1), .unset, .unset, .unset, .unset] [] := by first | (simp [entryFrame, mkF, argsToLocals, Value.category]; done) | rfl
theorem wd_160 {a0 : Array Value} {Z : State} (hw : ∀ d ∈ tables_1, d.before a0 Z = true) : Cond.before (Jvm.Cond.methodLink "java/util/ArrayList" (42 : Nat) ({ cls := "java/util/Collection", name := "toArray", desc := "()[Ljava/lang/Object;" } : Jvm.MethodName)) a0 Z = true := hw _ (List.mem_of_getElem? (i := 160) rfl)
theorem wd_163 {a0 : Array Value} {Z : State} (hw : ∀ d ∈ tables_1, d.before a0 Z = true) : Cond.before (Jvm.Cond.selects "java/util/ArrayList" ({ cls := "java/util/Collection", name := "toArray", desc := "()[Ljava/lang/Object;" } : Jvm.MethodName) ({ cls := "java/util/ArrayList", name := "toArray", desc := "()[Ljava/lang/Object;" } : Jvm.MethodName)) a0 Z = true := hw _ (List.mem_of_getElem? (i := 163) rfl)
theorem wd_161 {a0 : Array Value} {Z : State} (hw : ∀ d ∈ tables_1, d.before a0 Z = true) : Cond.before (Jvm.Cond.declares ({ cls := "java/util/Collection", name := "toArray", desc := "()[Ljava/lang/Object;" } : Jvm.MethodName)) a0 Z = true := hw _ (List.mem_of_getElem? (i := 161) rfl)
theorem wd_162 {a0 : Array Value} {Z : State} (hw : ∀ d ∈ tables_1, d.before a0 Z = true) : Cond.before (Jvm.Cond.interfaceMethod "java/util/Collection" "java/util/Collection" "toArray" "()[Ljava/lang/Object;") a0 Z = true := hw _ (List.mem_of_getElem? (i := 162) rfl)
theorem wd_164 {a0 : Array Value} {Z : State} (hw : ∀ d ∈ tables_1, d.before a0 Z = true) : Cond.before (Jvm.Cond.instanceMethod ({ cls := "java/util/ArrayList", name := "toArray", desc := "()[Ljava/lang/Object;" } : Jvm.MethodName)) a0 Z = true := hw _ (List.mem_of_getElem? (i := 164) rfl)
theorem wd_165 {a0 : Array Value} {Z : State} (hw : ∀ d ∈ tables_1, d.before a0 Z = true) : Cond.before (Jvm.Cond.publicMethod ({ cls := "java/util/ArrayList", name := "toArray", desc := "()[Ljava/lang/Object;" } : Jvm.MethodName)) a0 Z = true := hw _ (List.mem_of_getElem? (i := 165) rfl)
theorem wd_166 {a0 : Array Value} {Z : State} (hw : ∀ d ∈ tables_1, d.before a0 Z = true) : Cond.before (Jvm.Cond.unhidden "java/util/ArrayList" "toArray" "()[Ljava/lang/Object;") a0 Z = true := hw _ (List.mem_of_getElem? (i := 166) rfl)
theorem wd_167 {a0 : Array Value} {Z : State} (hw : ∀ d ∈ tables_1, d.before a0 Z = true) : Cond.before (Jvm.Cond.castable "java/util/ArrayList" "java/util/Collection") a0 Z = true := hw _ (List.mem_of_getElem? (i := 167) rfl)
theorem wd_168 {a0 : Array Value} {Z : State} (hw : ∀ d ∈ tables_1, d.before a0 Z = true) : Cond.before (Jvm.Cond.code ({ cls := "java/util/ArrayList", name := "toArray", desc := "()[Ljava/lang/Object;" } : Jvm.MethodName) jdk_38_method_16_code (1 : Nat) (Option.some (Jvm.ClassFile.FieldType.array (Jvm.ClassFile.FieldType.object "java/lang/Object")))) a0 Z = true := hw _ (List.mem_of_getElem? (i := 168) rfl)
theorem wd_191 {a0 : Array Value} {Z : State} (hw : ∀ d ∈ tables_1, d.before a0 Z = true) : Cond.before (Jvm.Cond.methodLink "java/util/ArrayList" (112 : Nat) ({ cls := "java/lang/System", name := "arraycopy", desc := "(Ljava/lang/Object;ILjava/lang/Object;II)V" } : Jvm.MethodName)) a0 Z = true := hw _ (List.mem_of_getElem? (i := 191) rfl)
theorem d_rmAA_0 : decode jdk_38_method_41_code 0 = .ok (.aload_n 1, 1) := by decide +kernel
theorem d_rmAA_1 : decode jdk_38_method_41_code 1 = .ok (.invokeinterface 42 1, 5) := by decide +kernel
theorem d_rmAA_6 : decode jdk_38_method_41_code 6 = .ok (.astore_n 2, 1) := by decide +kernel
theorem d_rmAA_7 : decode jdk_38_method_41_code 7 = .ok (.aload_n 0, 1) := by decide +kernel
theorem d_rmAA_8 : decode jdk_38_method_41_code 8 = .ok (.dup, 1) := by decide +kernel
theorem d_rmAA_9 : decode jdk_38_method_41_code 9 = .ok (.getfield 63, 3) := by decide +kernel
theorem d_rmAA_12 : decode jdk_38_method_41_code 12 = .ok (.iconst 1, 1) := by decide +kernel
theorem d_rmAA_13 : decode jdk_38_method_41_code 13 = .ok (.iadd, 1) := by decide +kernel
theorem d_rmAA_14 : decode jdk_38_method_41_code 14 = .ok (.putfield 63, 3) := by decide +kernel
theorem d_rmAA_17 : decode jdk_38_method_41_code 17 = .ok (.aload_n 2, 1) := by decide +kernel
theorem d_rmAA_18 : decode jdk_38_method_41_code 18 = .ok (.arraylength, 1) := by decide +kernel
theorem d_rmAA_19 : decode jdk_38_method_41_code 19 = .ok (.istore_n 3, 1) := by decide +kernel
theorem d_rmAA_20 : decode jdk_38_method_41_code 20 = .ok (.iload_n 3, 1) := by decide +kernel
theorem d_rmAA_21 : decode jdk_38_method_41_code 21 = .ok (.ifCond .ne 5, 3) := by decide +kernel
theorem d_rmAA_26 : decode jdk_38_method_41_code 26 = .ok (.iload_n 3, 1) := by decide +kernel
theorem d_rmAA_27 : decode jdk_38_method_41_code 27 = .ok (.aload_n 0, 1) := by decide +kernel
theorem d_rmAA_28 : decode jdk_38_method_41_code 28 = .ok (.getfield 9, 3) := by decide +kernel
theorem d_rmAA_31 : decode jdk_38_method_41_code 31 = .ok (.dup, 1) := by decide +kernel
theorem d_rmAA_32 : decode jdk_38_method_41_code 32 = .ok (.astore 4, 2) := by decide +kernel
theorem d_rmAA_34 : decode jdk_38_method_41_code 34 = .ok (.arraylength, 1) := by decide +kernel
theorem d_rmAA_35 : decode jdk_38_method_41_code 35 = .ok (.aload_n 0, 1) := by decide +kernel
theorem d_rmAA_36 : decode jdk_38_method_41_code 36 = .ok (.getfield 48, 3) := by decide +kernel
theorem d_rmAA_39 : decode jdk_38_method_41_code 39 = .ok (.dup, 1) := by decide +kernel
theorem d_rmAA_40 : decode jdk_38_method_41_code 40 = .ok (.istore 5, 2) := by decide +kernel
theorem d_rmAA_42 : decode jdk_38_method_41_code 42 = .ok (.isub, 1) := by decide +kernel
theorem d_rmAA_43 : decode jdk_38_method_41_code 43 = .ok (.if_icmp .le 13, 3) := by decide +kernel
theorem d_rmAA_46 : decode jdk_38_method_41_code 46 = .ok (.aload_n 0, 1) := by decide +kernel
theorem d_rmAA_47 : decode jdk_38_method_41_code 47 = .ok (.iload 5, 2) := by decide +kernel
theorem d_rmAA_49 : decode jdk_38_method_41_code 49 = .ok (.iload_n 3, 1) := by decide +kernel
theorem d_rmAA_50 : decode jdk_38_method_41_code 50 = .ok (.iadd, 1) := by decide +kernel
theorem d_rmAA_51 : decode jdk_38_method_41_code 51 = .ok (.invokevirtual 69, 3) := by decide +kernel
theorem d_rmAA_54 : decode jdk_38_method_41_code 54 = .ok (.astore 4, 2) := by decide +kernel
theorem d_rmAA_56 : decode jdk_38_method_41_code 56 = .ok (.aload_n 2, 1) := by decide +kernel
theorem d_rmAA_57 : decode jdk_38_method_41_code 57 = .ok (.iconst 0, 1) := by decide +kernel
theorem d_rmAA_58 : decode jdk_38_method_41_code 58 = .ok (.aload 4, 2) := by decide +kernel
theorem d_rmAA_60 : decode jdk_38_method_41_code 60 = .ok (.iload 5, 2) := by decide +kernel
theorem d_rmAA_62 : decode jdk_38_method_41_code 62 = .ok (.iload_n 3, 1) := by decide +kernel
theorem d_rmAA_63 : decode jdk_38_method_41_code 63 = .ok (.invokestatic 112, 3) := by decide +kernel
theorem d_rmAA_66 : decode jdk_38_method_41_code 66 = .ok (.aload_n 0, 1) := by decide +kernel
theorem d_rmAA_67 : decode jdk_38_method_41_code 67 = .ok (.iload 5, 2) := by decide +kernel
theorem d_rmAA_69 : decode jdk_38_method_41_code 69 = .ok (.iload_n 3, 1) := by decide +kernel
theorem d_rmAA_70 : decode jdk_38_method_41_code 70 = .ok (.iadd, 1) := by decide +kernel
theorem d_rmAA_71 : decode jdk_38_method_41_code 71 = .ok (.putfield 48, 3) := by decide +kernel
theorem d_rmAA_74 : decode jdk_38_method_41_code 74 = .ok (.iconst 1, 1) := by decide +kernel
theorem d_rmAA_75 : decode jdk_38_method_41_code 75 = .ok (.ireturn, 1) := by decide +kernel
set_option maxRecDepth 65536 in
set_option maxHeartbeats 40000000 in
theorem rmAA (l : Launch) (Z : State) (a0 : Array Value) (hw : ∀ d ∈ tables_1, d.before a0 Z = true) (ws : List Jvm.Cond) (b lq ea ar ms mir dc : Addr) (k : Nat) (h0 : Heap) (n0 : Nat) (Z0 : n0 ≤ h0.size) (HL : own_L Z n0 dc h0 b k ea) (hk : k ≤ 2) (Eq : Exa Z h0 lq "java/util/ArrayList") (Q_sz : Fld Z h0 lq "java/util/ArrayList" "size" "I" (.int (1 : Int32))) (Q_ed : Fld Z h0 lq "java/util/ArrayList" "elementData" "[Ljava/lang/Object;" (.ref ar)) (Bar : own_B Z h0 ar 10 ms) (Mi : own_Mi Z mir) (Em : Exa Z h0 ms "com/example/rock_dove/rockdove/store/StoredMessage") (Fs : Sta Z h0 "java/util/ArrayList" "DEFAULTCAPACITY_EMPTY_ELEMENTDATA" "[Ljava/lang/Object;" (.ref dc)) (A0 : own_A Z h0 dc 0) :
    own_Met l Z (⟨"java/util/ArrayList", "addAll", "(Ljava/util/Collection;)Z"⟩ : MethodName) ws jdk_38_method_41_code 6 (some .boolean) ({ frames := 4, cells := 2, slots := 11, locals := 58 } : Room) #[(.ref b), (.ref lq)] h0 (fun v h L => ∃ r : Addr, v = some (.int (1 : Int32)) ∧ Fr n0 L ∧ Keep h0 h [b, ea] ∧ own_L Z n0 dc h b (k + 1) r ∧ Sta Z h "java/util/ArrayList" "DEFAULTCAPACITY_EMPTY_ELEMENTDATA" "[Ljava/lang/Object;" (.ref dc) ∧ own_A Z h dc 0) := by
  refine own_body (y := (⟨"java/util/ArrayList", "addAll", "(Ljava/util/Collection;)Z"⟩ : MethodName)) (plainFor_of_name pn_2) ?_
  intro p e s m below meth c s₁ hx hby hml hown hnm hret hlk hZ X0 e0
  have hml : c.maxLocals = 6 := hml
  have hown : s.vm.findClass "java/util/ArrayList" = some m.cls := hown
  have N0 := Fr.nil n0
  refine own_entry (ef_rmAA m b lq) ?_
  show own_Dn p e below s (fun v h L => ∃ r : Addr, v = some (.int (1 : Int32)) ∧ Fr n0 L ∧ Keep h0 h [b, ea] ∧ own_L Z n0 dc h b (k + 1) r ∧ Sta Z h "java/util/ArrayList" "DEFAULTCAPACITY_EMPTY_ELEMENTDATA" "[Ljava/lang/Object;" (.ref dc) ∧ own_A Z h dc 0) ({ frames := 4, cells := 2, slots := 11, locals := 58 } : Room).cells ({ frames := 4, cells := 2, slots := 11, locals := 58 } : Room).slots (s₁.setTop (mkF m 0 #[.val (.ref b), .val (.ref lq), .unset, .unset, .unset, .unset] []))
  obtain ⟨E1, g1, mc, n, hn0, hn1, F_mod, F_sz, F_ed, hcs⟩ := HL
  rcases hcs with ⟨q1, q2⟩ | ⟨gea, Aea⟩
  · skip
    rw [q1] at F_ed
    rw [q2] at F_sz
    refine own_st (q' := s₁.setTop (mkF m 1 #[.val (.ref b), .val (.ref lq), .unset, .unset, .unset, .unset] [(.ref lq)])) (fun _ k => XS.aloadN X0.here hx rfl (hb hby d_rmAA_0) rfl rfl k) ?_
    refine own_callF (xi := (⟨"java/util/Collection", "toArray", "()[Ljava/lang/Object;"⟩ : MethodName)) (y := (⟨"java/util/ArrayList", "toArray", "()[Ljava/lang/Object;"⟩ : MethodName)) X0 hx hZ hown (wd_160 hw) (wd_161 hw) (wd_162 hw) (wd_163 hw) (wd_164 hw) (wd_165 hw) (wd_166 hw) (wd_167 hw) (wd_11 hw) (wd_168 hw) (by decide) (rmTA l Z a0 hw [] lq ar ms mir dc h0 n0 Z0 Q_sz Q_ed Bar Mi Em Fs A0) e0 Eq (W := 0) (by decide) (by decide) (by decide) (by decide) (g := (mkF m 1 #[.val (.ref b), .val (.ref lq), .unset, .unset, .unset, .unset] [(.ref lq)])) rfl (by rw [hml]; rfl) (argsL := []) (rest := []) rfl (lenOf pd_3 rfl) rfl (by show 2 * 0 + _ ≤ _; exact Nat.le_of_eq rfl) (hb hby d_rmAA_1) ?_
    intro v101 T101 L101 hQ101 X101
    obtain ⟨r101, rfl, NN101, KK101, q101_0, q101_1, q101_2, q101_3⟩ := hQ101
    have N101 := Fr.app N0 NN101
    have K102 : Keep h0 T101.heap [b, ea] := ((Keep.refl h0 [b, ea]).trans KK101 all0)
    show own_Dn p e below s (fun v h L => ∃ r : Addr, v = some (.int (1 : Int32)) ∧ Fr n0 L ∧ Keep h0 h [b, ea] ∧ own_L Z n0 dc h b (k + 1) r ∧ Sta Z h "java/util/ArrayList" "DEFAULTCAPACITY_EMPTY_ELEMENTDATA" "[Ljava/lang/Object;" (.ref dc) ∧ own_A Z h dc 0) ({ frames := 4, cells := 2, slots := 11, locals := 58 } : Room).cells ({ frames := 4, cells := 2, slots := 11, locals := 58 } : Room).slots (T101.setTop (mkF m 6 #[.val (.ref b), .val (.ref lq), .unset, .unset, .unset, .unset] [(.ref r101)]))
    refine own_st (q' := T101.setTop (mkF m 9 #[.val (.ref b), .val (.ref lq), .val (.ref r101), .unset, .unset, .unset] [(.ref b), (.ref b)])) (fun _ k => XS.astoreN X101.here hx rfl (hb hby d_rmAA_6) rfl rfl (l' := #[.val (.ref b), .val (.ref lq), .val (.ref r101), .unset, .unset, .unset]) rfl (XS.aloadN X101.here hx rfl (hb hby d_rmAA_7) rfl rfl (XS.dup X101.here hx rfl (hb hby d_rmAA_8) rfl rfl k))) ?_
    have f103 := (F_mod.keep KK101 nin0)
    obtain ⟨T104, X104, e104, st104⟩ := getF X101 hx hZ hown (host := "") (Or.inl (wd_88 hw)) (Via.of (wd_89 hw)) (rfl : T101.heap = T101.heap) f103 (g := (mkF m 9 #[.val (.ref b), .val (.ref lq), .val (.ref r101), .unset, .unset, .unset] [(.ref b), (.ref b)])) rfl rfl (hb hby d_rmAA_9)
    refine own_st (q' := T104.setTop (mkF m 12 #[.val (.ref b), .val (.ref lq), .val (.ref r101), .unset, .unset, .unset] [(.int mc), (.ref b)])) st104 ?_
    refine own_st (q' := T104.setTop (mkF m 14 #[.val (.ref b), .val (.ref lq), .val (.ref r101), .unset, .unset, .unset] [(.int (mc + (1 : Int32))), (.ref b)])) (fun _ k => XS.iconst X104.here hx rfl (hb hby d_rmAA_12) (XS.iadd X104.here hx rfl (hb hby d_rmAA_13) rfl k)) ?_
    have f105 := (E1.keep KK101)
    obtain ⟨T106, h106, X106, e106, W106, st106⟩ := putF X104 hx hZ hown (host := "") (Or.inl (wd_88 hw)) (Via.of (wd_89 hw)) e104 f103 f105 (Or.inl (wd_29 hw)) (wd_10 hw) (ty := .int) (by decide) rfl rfl (g := (mkF m 14 #[.val (.ref b), .val (.ref lq), .val (.ref r101), .unset, .unset, .unset] [(.int (mc + (1 : Int32))), (.ref b)])) rfl rfl (hb hby d_rmAA_14)
    have N106 := Fr.snoc X106 N101 g1
    have K107 : Keep h0 h106 [b, ea] := (K102.wr W106 (Or.inl (List.mem_of_getElem? (i := 0) rfl)))
    have F106 := f103.same W106
    refine own_st (q' := T106.setTop (mkF m 17 #[.val (.ref b), .val (.ref lq), .val (.ref r101), .unset, .unset, .unset] [])) st106 ?_
    refine own_st (q' := T106.setTop (mkF m 18 #[.val (.ref b), .val (.ref lq), .val (.ref r101), .unset, .unset, .unset] [(.ref r101)])) (fun _ k => XS.aloadN X106.here hx rfl (hb hby d_rmAA_17) rfl rfl k) ?_
    have f108 := (q101_1.toA.wr W106)
    refine own_lenA X106 hx hZ e106 f108 (w := (1 : Int32)) (by decide) (g := (mkF m 18 #[.val (.ref b), .val (.ref lq), .val (.ref r101), .unset, .unset, .unset] [(.ref r101)])) rfl rfl (hb hby d_rmAA_18) ?_
    show own_Dn p e below s (fun v h L => ∃ r : Addr, v = some (.int (1 : Int32)) ∧ Fr n0 L ∧ Keep h0 h [b, ea] ∧ own_L Z n0 dc h b (k + 1) r ∧ Sta Z h "java/util/ArrayList" "DEFAULTCAPACITY_EMPTY_ELEMENTDATA" "[Ljava/lang/Object;" (.ref dc) ∧ own_A Z h dc 0) ({ frames := 4, cells := 2, slots := 11, locals := 58 } : Room).cells ({ frames := 4, cells := 2, slots := 11, locals := 58 } : Room).slots (T106.setTop (mkF m 19 #[.val (.ref b), .val (.ref lq), .val (.ref r101), .unset, .unset, .unset] [(.int (1 : Int32))]))
    refine own_st (q' := T106.setTop (mkF m 28 #[.val (.ref b), .val (.ref lq), .val (.ref r101), .val (.int (1 : Int32)), .unset, .unset] [(.ref b), (.int (1 : Int32))])) (fun _ k => XS.istoreN X106.here hx rfl (hb hby d_rmAA_19) rfl (l' := #[.val (.ref b), .val (.ref lq), .val (.ref r101), .val (.int (1 : Int32)), .unset, .unset]) rfl (XS.iloadN X106.here hx rfl (hb hby d_rmAA_20) rfl (XS.ifYes X106.here hx rfl (pc0 := 21) (pc' := 26) rfl (hb hby d_rmAA_21) rfl ((if0 _ _).trans (feq ((by decide : ¬ ((1 : Int32) = (0 : Int32))) : ¬ ((1 : Int32) = (0 : Int32)))).2) (by decide) (by decide) (XS.iloadN X106.here hx rfl (hb hby d_rmAA_26) rfl (XS.aloadN X106.here hx rfl (hb hby d_rmAA_27) rfl rfl k))))) ?_
    have f109 := ((F_ed.keep KK101 nin0).other W106 (Or.inr (sn_1 hw)))
    obtain ⟨T110, X110, e110, st110⟩ := getF X106 hx hZ hown (host := "") (Or.inl (wd_31 hw)) Via.refl e106 f109 (g := (mkF m 28 #[.val (.ref b), .val (.ref lq), .val (.ref r101), .val (.int (1 : Int32)), .unset, .unset] [(.ref b), (.int (1 : Int32))])) rfl rfl (hb hby d_rmAA_28)
    refine own_st (q' := T110.setTop (mkF m 31 #[.val (.ref b), .val (.ref lq), .val (.ref r101), .val (.int (1 : Int32)), .unset, .unset] [(.ref dc), (.int (1 : Int32))])) st110 ?_
    refine own_st (q' := T110.setTop (mkF m 34 #[.val (.ref b), .val (.ref lq), .val (.ref r101), .val (.int (1 : Int32)), .val (.ref dc), .unset] [(.ref dc), (.int (1 : Int32))])) (fun _ k => XS.dup X110.here hx rfl (hb hby d_rmAA_31) rfl rfl (XS.astore X110.here hx rfl (hb hby d_rmAA_32) rfl rfl (l' := #[.val (.ref b), .val (.ref lq), .val (.ref r101), .val (.int (1 : Int32)), .val (.ref dc), .unset]) rfl k)) ?_
    have f111 := (q101_3.wr W106)
    refine own_lenA X110 hx hZ e110 f111 (w := (0 : Int32)) (by decide) (g := (mkF m 34 #[.val (.ref b), .val (.ref lq), .val (.ref r101), .val (.int (1 : Int32)), .val (.ref dc), .unset] [(.ref dc), (.int (1 : Int32))])) rfl rfl (hb hby d_rmAA_34) ?_
    show own_Dn p e below s (fun v h L => ∃ r : Addr, v = some (.int (1 : Int32)) ∧ Fr n0 L ∧ Keep h0 h [b, ea] ∧ own_L Z n0 dc h b (k + 1) r ∧ Sta Z h "java/util/ArrayList" "DEFAULTCAPACITY_EMPTY_ELEMENTDATA" "[Ljava/lang/Object;" (.ref dc) ∧ own_A Z h dc 0) ({ frames := 4, cells := 2, slots := 11, locals := 58 } : Room).cells ({ frames := 4, cells := 2, slots := 11, locals := 58 } : Room).slots (T110.setTop (mkF m 35 #[.val (.ref b), .val (.ref lq), .val (.ref r101), .val (.int (1 : Int32)), .val (.ref dc), .unset] [(.int (0 : Int32)), (.int (1 : Int32))]))
    refine own_st (q' := T110.setTop (mkF m 36 #[.val (.ref b), .val (.ref lq), .val (.ref r101), .val (.int (1 : Int32)), .val (.ref dc), .unset] [(.ref b), (.int (0 : Int32)), (.int (1 : Int32))])) (fun _ k => XS.aloadN X110.here hx rfl (hb hby d_rmAA_35) rfl rfl k) ?_
    have f112 := ((F_sz.keep KK101 nin0).other W106 (Or.inr (sn_0 hw)))
    obtain ⟨T113, X113, e113, st113⟩ := getF X110 hx hZ hown (host := "") (Or.inl (wd_90 hw)) Via.refl e110 f112 (g := (mkF m 36 #[.val (.ref b), .val (.ref lq), .val (.ref r101), .val (.int (1 : Int32)), .val (.ref dc), .unset] [(.ref b), (.int (0 : Int32)), (.int (1 : Int32))])) rfl rfl (hb hby d_rmAA_36)
    refine own_st (q' := T113.setTop (mkF m 39 #[.val (.ref b), .val (.ref lq), .val (.ref r101), .val (.int (1 : Int32)), .val (.ref dc), .unset] [(.int (0 : Int32)), (.int (0 : Int32)), (.int (1 : Int32))])) st113 ?_
    refine own_st (q' := T113.setTop (mkF m 47 #[.val (.ref b), .val (.ref lq), .val (.ref r101), .val (.int (1 : Int32)), .val (.ref dc), .val (.int (0 : Int32))] [(.ref b)])) (fun _ k => XS.dup X113.here hx rfl (hb hby d_rmAA_39) rfl rfl (XS.istore X113.here hx rfl (hb hby d_rmAA_40) rfl (l' := #[.val (.ref b), .val (.ref lq), .val (.ref r101), .val (.int (1 : Int32)), .val (.ref dc), .val (.int (0 : Int32))]) rfl (XS.isub X113.here hx rfl (hb hby d_rmAA_42) rfl (XS.icmpNo X113.here hx rfl (hb hby d_rmAA_43) rfl (tlt ((by decide : (0 : Int32) < (1 : Int32)) : (0 : Int32) < (1 : Int32))).2.2.2 (XS.aloadN X113.here hx rfl (hb hby d_rmAA_46) rfl rfl k))))) ?_
    refine own_st (q' := T113.setTop (mkF m 51 #[.val (.ref b), .val (.ref lq), .val (.ref r101), .val (.int (1 : Int32)), .val (.ref dc), .val (.int (0 : Int32))] [(.int (1 : Int32)), (.ref b)])) (fun _ k => XS.iload X113.here hx rfl (hb hby d_rmAA_47) rfl (XS.iloadN X113.here hx rfl (hb hby d_rmAA_49) rfl (XS.iadd X113.here hx rfl (hb hby d_rmAA_50) rfl k))) ?_
    have f114 := (f105.wr W106)
    have f115 := (q101_2.wr W106)
    refine own_callP (xi := (⟨"java/util/List", "add", "(Ljava/lang/Object;)Z"⟩ : MethodName)) (x := (⟨"java/util/ArrayList", "add", "(Ljava/lang/Object;)Z"⟩ : MethodName)) (y := (⟨"java/util/ArrayList", "grow", "(I)[Ljava/lang/Object;"⟩ : MethodName)) X113 hx hZ hown (wd_102 hw) (wd_104 hw) (wd_82 hw) rfl (wd_103 hw) (wd_11 hw) (wd_106 hw) (by decide) (rmG1 l Z a0 hw [] b dc (mc + (1 : Int32)) h106 n0 (Nat.le_trans (Nat.le_trans Z0 KK101.1) (Keep.of_wr W106).1) f114 g1 F106 f112 f109 f115 f111) e113 f114 (W := 0) (by decide) (by decide) (by decide) (by decide) (g := (mkF m 51 #[.val (.ref b), .val (.ref lq), .val (.ref r101), .val (.int (1 : Int32)), .val (.ref dc), .val (.int (0 : Int32))] [(.int (1 : Int32)), (.ref b)])) rfl (by rw [hml]; rfl) (argsL := [(.int (1 : Int32))]) (rest := []) rfl (lenOf pd_2 rfl) rfl (by show 2 * 0 + _ ≤ _; exact Nat.le_of_eq rfl) (hb hby d_rmAA_51) ?_
    intro v116 T116 L116 hQ116 X116
    obtain ⟨r116, rfl, NN116, KK116, q116_0, q116_1, q116_2, q116_3, q116_4, q116_5, q116_6, q116_7⟩ := hQ116
    have f117 := ((Bar.toA.keep KK101).wr W106)
    have f118 := ((Eq.keep KK101).wr W106)
    have f119 := ((Em.keep KK101).wr W106)
    have N116 := Fr.app N106 NN116
    have K120 : Keep h0 T116.heap [b, ea] := (K107.trans KK116 (allS (Or.inl (List.mem_of_getElem? (i := 0) rfl)) all0))
    show own_Dn p e below s (fun v h L => ∃ r : Addr, v = some (.int (1 : Int32)) ∧ Fr n0 L ∧ Keep h0 h [b, ea] ∧ own_L Z n0 dc h b (k + 1) r ∧ Sta Z h "java/util/ArrayList" "DEFAULTCAPACITY_EMPTY_ELEMENTDATA" "[Ljava/lang/Object;" (.ref dc) ∧ own_A Z h dc 0) ({ frames := 4, cells := 2, slots := 11, locals := 58 } : Room).cells ({ frames := 4, cells := 2, slots := 11, locals := 58 } : Room).slots (T116.setTop (mkF m 54 #[.val (.ref b), .val (.ref lq), .val (.ref r101), .val (.int (1 : Int32)), .val (.ref dc), .val (.int (0 : Int32))] [(.ref r116)]))
    refine own_st (q' := T116.setTop (mkF m 62 #[.val (.ref b), .val (.ref lq), .val (.ref r101), .val (.int (1 : Int32)), .val (.ref r116), .val (.int (0 : Int32))] [(.int (0 : Int32)), (.ref r116), (.int (0 : Int32)), (.ref r101)])) (fun _ k => XS.astore X116.here hx rfl (hb hby d_rmAA_54) rfl rfl (l' := #[.val (.ref b), .val (.ref lq), .val (.ref r101), .val (.int (1 : Int32)), .val (.ref r116), .val (.int (0 : Int32))]) rfl (XS.aloadN X116.here hx rfl (hb hby d_rmAA_56) rfl rfl (XS.iconst X116.here hx rfl (hb hby d_rmAA_57) (XS.aload X116.here hx rfl (hb hby d_rmAA_58) rfl rfl (XS.iload X116.here hx rfl (hb hby d_rmAA_60) rfl k))))) ?_
    refine own_st (q' := T116.setTop (mkF m 63 #[.val (.ref b), .val (.ref lq), .val (.ref r101), .val (.int (1 : Int32)), .val (.ref r116), .val (.int (0 : Int32))] [(.int (1 : Int32)), (.int (0 : Int32)), (.ref r116), (.int (0 : Int32)), (.ref r101)])) (fun _ k => XS.iloadN X116.here hx rfl (hb hby d_rmAA_62) rfl k) ?_
    have f122 := ((q101_1.other W106 (Ne.symm (Nat.ne_of_lt (Nat.lt_of_lt_of_le E1.lt q101_0)))).keep KK116 (ninS (Ne.symm (Nat.ne_of_lt (Nat.lt_of_lt_of_le E1.lt q101_0))) nin0))
    have f123 := (f119.keep KK116)
    obtain ⟨T121, h121, X121, e121, W121, st121⟩ := own_copy1 X116 hx hZ hown (wd_191 hw) (wd_190 hw) (wd_188 hw) (wd_189 hw) (rfl : T116.heap = T116.heap) f122 (by decide) q116_5 f123 (wd_113 hw) (by decide) (by decide) (g := (mkF m 63 #[.val (.ref b), .val (.ref lq), .val (.ref r101), .val (.int (1 : Int32)), .val (.ref r116), .val (.int (0 : Int32))] [(.int (1 : Int32)), (.int (0 : Int32)), (.ref r116), (.int (0 : Int32)), (.ref r101)])) rfl (by rw [hml]; rfl) (rest := []) rfl (hb hby d_rmAA_63) (by decide) (by show 2 * 0 + 0 + (nativeFrameWords "java/lang/System" "arraycopy" 5 + 11) ≤ _; decide +kernel)
    have N121 := Fr.snoc X121 N116 (Nat.le_trans (Nat.le_trans (Nat.le_trans Z0 KK101.1) (Keep.of_wr W106).1) q116_0)
    have K124 : Keep h0 h121 [b, ea] := (K120.wr W121 (Or.inr (Nat.le_trans K107.1 q116_0)))
    have B121 : own_B Z h121 r116 10 ms := own_B.of q116_5 W121
    refine own_st (q' := T121.setTop (mkF m 66 #[.val (.ref b), .val (.ref lq), .val (.ref r101), .val (.int (1 : Int32)), .val (.ref r116), .val (.int (0 : Int32))] [])) st121 ?_
    refine own_st (q' := T121.setTop (mkF m 71 #[.val (.ref b), .val (.ref lq), .val (.ref r101), .val (.int (1 : Int32)), .val (.ref r116), .val (.int (0 : Int32))] [(.int (1 : Int32)), (.ref b)])) (fun _ k => XS.aloadN X121.here hx rfl (hb hby d_rmAA_66) rfl rfl (XS.iload X121.here hx rfl (hb hby d_rmAA_67) rfl (XS.iloadN X121.here hx rfl (hb hby d_rmAA_69) rfl (XS.iadd X121.here hx rfl (hb hby d_rmAA_70) rfl k)))) ?_
    have f125 := (q116_3.other W121 (Or.inl (Nat.ne_of_lt (Nat.lt_of_lt_of_le f114.lt q116_0))))
    have f126 := (q116_1.wr W121)
    obtain ⟨T127, h127, X127, e127, W127, st127⟩ := putF X121 hx hZ hown (host := "") (Or.inl (wd_90 hw)) Via.refl e121 f125 f126 (Or.inl (wd_91 hw)) (wd_10 hw) (ty := .int) (by decide) rfl rfl (g := (mkF m 71 #[.val (.ref b), .val (.ref lq), .val (.ref r101), .val (.int (1 : Int32)), .val (.ref r116), .val (.int (0 : Int32))] [(.int (1 : Int32)), (.ref b)])) rfl rfl (hb hby d_rmAA_71)
    have N127 := Fr.snoc X127 N121 g1
    have K128 : Keep h0 h127 [b, ea] := (K124.wr W127 (Or.inl (List.mem_of_getElem? (i := 0) rfl)))
    have F127 := f125.same W127
    refine own_st (q' := T127.setTop (mkF m 74 #[.val (.ref b), .val (.ref lq), .val (.ref r101), .val (.int (1 : Int32)), .val (.ref r116), .val (.int (0 : Int32))] [])) st127 ?_
    refine own_st (q' := T127.setTop (mkF m 75 #[.val (.ref b), .val (.ref lq), .val (.ref r101), .val (.int (1 : Int32)), .val (.ref r116), .val (.int (0 : Int32))] [(.int (1 : Int32))])) (fun _ k => XS.iconst X127.here hx rfl (hb hby d_rmAA_74) k) ?_
    have f129 := ((q116_2.other W121 (Or.inl (Nat.ne_of_lt (Nat.lt_of_lt_of_le f114.lt q116_0)))).other W127 (Or.inr (sn_4 hw)))
    have f130 := ((q116_4.other W121 (Or.inl (Nat.ne_of_lt (Nat.lt_of_lt_of_le f114.lt q116_0)))).other W127 (Or.inr (sn_5 hw)))
    have f131 := (f126.wr W127)
    have f132 := (B121.other W127 (Ne.symm (Nat.ne_of_lt (Nat.lt_of_lt_of_le f114.lt q116_0))))
    have f133 := ((q116_6.wr W121).wr W127)
    have f134 := ((q116_7.wr W121).wr W127)
    exact own_retN X127 hx hlk (t := .boolean) hret (by simp) (hb hby d_rmAA_75) e127 (by exact ⟨r116, rfl, N127, K128, ⟨f131, g1, _, (1 : Int32), (by decide), (by have : (1 : Int32).toInt = 1 := rfl; omega), f129, F127, f130, Or.inr ⟨(Nat.le_trans (Nat.le_trans (Nat.le_trans Z0 KK101.1) (Keep.of_wr W106).1) q116_0), f132.toA⟩⟩, f133, f134⟩) (by decide) (by decide)
  · skip
    refine own_st (q' := s₁.setTop (mkF m 1 #[.val (.ref b), .val (.ref lq), .unset, .unset, .unset, .unset] [(.ref lq)])) (fun _ k => XS.aloadN X0.here hx rfl (hb hby d_rmAA_0) rfl rfl k) ?_
    refine own_callF (xi := (⟨"java/util/Collection", "toArray", "()[Ljava/lang/Object;"⟩ : MethodName)) (y := (⟨"java/util/ArrayList", "toArray", "()[Ljava/lang/Object;"⟩ : MethodName)) X0 hx hZ hown (wd_160 hw) (wd_161 hw) (wd_162 hw) (wd_163 hw) (wd_164 hw) (wd_165 hw) (wd_166 hw) (wd_167 hw) (wd_11 hw) (wd_168 hw) (by decide) (rmTA l Z a0 hw [] lq ar ms mir dc h0 n0 Z0 Q_sz Q_ed Bar Mi Em Fs A0) e0 Eq (W := 0) (by decide) (by decide) (by decide) (by decide) (g := (mkF m 1 #[.val (.ref b), .val (.ref lq), .unset, .unset, .unset, .unset] [(.ref lq)])) rfl (by rw [hml]; rfl) (argsL := []) (rest := []) rfl (lenOf pd_3 rfl) rfl (by show 2 * 0 + _ ≤ _; exact Nat.le_of_eq rfl) (hb hby d_rmAA_1) ?_
    intro v135 T135 L135 hQ135 X135
    obtain ⟨r135, rfl, NN135, KK135, q135_0, q135_1, q135_2, q135_3⟩ := hQ135
    have N135 := Fr.app N0 NN135
    have K136 : Keep h0 T135.heap [b, ea] := ((Keep.refl h0 [b, ea]).trans KK135 all0)
    show own_Dn p e below s (fun v h L => ∃ r : Addr, v = some (.int (1 : Int32)) ∧ Fr n0 L ∧ Keep h0 h [b, ea] ∧ own_L Z n0 dc h b (k + 1) r ∧ Sta Z h "java/util/ArrayList" "DEFAULTCAPACITY_EMPTY_ELEMENTDATA" "[Ljava/lang/Object;" (.ref dc) ∧ own_A Z h dc 0) ({ frames := 4, cells := 2, slots := 11, locals := 58 } : Room).cells ({ frames := 4, cells := 2, slots := 11, locals := 58 } : Room).slots (T135.setTop (mkF m 6 #[.val (.ref b), .val (.ref lq), .unset, .unset, .unset, .unset] [(.ref r135)]))
    refine own_st (q' := T135.setTop (mkF m 9 #[.val (.ref b), .val (.ref lq), .val (.ref r135), .unset, .unset, .unset] [(.ref b), (.ref b)])) (fun _ k => XS.astoreN X135.here hx rfl (hb hby d_rmAA_6) rfl rfl (l' := #[.val (.ref b), .val (.ref lq), .val (.ref r135), .unset, .unset, .unset]) rfl (XS.aloadN X135.here hx rfl (hb hby d_rmAA_7) rfl rfl (XS.dup X135.here hx rfl (hb hby d_rmAA_8) rfl rfl k))) ?_
    have f137 := (F_mod.keep KK135 nin0)
    obtain ⟨T138, X138, e138, st138⟩ := getF X135 hx hZ hown (host := "") (Or.inl (wd_88 hw)) (Via.of (wd_89 hw)) (rfl : T135.heap = T135.heap) f137 (g := (mkF m 9 #[.val (.ref b), .val (.ref lq), .val (.ref r135), .unset, .unset, .unset] [(.ref b), (.ref b)])) rfl rfl (hb hby d_rmAA_9)
    refine own_st (q' := T138.setTop (mkF m 12 #[.val (.ref b), .val (.ref lq), .val (.ref r135), .unset, .unset, .unset] [(.int mc), (.ref b)])) st138 ?_
    refine own_st (q' := T138.setTop (mkF m 14 #[.val (.ref b), .val (.ref lq), .val (.ref r135), .unset, .unset, .unset] [(.int (mc + (1 : Int32))), (.ref b)])) (fun _ k => XS.iconst X138.here hx rfl (hb hby d_rmAA_12) (XS.iadd X138.here hx rfl (hb hby d_rmAA_13) rfl k)) ?_
    have f139 := (E1.keep KK135)
    obtain ⟨T140, h140, X140, e140, W140, st140⟩ := putF X138 hx hZ hown (host := "") (Or.inl (wd_88 hw)) (Via.of (wd_89 hw)) e138 f137 f139 (Or.inl (wd_29 hw)) (wd_10 hw) (ty := .int) (by decide) rfl rfl (g := (mkF m 14 #[.val (.ref b), .val (.ref lq), .val (.ref r135), .unset, .unset, .unset] [(.int (mc + (1 : Int32))), (.ref b)])) rfl rfl (hb hby d_rmAA_14)
    have N140 := Fr.snoc X140 N135 g1
    have K141 : Keep h0 h140 [b, ea] := (K136.wr W140 (Or.inl (List.mem_of_getElem? (i := 0) rfl)))
    have F140 := f137.same W140
    refine own_st (q' := T140.setTop (mkF m 17 #[.val (.ref b), .val (.ref lq), .val (.ref r135), .unset, .unset, .unset] [])) st140 ?_
    refine own_st (q' := T140.setTop (mkF m 18 #[.val (.ref b), .val (.ref lq), .val (.ref r135), .unset, .unset, .unset] [(.ref r135)])) (fun _ k => XS.aloadN X140.here hx rfl (hb hby d_rmAA_17) rfl rfl k) ?_
    have f142 := (q135_1.toA.wr W140)
    refine own_lenA X140 hx hZ e140 f142 (w := (1 : Int32)) (by decide) (g := (mkF m 18 #[.val (.ref b), .val (.ref lq), .val (.ref r135), .unset, .unset, .unset] [(.ref r135)])) rfl rfl (hb hby d_rmAA_18) ?_
    show own_Dn p e below s (fun v h L => ∃ r : Addr, v = some (.int (1 : Int32)) ∧ Fr n0 L ∧ Keep h0 h [b, ea] ∧ own_L Z n0 dc h b (k + 1) r ∧ Sta Z h "java/util/ArrayList" "DEFAULTCAPACITY_EMPTY_ELEMENTDATA" "[Ljava/lang/Object;" (.ref dc) ∧ own_A Z h dc 0) ({ frames := 4, cells := 2, slots := 11, locals := 58 } : Room).cells ({ frames := 4, cells := 2, slots := 11, locals := 58 } : Room).slots (T140.setTop (mkF m 19 #[.val (.ref b), .val (.ref lq), .val (.ref r135), .unset, .unset, .unset] [(.int (1 : Int32))]))
    refine own_st (q' := T140.setTop (mkF m 28 #[.val (.ref b), .val (.ref lq), .val (.ref r135), .val (.int (1 : Int32)), .unset, .unset] [(.ref b), (.int (1 : Int32))])) (fun _ k => XS.istoreN X140.here hx rfl (hb hby d_rmAA_19) rfl (l' := #[.val (.ref b), .val (.ref lq), .val (.ref r135), .val (.int (1 : Int32)), .unset, .unset]) rfl (XS.iloadN X140.here hx rfl (hb hby d_rmAA_20) rfl (XS.ifYes X140.here hx rfl (pc0 := 21) (pc' := 26) rfl (hb hby d_rmAA_21) rfl ((if0 _ _).trans (feq ((by decide : ¬ ((1 : Int32) = (0 : Int32))) : ¬ ((1 : Int32) = (0 : Int32)))).2) (by decide) (by decide) (XS.iloadN X140.here hx rfl (hb hby d_rmAA_26) rfl (XS.aloadN X140.here hx rfl (hb hby d_rmAA_27) rfl rfl k))))) ?_
    have f143 := ((F_ed.keep KK135 nin0).other W140 (Or.inr (sn_1 hw)))
    obtain ⟨T144, X144, e144, st144⟩ := getF X140 hx hZ hown (host := "") (Or.inl (wd_31 hw)) Via.refl e140 f143 (g := (mkF m 28 #[.val (.ref b), .val (.ref lq), .val (.ref r135), .val (.int (1 : Int32)), .unset, .unset] [(.ref b), (.int (1 : Int32))])) rfl rfl (hb hby d_rmAA_28)
    refine own_st (q' := T144.setTop (mkF m 31 #[.val (.ref b), .val (.ref lq), .val (.ref r135), .val (.int (1 : Int32)), .unset, .unset] [(.ref ea), (.int (1 : Int32))])) st144 ?_
    refine own_st (q' := T144.setTop (mkF m 34 #[.val (.ref b), .val (.ref lq), .val (.ref r135), .val (.int (1 : Int32)), .val (.ref ea), .unset] [(.ref ea), (.int (1 : Int32))])) (fun _ k => XS.dup X144.here hx rfl (hb hby d_rmAA_31) rfl rfl (XS.astore X144.here hx rfl (hb hby d_rmAA_32) rfl rfl (l' := #[.val (.ref b), .val (.ref lq), .val (.ref r135), .val (.int (1 : Int32)), .val (.ref ea), .unset]) rfl k)) ?_
    have f145 := ((Aea.keep KK135).wr W140)
    refine own_lenA X144 hx hZ e144 f145 (w := (10 : Int32)) (by decide) (g := (mkF m 34 #[.val (.ref b), .val (.ref lq), .val (.ref r135), .val (.int (1 : Int32)), .val (.ref ea), .unset] [(.ref ea), (.int (1 : Int32))])) rfl rfl (hb hby d_rmAA_34) ?_
    show own_Dn p e below s (fun v h L => ∃ r : Addr, v = some (.int (1 : Int32)) ∧ Fr n0 L ∧ Keep h0 h [b, ea] ∧ own_L Z n0 dc h b (k + 1) r ∧ Sta Z h "java/util/ArrayList" "DEFAULTCAPACITY_EMPTY_ELEMENTDATA" "[Ljava/lang/Object;" (.ref dc) ∧ own_A Z h dc 0) ({ frames := 4, cells := 2, slots := 11, locals := 58 } : Room).cells ({ frames := 4, cells := 2, slots := 11, locals := 58 } : Room).slots (T144.setTop (mkF m 35 #[.val (.ref b), .val (.ref lq), .val (.ref r135), .val (.int (1 : Int32)), .val (.ref ea), .unset] [(.int (10 : Int32)), (.int (1 : Int32))]))
    refine own_st (q' := T144.setTop (mkF m 36 #[.val (.ref b), .val (.ref lq), .val (.ref r135), .val (.int (1 : Int32)), .val (.ref ea), .unset] [(.ref b), (.int (10 : Int32)), (.int (1 : Int32))])) (fun _ k => XS.aloadN X144.here hx rfl (hb hby d_rmAA_35) rfl rfl k) ?_
    have f146 := ((F_sz.keep KK135 nin0).other W140 (Or.inr (sn_0 hw)))
    obtain ⟨T147, X147, e147, st147⟩ := getF X144 hx hZ hown (host := "") (Or.inl (wd_90 hw)) Via.refl e144 f146 (g := (mkF m 36 #[.val (.ref b), .val (.ref lq), .val (.ref r135), .val (.int (1 : Int32)), .val (.ref ea), .unset] [(.ref b), (.int (10 : Int32)), (.int (1 : Int32))])) rfl rfl (hb hby d_rmAA_36)
    refine own_st (q' := T147.setTop (mkF m 39 #[.val (.ref b), .val (.ref lq), .val (.ref r135), .val (.int (1 : Int32)), .val (.ref ea), .unset] [(.int n), (.int (10 : Int32)), (.int (1 : Int32))])) st147 ?_
    refine own_st (q' := T147.setTop (mkF m 57 #[.val (.ref b), .val (.ref lq), .val (.ref r135), .val (.int (1 : Int32)), .val (.ref ea), .val (.int n)] [(.ref r135)])) (fun _ k => XS.dup X147.here hx rfl (hb hby d_rmAA_39) rfl rfl (XS.istore X147.here hx rfl (hb hby d_rmAA_40) rfl (l' := #[.val (.ref b), .val (.ref lq), .val (.ref r135), .val (.int (1 : Int32)), .val (.ref ea), .val (.int n)]) rfl (XS.isub X147.here hx rfl (hb hby d_rmAA_42) rfl (XS.icmpYes X147.here hx rfl (pc0 := 43) (pc' := 56) rfl (hb hby d_rmAA_43) rfl (flt (own_10n hn0 (by omega) : ¬ (((10 : Int32) - n) < (1 : Int32)))).2.2.2 (by decide) (by decide) (XS.aloadN X147.here hx rfl (hb hby d_rmAA_56) rfl rfl k))))) ?_
    refine own_st (q' := T147.setTop (mkF m 63 #[.val (.ref b), .val (.ref lq), .val (.ref r135), .val (.int (1 : Int32)), .val (.ref ea), .val (.int n)] [(.int (1 : Int32)), (.int n), (.ref ea), (.int (0 : Int32)), (.ref r135)])) (fun _ k => XS.iconst X147.here hx rfl (hb hby d_rmAA_57) (XS.aload X147.here hx rfl (hb hby d_rmAA_58) rfl rfl (XS.iload X147.here hx rfl (hb hby d_rmAA_60) rfl (XS.iloadN X147.here hx rfl (hb hby d_rmAA_62) rfl k)))) ?_
    have f149 := (q135_1.other W140 (Ne.symm (Nat.ne_of_lt (Nat.lt_of_lt_of_le E1.lt q135_0))))
    have f150 := ((Em.keep KK135).wr W140)
    obtain ⟨T148, h148, X148, e148, W148, st148⟩ := own_copy1 X147 hx hZ hown (wd_191 hw) (wd_190 hw) (wd_188 hw) (wd_189 hw) e147 f149 (by decide) f145 f150 (wd_113 hw) hn0 (by omega) (g := (mkF m 63 #[.val (.ref b), .val (.ref lq), .val (.ref r135), .val (.int (1 : Int32)), .val (.ref ea), .val (.int n)] [(.int (1 : Int32)), (.int n), (.ref ea), (.int (0 : Int32)), (.ref r135)])) rfl (by rw [hml]; rfl) (rest := []) rfl (hb hby d_rmAA_63) (by decide) (by show 2 * 0 + 0 + (nativeFrameWords "java/lang/System" "arraycopy" 5 + 11) ≤ _; decide +kernel)
    have N148 := Fr.snoc X148 N140 gea
    have K151 : Keep h0 h148 [b, ea] := (K141.wr W148 (Or.inl (List.mem_of_getElem? (i := 1) rfl)))
    refine own_st (q' := T148.setTop (mkF m 66 #[.val (.ref b), .val (.ref lq), .val (.ref r135), .val (.int (1 : Int32)), .val (.ref ea), .val (.int n)] [])) st148 ?_
    refine own_st (q' := T148.setTop (mkF m 71 #[.val (.ref b), .val (.ref lq), .val (.ref r135), .val (.int (1 : Int32)), .val (.ref ea), .val (.int n)] [(.int (n + (1 : Int32))), (.ref b)])) (fun _ k => XS.aloadN X148.here hx rfl (hb hby d_rmAA_66) rfl rfl (XS.iload X148.here hx rfl (hb hby d_rmAA_67) rfl (XS.iloadN X148.here hx rfl (hb hby d_rmAA_69) rfl (XS.iadd X148.here hx rfl (hb hby d_rmAA_70) rfl k)))) ?_
    have f152 := (f146.other W148 (Or.inl (Aea.ne E1 (wd_10 hw))))
    have f153 := ((f139.wr W140).wr W148)
    obtain ⟨T154, h154, X154, e154, W154, st154⟩ := putF X148 hx hZ hown (host := "") (Or.inl (wd_90 hw)) Via.refl e148 f152 f153 (Or.inl (wd_91 hw)) (wd_10 hw) (ty := .int) (by decide) rfl rfl (g := (mkF m 71 #[.val (.ref b), .val (.ref lq), .val (.ref r135), .val (.int (1 : Int32)), .val (.ref ea), .val (.int n)] [(.int (n + (1 : Int32))), (.ref b)])) rfl rfl (hb hby d_rmAA_71)
    have N154 := Fr.snoc X154 N148 g1
    have K155 : Keep h0 h154 [b, ea] := (K151.wr W154 (Or.inl (List.mem_of_getElem? (i := 0) rfl)))
    have F154 := f152.same W154
    refine own_st (q' := T154.setTop (mkF m 74 #[.val (.ref b), .val (.ref lq), .val (.ref r135), .val (.int (1 : Int32)), .val (.ref ea), .val (.int n)] [])) st154 ?_
    refine own_st (q' := T154.setTop (mkF m 75 #[.val (.ref b), .val (.ref lq), .val (.ref r135), .val (.int (1 : Int32)), .val (.ref ea), .val (.int n)] [(.int (1 : Int32))])) (fun _ k => XS.iconst X154.here hx rfl (hb hby d_rmAA_74) k) ?_
    have f156 := ((F140.other W148 (Or.inl (Aea.ne E1 (wd_10 hw)))).other W154 (Or.inr (sn_4 hw)))
    have f157 := ((f143.other W148 (Or.inl (Aea.ne E1 (wd_10 hw)))).other W154 (Or.inr (sn_5 hw)))
    have f158 := (f153.wr W154)
    have f159 := ((f145.wr W148).wr W154)
    have f160 := (((q135_2.wr W140).wr W148).wr W154)
    have f161 := (((q135_3.wr W140).wr W148).wr W154)
    exact own_retN X154 hx hlk (t := .boolean) hret (by simp) (hb hby d_rmAA_75) e154 (by exact ⟨ea, rfl, N154, K155, ⟨f158, g1, _, _, (own_inc hn0 hn1 (by omega)).1, (own_inc hn0 hn1 (by omega)).2, f156, F154, f157, Or.inr ⟨gea, f159⟩⟩, f160, f161⟩) (by decide) (by decide)
theorem pn_4 : plainName "com/example/rock_dove/rockdove/store/UnitOfWork" = true := by first | (simp [plainName, overriddenIn]; done) | decide +kernel
theorem ef_rmUI (m : MethodId) (x0 : Addr) : entryFrame m #[(.ref x0)] 1 = mkF m 0 #[.val (.ref x0)] [] := by first | (simp [entryFrame, mkF, argsToLocals, Value.category]; done) | rfl
theorem wd_6 {a0 : Array Value} {Z : State} (hw : ∀ d ∈ tables_1, d.before a0 Z = true) : Cond.before (Jvm.Cond.methodLink "com/example/rock_dove/rockdove/store/UnitOfWork" (1 : Nat) ({ cls := "java/lang/Object", name := "<init>", desc := "()V" } : Jvm.MethodName)) a0 Z = true := hw _ (List.mem_of_getElem? (i := 6) rfl)
theorem wd_9 {a0 : Array Value} {Z : State} (hw : ∀ d ∈ tables_1, d.before a0 Z = true) : Cond.before (Jvm.Cond.classLink "com/example/rock_dove/rockdove/store/UnitOfWork" (7 : Nat) "java/util/ArrayList") a0 Z = true := hw _ (List.mem_of_getElem? (i := 9) rfl)
theorem wd_12 {a0 : Array Value} {Z : State} (hw : ∀ d ∈ tables_1, d.before a0 Z = true) : Cond.before (Jvm.Cond.methodLink "com/example/rock_dove/rockdove/store/UnitOfWork" (9 : Nat) ({ cls := "java/util/ArrayList", name := "<init>", desc := "()V" } : Jvm.MethodName)) a0 Z = true := hw _ (List.mem_of_getElem? (i := 12) rfl)
theorem wd_13 {a0 : Array Value} {Z : State} (hw : ∀ d ∈ tables_1, d.before a0 Z = true) : Cond.before (Jvm.Cond.instanceMethod ({ cls := "java/util/ArrayList", name := "<init>", desc := "()V" } : Jvm.MethodName)) a0 Z = true := hw _ (List.mem_of_getElem? (i := 13) rfl)
theorem wd_14 {a0 : Array Value} {Z : State} (hw : ∀ d ∈ tables_1, d.before a0 Z = true) : Cond.before (Jvm.Cond.code ({ cls := "java/util/ArrayList", name := "<init>", desc := "()V" } : Jvm.MethodName) jdk_38_method_2_code (1 : Nat) (Option.none : Option Jvm.ClassFile.FieldType)) a0 Z = true := hw _ (List.mem_of_getElem? (i := 14) rfl)
theorem wd_33 {a0 : Array Value} {Z : State} (hw : ∀ d ∈ tables_1, d.before a0 Z = true) : Cond.before (Jvm.Cond.fieldLink "com/example/rock_dove/rockdove/store/UnitOfWork" (10 : Nat) "com/example/rock_dove/rockdove/store/UnitOfWork" "puts" "Ljava/util/List;") a0 Z = true := hw _ (List.mem_of_getElem? (i := 33) rfl)
theorem wd_1 {a0 : Array Value} {Z : State} (hw : ∀ d ∈ tables_1, d.before a0 Z = true) : Cond.before (Jvm.Cond.instantiable "com/example/rock_dove/rockdove/store/UnitOfWork" (5 : Nat)) a0 Z = true := hw _ (List.mem_of_getElem? (i := 1) rfl)
theorem wd_34 {a0 : Array Value} {Z : State} (hw : ∀ d ∈ tables_1, d.before a0 Z = true) : Cond.before (Jvm.Cond.laysFinal "com/example/rock_dove/rockdove/store/UnitOfWork" "com/example/rock_dove/rockdove/store/UnitOfWork" "puts" "Ljava/util/List;") a0 Z = true := hw _ (List.mem_of_getElem? (i := 34) rfl)
theorem wd_35 {a0 : Array Value} {Z : State} (hw : ∀ d ∈ tables_1, d.before a0 Z = true) : Cond.before (Jvm.Cond.fieldLink "com/example/rock_dove/rockdove/store/UnitOfWork" (16 : Nat) "com/example/rock_dove/rockdove/store/UnitOfWork" "removals" "Ljava/util/List;") a0 Z = true := hw _ (List.mem_of_getElem? (i := 35) rfl)
theorem wd_36 {a0 : Array Value} {Z : State} (hw : ∀ d ∈ tables_1, d.before a0 Z = true) : Cond.before (Jvm.Cond.laysFinal "com/example/rock_dove/rockdove/store/UnitOfWork" "com/example/rock_dove/rockdove/store/UnitOfWork" "removals" "Ljava/util/List;") a0 Z = true := hw _ (List.mem_of_getElem? (i := 36) rfl)
theorem sn_6 {a0 : Array Value} {Z : State} (hw : ∀ d ∈ tables_1, d.before a0 Z = true) : Jvm.RoadKit.slotOf Z "com/example/rock_dove/rockdove/store/UnitOfWork" "removals" "Ljava/util/List;" ≠ Jvm.RoadKit.slotOf Z "com/example/rock_dove/rockdove/store/UnitOfWork" "puts" "Ljava/util/List;" := slot_ne (Or.inr (wd_36 hw)) (Or.inr (wd_34 hw)) (by decide) (t := (.object "java/util/List")) (t' := (.object "java/util/List")) (by decide) (by decide)
theorem sn_7 {a0 : Array Value} {Z : State} (hw : ∀ d ∈ tables_1, d.before a0 Z = true) : Jvm.RoadKit.slotOf Z "com/example/rock_dove/rockdove/store/UnitOfWork" "puts" "Ljava/util/List;" ≠ Jvm.RoadKit.slotOf Z "com/example/rock_dove/rockdove/store/UnitOfWork" "removals" "Ljava/util/List;" := slot_ne (Or.inr (wd_34 hw)) (Or.inr (wd_36 hw)) (by decide) (t := (.object "java/util/List")) (t' := (.object "java/util/List")) (by decide) (by decide)
theorem wd_43 {a0 : Array Value} {Z : State} (hw : ∀ d ∈ tables_1, d.before a0 Z = true) : Cond.before (Jvm.Cond.lays "com/example/rock_dove/rockdove/store/UnitOfWork" "com/example/rock_dove/rockdove/store/UnitOfWork" "persistentPuts" "I") a0 Z = true := hw _ (List.mem_of_getElem? (i := 43) rfl)
theorem sn_8 {a0 : Array Value} {Z : State} (hw : ∀ d ∈ tables_1, d.before a0 Z = true) : Jvm.RoadKit.slotOf Z "com/example/rock_dove/rockdove/store/UnitOfWork" "persistentPuts" "I" ≠ Jvm.RoadKit.slotOf Z "com/example/rock_dove/rockdove/store/UnitOfWork" "puts" "Ljava/util/List;" := slot_ne (Or.inl (wd_43 hw)) (Or.inr (wd_34 hw)) (by decide) (t := .int) (t' := (.object "java/util/List")) (by decide) (by decide)
theorem sn_9 {a0 : Array Value} {Z : State} (hw : ∀ d ∈ tables_1, d.before a0 Z = true) : Jvm.RoadKit.slotOf Z "com/example/rock_dove/rockdove/store/UnitOfWork" "persistentPuts" "I" ≠ Jvm.RoadKit.slotOf Z "com/example/rock_dove/rockdove/store/UnitOfWork" "removals" "Ljava/util/List;" := slot_ne (Or.inl (wd_43 hw)) (Or.inr (wd_36 hw)) (by decide) (t := .int) (t' := (.object "java/util/List")) (by decide) (by decide)
theorem wd_45 {a0 : Array Value} {Z : State} (hw : ∀ d ∈ tables_1, d.before a0 Z = true) : Cond.before (Jvm.Cond.lays "com/example/rock_dove/rockdove/store/UnitOfWork" "com/example/rock_dove/rockdove/store/UnitOfWork" "persistentRemovals" "I") a0 Z = true := hw _ (List.mem_of_getElem? (i := 45) rfl)
theorem sn_10 {a0 : Array Value} {Z : State} (hw : ∀ d ∈ tables_1, d.before a0 Z = true) : Jvm.RoadKit.slotOf Z "com/example/rock_dove/rockdove/store/UnitOfWork" "persistentRemovals" "I" ≠ Jvm.RoadKit.slotOf Z "com/example/rock_dove/rockdove/store/UnitOfWork" "puts" "Ljava/util/List;" := slot_ne (Or.inl (wd_45 hw)) (Or.inr (wd_34 hw)) (by decide) (t := .int) (t' := (.object "java/util/List")) (by decide) (by decide)
theorem sn_11 {a0 : Array Value} {Z : State} (hw : ∀ d ∈ tables_1, d.before a0 Z = true) : Jvm.RoadKit.slotOf Z "com/example/rock_dove/rockdove/store/UnitOfWork" "persistentRemovals" "I" ≠ Jvm.RoadKit.slotOf Z "com/example/rock_dove/rockdove/store/UnitOfWork" "removals" "Ljava/util/List;" := slot_ne (Or.inl (wd_45 hw)) (Or.inr (wd_36 hw)) (by decide) (t := .int) (t' := (.object "java/util/List")) (by decide) (by decide)
theorem wd_133 {a0 : Array Value} {Z : State} (hw : ∀ d ∈ tables_1, d.before a0 Z = true) : Cond.before (Jvm.Cond.lays "com/example/rock_dove/rockdove/store/UnitOfWork" "com/example/rock_dove/rockdove/store/UnitOfWork" "id" "J") a0 Z = true := hw _ (List.mem_of_getElem? (i := 133) rfl)
theorem sn_12 {a0 : Array Value} {Z : State} (hw : ∀ d ∈ tables_1, d.before a0 Z = true) : Jvm.RoadKit.slotOf Z "com/example/rock_dove/rockdove/store/UnitOfWork" "id" "J" ≠ Jvm.RoadKit.slotOf Z "com/example/rock_dove/rockdove/store/UnitOfWork" "puts" "Ljava/util/List;" := slot_ne (Or.inl (wd_133 hw)) (Or.inr (wd_34 hw)) (by decide) (t := .long) (t' := (.object "java/util/List")) (by decide) (by decide)
theorem sn_13 {a0 : Array Value} {Z : State} (hw : ∀ d ∈ tables_1, d.before a0 Z = true) : Jvm.RoadKit.slotOf Z "com/example/rock_dove/rockdove/store/UnitOfWork" "id" "J" ≠ Jvm.RoadKit.slotOf Z "com/example/rock_dove/rockdove/store/UnitOfWork" "removals" "Ljava/util/List;" := slot_ne (Or.inl (wd_133 hw)) (Or.inr (wd_36 hw)) (by decide) (t := .long) (t' := (.object "java/util/List")) (by decide) (by decide)
theorem d_rmUI_0 : decode prog_78_method_1_code 0 = .ok (.aload_n 0, 1) := by decide +kernel
theorem d_rmUI_1 : decode prog_78_method_1_code 1 = .ok (.invokespecial 1, 3) := by decide +kernel
theorem d_rmUI_4 : decode prog_78_method_1_code 4 = .ok (.aload_n 0, 1) := by decide +kernel
theorem d_rmUI_5 : decode prog_78_method_1_code 5 = .ok (.new 7, 3) := by decide +kernel
theorem d_rmUI_8 : decode prog_78_method_1_code 8 = .ok (.dup, 1) := by decide +kernel
theorem d_rmUI_9 : decode prog_78_method_1_code 9 = .ok (.invokespecial 9, 3) := by decide +kernel
theorem d_rmUI_12 : decode prog_78_method_1_code 12 = .ok (.putfield 10, 3) := by decide +kernel
theorem d_rmUI_15 : decode prog_78_method_1_code 15 = .ok (.aload_n 0, 1) := by decide +kernel
theorem d_rmUI_16 : decode prog_78_method_1_code 16 = .ok (.new 7, 3) := by decide +kernel
theorem d_rmUI_19 : decode prog_78_method_1_code 19 = .ok (.dup, 1) := by decide +kernel
theorem d_rmUI_20 : decode prog_78_method_1_code 20 = .ok (.invokespecial 9, 3) := by decide +kernel
theorem d_rmUI_23 : decode prog_78_method_1_code 23 = .ok (.putfield 16, 3) := by decide +kernel
theorem d_rmUI_26 : decode prog_78_method_1_code 26 = .ok (.return_, 1) := by decide +kernel
set_option maxRecDepth 65536 in
set_option maxHeartbeats 40000000 in
theorem rmUI (l : Launch) (Z : State) (a0 : Array Value) (hw : ∀ d ∈ tables_1, d.before a0 Z = true) (ws : List Jvm.Cond) (u dc : Addr) (h0 : Heap) (n0 : Nat) (Z0 : n0 ≤ h0.size) (EU : Exa Z h0 u "com/example/rock_dove/rockdove/store/UnitOfWork") (gU : n0 ≤ u) (U_puts : Fld Z h0 u "com/example/rock_dove/rockdove/store/UnitOfWork" "puts" "Ljava/util/List;" .null) (U_removals : Fld Z h0 u "com/example/rock_dove/rockdove/store/UnitOfWork" "removals" "Ljava/util/List;" .null) (U_persistentPuts : Fld Z h0 u "com/example/rock_dove/rockdove/store/UnitOfWork" "persistentPuts" "I" (.int (0 : Int32))) (U_persistentRemovals : Fld Z h0 u "com/example/rock_dove/rockdove/store/UnitOfWork" "persistentRemovals" "I" (.int (0 : Int32))) (U_id : Fld Z h0 u "com/example/rock_dove/rockdove/store/UnitOfWork" "id" "J" (.long (0 : Int64))) (Fs : Sta Z h0 "java/util/ArrayList" "DEFAULTCAPACITY_EMPTY_ELEMENTDATA" "[Ljava/lang/Object;" (.ref dc)) (A0 : own_A Z h0 dc 0) :
    own_Met l Z (⟨"com/example/rock_dove/rockdove/store/UnitOfWork", "<init>", "()V"⟩ : MethodName) ws prog_78_method_1_code 1 none ({ frames := 4, cells := 2, slots := 6, locals := 50 } : Room) #[(.ref u)] h0 (fun v h L => ∃ L1 L2 : Addr, v = none ∧ Fr n0 L ∧ Keep h0 h [u] ∧ h0.size ≤ L1 ∧ h0.size ≤ L2 ∧ L1 ≠ L2 ∧ Exa Z h u "com/example/rock_dove/rockdove/store/UnitOfWork" ∧ Fld Z h u "com/example/rock_dove/rockdove/store/UnitOfWork" "puts" "Ljava/util/List;" (.ref L1) ∧ Fld Z h u "com/example/rock_dove/rockdove/store/UnitOfWork" "removals" "Ljava/util/List;" (.ref L2) ∧ Fld Z h u "com/example/rock_dove/rockdove/store/UnitOfWork" "persistentPuts" "I" (.int (0 : Int32)) ∧ Fld Z h u "com/example/rock_dove/rockdove/store/UnitOfWork" "persistentRemovals" "I" (.int (0 : Int32)) ∧ Fld Z h u "com/example/rock_dove/rockdove/store/UnitOfWork" "id" "J" (.long (0 : Int64)) ∧ own_F Z n0 dc h L1 ∧ own_F Z n0 dc h L2 ∧ Sta Z h "java/util/ArrayList" "DEFAULTCAPACITY_EMPTY_ELEMENTDATA" "[Ljava/lang/Object;" (.ref dc) ∧ own_A Z h dc 0) := by
  refine own_body (y := (⟨"com/example/rock_dove/rockdove/store/UnitOfWork", "<init>", "()V"⟩ : MethodName)) (plainFor_of_name pn_4) ?_
  intro p e s m below meth c s₁ hx hby hml hown hnm hret hlk hZ X0 e0
  have hml : c.maxLocals = 1 := hml
  have hown : s.vm.findClass "com/example/rock_dove/rockdove/store/UnitOfWork" = some m.cls := hown
  have N0 := Fr.nil n0
  refine own_entry (ef_rmUI m u) ?_
  show own_Dn p e below s (fun v h L => ∃ L1 L2 : Addr, v = none ∧ Fr n0 L ∧ Keep h0 h [u] ∧ h0.size ≤ L1 ∧ h0.size ≤ L2 ∧ L1 ≠ L2 ∧ Exa Z h u "com/example/rock_dove/rockdove/store/UnitOfWork" ∧ Fld Z h u "com/example/rock_dove/rockdove/store/UnitOfWork" "puts" "Ljava/util/List;" (.ref L1) ∧ Fld Z h u "com/example/rock_dove/rockdove/store/UnitOfWork" "removals" "Ljava/util/List;" (.ref L2) ∧ Fld Z h u "com/example/rock_dove/rockdove/store/UnitOfWork" "persistentPuts" "I" (.int (0 : Int32)) ∧ Fld Z h u "com/example/rock_dove/rockdove/store/UnitOfWork" "persistentRemovals" "I" (.int (0 : Int32)) ∧ Fld Z h u "com/example/rock_dove/rockdove/store/UnitOfWork" "id" "J" (.long (0 : Int64)) ∧ own_F Z n0 dc h L1 ∧ own_F Z n0 dc h L2 ∧ Sta Z h "java/util/ArrayList" "DEFAULTCAPACITY_EMPTY_ELEMENTDATA" "[Ljava/lang/Object;" (.ref dc) ∧ own_A Z h dc 0) ({ frames := 4, cells := 2, slots := 6, locals := 50 } : Room).cells ({ frames := 4, cells := 2, slots := 6, locals := 50 } : Room).slots (s₁.setTop (mkF m 0 #[.val (.ref u)] []))
  refine own_st (q' := s₁.setTop (mkF m 1 #[.val (.ref u)] [(.ref u)])) (fun _ k => XS.aloadN X0.here hx rfl (hb hby d_rmUI_0) rfl rfl k) ?_
  obtain ⟨T101, X101, e101, st101⟩ := initO X0 hx hZ hown (wd_6 hw) (wd_7 hw) (wd_8 hw) e0 (g := (mkF m 1 #[.val (.ref u)] [(.ref u)])) rfl (by rw [hml]; rfl) rfl (hb hby d_rmUI_1) (by decide) (W := 0) (by show 2 * 0 + _ ≤ _; exact Nat.le_of_eq rfl) (by decide)
  refine own_st (q' := T101.setTop (mkF m 4 #[.val (.ref u)] [])) st101 ?_
  refine own_st (q' := T101.setTop (mkF m 5 #[.val (.ref u)] [(.ref u)])) (fun _ k => XS.aloadN X101.here hx rfl (hb hby d_rmUI_4) rfl rfl k) ?_
  obtain ⟨T102, h102, X102, e102, E102, A102, D102, -, st102⟩ := newO X101 hx hZ hown (wd_9 hw) (wd_10 hw) (wd_11 hw) e101 (g := (mkF m 5 #[.val (.ref u)] [(.ref u)])) rfl (hb hby d_rmUI_5) (by decide) (by decide)
  obtain ⟨b102, g102⟩ : ∃ z, z = h0.size := ⟨_, rfl⟩
  rw [← g102] at A102 D102 st102
  have lt_u_b102 : u < b102 := Nat.lt_of_lt_of_le EU.lt (Nat.le_of_eq g102.symm)
  have lt_dc_b102 : dc < b102 := Nat.lt_of_lt_of_le A0.lt (Nat.le_of_eq g102.symm)
  have ge_b102 : n0 ≤ b102 := Nat.le_trans Z0 (Nat.le_of_eq g102.symm)
  have sz_b102 : h0.size ≤ b102 := Nat.le_trans (Keep.refl h0 [u]).1 (Nat.le_of_eq g102.symm)
  have K103 : Keep h0 h102 [u] := ((Keep.refl h0 [u]).ext E102)
  have F_modCount_b102 : Fld Z h102 b102 "java/util/AbstractList" "modCount" "I" (.int (0 : Int32)) := D102 (Or.inl (wd_29 hw)) (ty := .int) (by decide)
  have F_elementData_b102 : Fld Z h102 b102 "java/util/ArrayList" "elementData" "[Ljava/lang/Object;" .null := D102 (Or.inl (wd_32 hw)) (ty := (.array (.object "java/lang/Object"))) (by decide)
  have F_size_b102 : Fld Z h102 b102 "java/util/ArrayList" "size" "I" (.int (0 : Int32)) := D102 (Or.inl (wd_91 hw)) (ty := .int) (by decide)
  refine own_st (q' := T102.setTop (mkF m 8 #[.val (.ref u)] [(.ref b102), (.ref u)])) st102 ?_
  refine own_st (q' := T102.setTop (mkF m 9 #[.val (.ref u)] [(.ref b102), (.ref b102), (.ref u)])) (fun _ k => XS.dup X102.here hx rfl (hb hby d_rmUI_8) rfl rfl k) ?_
  have f104 := (Fs.ext E102)
  have f105 := (A0.ext E102)
  refine own_callI (y := (⟨"java/util/ArrayList", "<init>", "()V"⟩ : MethodName)) X102 hx hZ hown rfl (wd_12 hw) (wd_13 hw) (wd_11 hw) (wd_14 hw) (by decide) (rmLI l Z a0 hw [] b102 dc h102 n0 (Nat.le_trans Z0 E102.1) A102 ge_b102 F_modCount_b102 F_size_b102 F_elementData_b102 f104 f105) e102 (W := 2) (by decide) (by decide) (by decide) (by decide) (g := (mkF m 9 #[.val (.ref u)] [(.ref b102), (.ref b102), (.ref u)])) rfl (by rw [hml]; rfl) (a := b102) (argsL := []) (rest := [(.ref b102), (.ref u)]) rfl (lenOf pd_0 rfl) rfl (by show 2 * 0 + _ ≤ _; exact Nat.le_of_eq rfl) (hb hby d_rmUI_9) ?_
  intro v106 T106 L106 hQ106 X106
  obtain ⟨rfl, NN106, KK106, q106_0, q106_1, q106_2⟩ := hQ106
  have N106 := Fr.app N0 NN106
  have K107 : Keep h0 T106.heap [u] := (K103.trans KK106 (allS (Or.inr sz_b102) all0))
  show own_Dn p e below s (fun v h L => ∃ L1 L2 : Addr, v = none ∧ Fr n0 L ∧ Keep h0 h [u] ∧ h0.size ≤ L1 ∧ h0.size ≤ L2 ∧ L1 ≠ L2 ∧ Exa Z h u "com/example/rock_dove/rockdove/store/UnitOfWork" ∧ Fld Z h u "com/example/rock_dove/rockdove/store/UnitOfWork" "puts" "Ljava/util/List;" (.ref L1) ∧ Fld Z h u "com/example/rock_dove/rockdove/store/UnitOfWork" "removals" "Ljava/util/List;" (.ref L2) ∧ Fld Z h u "com/example/rock_dove/rockdove/store/UnitOfWork" "persistentPuts" "I" (.int (0 : Int32)) ∧ Fld Z h u "com/example/rock_dove/rockdove/store/UnitOfWork" "persistentRemovals" "I" (.int (0 : Int32)) ∧ Fld Z h u "com/example/rock_dove/rockdove/store/UnitOfWork" "id" "J" (.long (0 : Int64)) ∧ own_F Z n0 dc h L1 ∧ own_F Z n0 dc h L2 ∧ Sta Z h "java/util/ArrayList" "DEFAULTCAPACITY_EMPTY_ELEMENTDATA" "[Ljava/lang/Object;" (.ref dc) ∧ own_A Z h dc 0) ({ frames := 4, cells := 2, slots := 6, locals := 50 } : Room).cells ({ frames := 4, cells := 2, slots := 6, locals := 50 } : Room).slots (T106.setTop (mkF m 12 #[.val (.ref u)] [(.ref b102), (.ref u)]))
  have f108 := ((U_puts.ext E102).keep KK106 (ninS (Nat.ne_of_lt lt_u_b102) nin0))
  have f109 := ((EU.ext E102).keep KK106)
  obtain ⟨T110, h110, X110, e110, W110, st110⟩ := putF X106 hx hZ hown (host := "") (Or.inl (wd_33 hw)) Via.refl (rfl : T106.heap = T106.heap) f108 f109 (Or.inr ⟨(wd_34 hw), rfl, hnm⟩) (wd_1 hw) (ty := (.object "java/util/List")) (by decide) rfl rfl (g := (mkF m 12 #[.val (.ref u)] [(.ref b102), (.ref u)])) rfl rfl (hb hby d_rmUI_12)
  have N110 := Fr.snoc X110 N106 gU
  have K111 : Keep h0 h110 [u] := (K107.wr W110 (Or.inl (List.mem_of_getElem? (i := 0) rfl)))
  have F110 := f108.same W110
  refine own_st (q' := T110.setTop (mkF m 15 #[.val (.ref u)] [])) st110 ?_
  refine own_st (q' := T110.setTop (mkF m 16 #[.val (.ref u)] [(.ref u)])) (fun _ k => XS.aloadN X110.here hx rfl (hb hby d_rmUI_15) rfl rfl k) ?_
  obtain ⟨T112, h112, X112, e112, E112, A112, D112, -, st112⟩ := newO X110 hx hZ hown (wd_9 hw) (wd_10 hw) (wd_11 hw) e110 (g := (mkF m 16 #[.val (.ref u)] [(.ref u)])) rfl (hb hby d_rmUI_16) (by decide) (by decide)
  obtain ⟨b112, g112⟩ : ∃ z, z = h110.size := ⟨_, rfl⟩
  rw [← g112] at A112 D112 st112
  have f113 := (f109.wr W110)
  have lt_u_b112 : u < b112 := Nat.lt_of_lt_of_le f113.lt (Nat.le_of_eq g112.symm)
  have f114 := (q106_2.wr W110)
  have lt_dc_b112 : dc < b112 := Nat.lt_of_lt_of_le f114.lt (Nat.le_of_eq g112.symm)
  have f115 := ((A102.keep KK106).wr W110)
  have lt_b102_b112 : b102 < b112 := Nat.lt_of_lt_of_le f115.lt (Nat.le_of_eq g112.symm)
  have ge_b112 : n0 ≤ b112 := Nat.le_trans (Nat.le_trans (Nat.le_trans (Nat.le_trans Z0 E102.1) KK106.1) (Keep.of_wr W110).1) (Nat.le_of_eq g112.symm)
  have sz_b112 : h0.size ≤ b112 := Nat.le_trans K111.1 (Nat.le_of_eq g112.symm)
  have K116 : Keep h0 h112 [u] := (K111.ext E112)
  have F_modCount_b112 : Fld Z h112 b112 "java/util/AbstractList" "modCount" "I" (.int (0 : Int32)) := D112 (Or.inl (wd_29 hw)) (ty := .int) (by decide)
  have F_elementData_b112 : Fld Z h112 b112 "java/util/ArrayList" "elementData" "[Ljava/lang/Object;" .null := D112 (Or.inl (wd_32 hw)) (ty := (.array (.object "java/lang/Object"))) (by decide)
  have F_size_b112 : Fld Z h112 b112 "java/util/ArrayList" "size" "I" (.int (0 : Int32)) := D112 (Or.inl (wd_91 hw)) (ty := .int) (by decide)
  refine own_st (q' := T112.setTop (mkF m 19 #[.val (.ref u)] [(.ref b112), (.ref u)])) st112 ?_
  refine own_st (q' := T112.setTop (mkF m 20 #[.val (.ref u)] [(.ref b112), (.ref b112), (.ref u)])) (fun _ k => XS.dup X112.here hx rfl (hb hby d_rmUI_19) rfl rfl k) ?_
  have f117 := ((q106_1.wr W110).ext E112)
  have f118 := (f114.ext E112)
  refine own_callI (y := (⟨"java/util/ArrayList", "<init>", "()V"⟩ : MethodName)) X112 hx hZ hown rfl (wd_12 hw) (wd_13 hw) (wd_11 hw) (wd_14 hw) (by decide) (rmLI l Z a0 hw [] b112 dc h112 n0 (Nat.le_trans (Nat.le_trans (Nat.le_trans (Nat.le_trans Z0 E102.1) KK106.1) (Keep.of_wr W110).1) E112.1) A112 ge_b112 F_modCount_b112 F_size_b112 F_elementData_b112 f117 f118) e112 (W := 2) (by decide) (by decide) (by decide) (by decide) (g := (mkF m 20 #[.val (.ref u)] [(.ref b112), (.ref b112), (.ref u)])) rfl (by rw [hml]; rfl) (a := b112) (argsL := []) (rest := [(.ref b112), (.ref u)]) rfl (lenOf pd_0 rfl) rfl (by show 2 * 0 + _ ≤ _; exact Nat.le_of_eq rfl) (hb hby d_rmUI_20) ?_
  intro v119 T119 L119 hQ119 X119
  obtain ⟨rfl, NN119, KK119, q119_0, q119_1, q119_2⟩ := hQ119
  have N119 := Fr.app N110 NN119
  have K120 : Keep h0 T119.heap [u] := (K116.trans KK119 (allS (Or.inr sz_b112) all0))
  show own_Dn p e below s (fun v h L => ∃ L1 L2 : Addr, v = none ∧ Fr n0 L ∧ Keep h0 h [u] ∧ h0.size ≤ L1 ∧ h0.size ≤ L2 ∧ L1 ≠ L2 ∧ Exa Z h u "com/example/rock_dove/rockdove/store/UnitOfWork" ∧ Fld Z h u "com/example/rock_dove/rockdove/store/UnitOfWork" "puts" "Ljava/util/List;" (.ref L1) ∧ Fld Z h u "com/example/rock_dove/rockdove/store/UnitOfWork" "removals" "Ljava/util/List;" (.ref L2) ∧ Fld Z h u "com/example/rock_dove/rockdove/store/UnitOfWork" "persistentPuts" "I" (.int (0 : Int32)) ∧ Fld Z h u "com/example/rock_dove/rockdove/store/UnitOfWork" "persistentRemovals" "I" (.int (0 : Int32)) ∧ Fld Z h u "com/example/rock_dove/rockdove/store/UnitOfWork" "id" "J" (.long (0 : Int64)) ∧ own_F Z n0 dc h L1 ∧ own_F Z n0 dc h L2 ∧ Sta Z h "java/util/ArrayList" "DEFAULTCAPACITY_EMPTY_ELEMENTDATA" "[Ljava/lang/Object;" (.ref dc) ∧ own_A Z h dc 0) ({ frames := 4, cells := 2, slots := 6, locals := 50 } : Room).cells ({ frames := 4, cells := 2, slots := 6, locals := 50 } : Room).slots (T119.setTop (mkF m 23 #[.val (.ref u)] [(.ref b112), (.ref u)]))
  have f121 := (((((U_removals.ext E102).keep KK106 (ninS (Nat.ne_of_lt lt_u_b102) nin0)).other W110 (Or.inr (sn_6 hw))).ext E112).keep KK119 (ninS (Nat.ne_of_lt lt_u_b112) nin0))
  have f122 := ((f113.ext E112).keep KK119)
  obtain ⟨T123, h123, X123, e123, W123, st123⟩ := putF X119 hx hZ hown (host := "") (Or.inl (wd_35 hw)) Via.refl (rfl : T119.heap = T119.heap) f121 f122 (Or.inr ⟨(wd_36 hw), rfl, hnm⟩) (wd_1 hw) (ty := (.object "java/util/List")) (by decide) rfl rfl (g := (mkF m 23 #[.val (.ref u)] [(.ref b112), (.ref u)])) rfl rfl (hb hby d_rmUI_23)
  have N123 := Fr.snoc X123 N119 gU
  have K124 : Keep h0 h123 [u] := (K120.wr W123 (Or.inl (List.mem_of_getElem? (i := 0) rfl)))
  have F123 := f121.same W123
  refine own_st (q' := T123.setTop (mkF m 26 #[.val (.ref u)] [])) st123 ?_
  have f125 := (f122.wr W123)
  have f126 := (((F110.ext E112).keep KK119 (ninS (Nat.ne_of_lt lt_u_b112) nin0)).other W123 (Or.inr (sn_7 hw)))
  have f127 := ((((((U_persistentPuts.ext E102).keep KK106 (ninS (Nat.ne_of_lt lt_u_b102) nin0)).other W110 (Or.inr (sn_8 hw))).ext E112).keep KK119 (ninS (Nat.ne_of_lt lt_u_b112) nin0)).other W123 (Or.inr (sn_9 hw)))
  have f128 := ((((((U_persistentRemovals.ext E102).keep KK106 (ninS (Nat.ne_of_lt lt_u_b102) nin0)).other W110 (Or.inr (sn_10 hw))).ext E112).keep KK119 (ninS (Nat.ne_of_lt lt_u_b112) nin0)).other W123 (Or.inr (sn_11 hw)))
  have f129 := ((((((U_id.ext E102).keep KK106 (ninS (Nat.ne_of_lt lt_u_b102) nin0)).other W110 (Or.inr (sn_12 hw))).ext E112).keep KK119 (ninS (Nat.ne_of_lt lt_u_b112) nin0)).other W123 (Or.inr (sn_13 hw)))
  have f130 := ((((q106_0.other W110 (Ne.symm (Nat.ne_of_lt lt_u_b102))).ext E112).keep KK119 (ninS (Nat.ne_of_lt lt_b102_b112) nin0)).other W123 (Ne.symm (Nat.ne_of_lt lt_u_b102)))
  have f131 := (q119_0.other W123 (Ne.symm (Nat.ne_of_lt lt_u_b112)))
  have f132 := (q119_1.wr W123)
  have f133 := (q119_2.wr W123)
  exact own_retV X123 hx hlk hret (hb hby d_rmUI_26) e123 (by exact ⟨_, _, rfl, N123, K124, sz_b102, sz_b112, (Nat.ne_of_lt lt_b102_b112), f125, f126, F123, f127, f128, f129, f130, f131, f132, f133⟩) (by decide) (by decide)
theorem ef_rmHP (m : MethodId) (x0 : Addr) : entryFrame m #[(.ref x0)] 1 = mkF m 0 #[.val (.ref x0)] [] := by first | (simp [entryFrame, mkF, argsToLocals, Value.category]; done) | rfl
theorem wd_42 {a0 : Array Value} {Z : State} (hw : ∀ d ∈ tables_1, d.before a0 Z = true) : Cond.before (Jvm.Cond.fieldLink "com/example/rock_dove/rockdove/store/UnitOfWork" (29 : Nat) "com/example/rock_dove/rockdove/store/UnitOfWork" "persistentPuts" "I") a0 Z = true := hw _ (List.mem_of_getElem? (i := 42) rfl)
theorem wd_44 {a0 : Array Value} {Z : State} (hw : ∀ d ∈ tables_1, d.before a0 Z = true) : Cond.before (Jvm.Cond.fieldLink "com/example/rock_dove/rockdove/store/UnitOfWork" (33 : Nat) "com/example/rock_dove/rockdove/store/UnitOfWork" "persistentRemovals" "I") a0 Z = true := hw _ (List.mem_of_getElem? (i := 44) rfl)
theorem d_rmHP_0 : decode prog_78_method_5_code 0 = .ok (.aload_n 0, 1) := by decide +kernel
theorem d_rmHP_1 : decode prog_78_method_5_code 1 = .ok (.getfield 29, 3) := by decide +kernel
theorem d_rmHP_4 : decode prog_78_method_5_code 4 = .ok (.ifCond .gt 10, 3) := by decide +kernel
theorem d_rmHP_7 : decode prog_78_method_5_code 7 = .ok (.aload_n 0, 1) := by decide +kernel
theorem d_rmHP_8 : decode prog_78_method_5_code 8 = .ok (.getfield 33, 3) := by decide +kernel
theorem d_rmHP_11 : decode prog_78_method_5_code 11 = .ok (.ifCond .le 7, 3) := by decide +kernel
theorem d_rmHP_14 : decode prog_78_method_5_code 14 = .ok (.iconst 1, 1) := by decide +kernel
theorem d_rmHP_15 : decode prog_78_method_5_code 15 = .ok (.goto 4, 3) := by decide +kernel
theorem d_rmHP_18 : decode prog_78_method_5_code 18 = .ok (.iconst 0, 1) := by decide +kernel
theorem d_rmHP_19 : decode prog_78_method_5_code 19 = .ok (.ireturn, 1) := by decide +kernel
set_option maxRecDepth 65536 in
set_option maxHeartbeats 40000000 in
theorem rmHP (l : Launch) (Z : State) (a0 : Array Value) (hw : ∀ d ∈ tables_1, d.before a0 Z = true) (ws : List Jvm.Cond) (u : Addr) (pp pr : Int32) (h0 : Heap) (n0 : Nat) (Z0 : n0 ≤ h0.size) (F1 : Fld Z h0 u "com/example/rock_dove/rockdove/store/UnitOfWork" "persistentPuts" "I" (.int pp)) (F2 : Fld Z h0 u "com/example/rock_dove/rockdove/store/UnitOfWork" "persistentRemovals" "I" (.int pr)) :
    own_Met l Z (⟨"com/example/rock_dove/rockdove/store/UnitOfWork", "holdsPersistent", "()Z"⟩ : MethodName) ws prog_78_method_5_code 1 (some .boolean) ({ frames := 0, cells := 0, slots := 0, locals := 0 } : Room) #[(.ref u)] h0 (fun v h L => v = some (.int (own_hp pp pr)) ∧ Fr n0 L ∧ h = h0) := by
  refine own_body (y := (⟨"com/example/rock_dove/rockdove/store/UnitOfWork", "holdsPersistent", "()Z"⟩ : MethodName)) (plainFor_of_name pn_4) ?_
  intro p e s m below meth c s₁ hx hby hml hown hnm hret hlk hZ X0 e0
  have hml : c.maxLocals = 1 := hml
  have hown : s.vm.findClass "com/example/rock_dove/rockdove/store/UnitOfWork" = some m.cls := hown
  have N0 := Fr.nil n0
  refine own_entry (ef_rmHP m u) ?_
  show own_Dn p e below s (fun v h L => v = some (.int (own_hp pp pr)) ∧ Fr n0 L ∧ h = h0) ({ frames := 0, cells := 0, slots := 0, locals := 0 } : Room).cells ({ frames := 0, cells := 0, slots := 0, locals := 0 } : Room).slots (s₁.setTop (mkF m 0 #[.val (.ref u)] []))
  refine own_st (q' := s₁.setTop (mkF m 1 #[.val (.ref u)] [(.ref u)])) (fun _ k => XS.aloadN X0.here hx rfl (hb hby d_rmHP_0) rfl rfl k) ?_
  obtain ⟨T101, X101, e101, st101⟩ := getF X0 hx hZ hown (host := "") (Or.inl (wd_42 hw)) Via.refl e0 F1 (g := (mkF m 1 #[.val (.ref u)] [(.ref u)])) rfl rfl (hb hby d_rmHP_1)
  refine own_st (q' := T101.setTop (mkF m 4 #[.val (.ref u)] [(.int pp)])) st101 ?_
  by_cases hc4_102 : (0 : Int32) < pp
  · skip
    have hc4_102I : (0 : Int) < (pp).toInt := own_ltT hc4_102
    refine own_st (q' := T101.setTop (mkF m 19 #[.val (.ref u)] [(.int (1 : Int32))])) (fun _ k => XS.ifYes X101.here hx rfl (pc0 := 4) (pc' := 14) rfl (hb hby d_rmHP_4) rfl ((if0 _ _).trans (tlt hc4_102).2.2.1) (by decide) (by decide) (XS.iconst X101.here hx rfl (hb hby d_rmHP_14) (XS.goto X101.here hx rfl (pc0 := 15) (pc' := 19) rfl (hb hby d_rmHP_15) (by decide) (by decide) k))) ?_
    exact own_retN X101 hx hlk (t := .boolean) hret (by simp) (hb hby d_rmHP_19) e101 (by exact ⟨(by unfold own_hp; rw [if_pos hc4_102]; rfl), N0, rfl⟩) (by decide) (by decide)
  · skip
    have hc4_102I : (pp).toInt ≤ (0 : Int) := own_ltF hc4_102
    refine own_st (q' := T101.setTop (mkF m 8 #[.val (.ref u)] [(.ref u)])) (fun _ k => XS.ifNo X101.here hx rfl (hb hby d_rmHP_4) rfl ((if0 _ _).trans (flt hc4_102).2.2.1) (XS.aloadN X101.here hx rfl (hb hby d_rmHP_7) rfl rfl k)) ?_
    obtain ⟨T103, X103, e103, st103⟩ := getF X101 hx hZ hown (host := "") (Or.inl (wd_44 hw)) Via.refl e101 F2 (g := (mkF m 8 #[.val (.ref u)] [(.ref u)])) rfl rfl (hb hby d_rmHP_8)
    refine own_st (q' := T103.setTop (mkF m 11 #[.val (.ref u)] [(.int pr)])) st103 ?_
    by_cases hc11_104 : (0 : Int32) < pr
    · skip
      have hc11_104I : (0 : Int) < (pr).toInt := own_ltT hc11_104
      refine own_st (q' := T103.setTop (mkF m 19 #[.val (.ref u)] [(.int (1 : Int32))])) (fun _ k => XS.ifNo X103.here hx rfl (hb hby d_rmHP_11) rfl ((if0 _ _).trans (tlt hc11_104).2.2.2) (XS.iconst X103.here hx rfl (hb hby d_rmHP_14) (XS.goto X103.here hx rfl (pc0 := 15) (pc' := 19) rfl (hb hby d_rmHP_15) (by decide) (by decide) k))) ?_
      exact own_retN X103 hx hlk (t := .boolean) hret (by simp) (hb hby d_rmHP_19) e103 (by exact ⟨(by unfold own_hp; rw [if_neg hc4_102, if_pos hc11_104]; rfl), N0, rfl⟩) (by decide) (by decide)
    · skip
      have hc11_104I : (pr).toInt ≤ (0 : Int) := own_ltF hc11_104
      refine own_st (q' := T103.setTop (mkF m 19 #[.val (.ref u)] [(.int (0 : Int32))])) (fun _ k => XS.ifYes X103.here hx rfl (pc0 := 11) (pc' := 18) rfl (hb hby d_rmHP_11) rfl ((if0 _ _).trans (flt hc11_104).2.2.2) (by decide) (by decide) (XS.iconst X103.here hx rfl (hb hby d_rmHP_18) k)) ?_
      exact own_retN X103 hx hlk (t := .boolean) hret (by simp) (hb hby d_rmHP_19) e103 (by exact ⟨(by unfold own_hp; rw [if_neg hc4_102, if_neg hc11_104]; rfl), N0, rfl⟩) (by decide) (by decide)
theorem pn_5 : plainName "com/example/rock_dove/rockdove/store/Entry" = true := by first | (simp [plainName, overriddenIn]; done) | decide +kernel
theorem ef_rmEI (m : MethodId) (x0 : Addr) : entryFrame m #[(.ref x0)] 1 = mkF m 0 #[.val (.ref x0)] [] := by first | (simp [entryFrame, mkF, argsToLocals, Value.category]; done) | rfl
theorem wd_61 {a0 : Array Value} {Z : State} (hw : ∀ d ∈ tables_1, d.before a0 Z = true) : Cond.before (Jvm.Cond.methodLink "com/example/rock_dove/rockdove/store/Entry" (1 : Nat) ({ cls := "java/lang/Object", name := "<init>", desc := "()V" } : Jvm.MethodName)) a0 Z = true := hw _ (List.mem_of_getElem? (i := 61) rfl)
theorem d_rmEI_0 : decode prog_61_method_1_code 0 = .ok (.aload_n 0, 1) := by decide +kernel
theorem d_rmEI_1 : decode prog_61_method_1_code 1 = .ok (.invokespecial 1, 3) := by decide +kernel
theorem d_rmEI_4 : decode prog_61_method_1_code 4 = .ok (.return_, 1) := by decide +kernel
set_option maxRecDepth 65536 in
set_option maxHeartbeats 40000000 in
theorem rmEI (l : Launch) (Z : State) (a0 : Array Value) (hw : ∀ d ∈ tables_1, d.before a0 Z = true) (ws : List Jvm.Cond) (b : Addr) (h0 : Heap) (n0 : Nat) (Z0 : n0 ≤ h0.size) :
    own_Met l Z (⟨"com/example/rock_dove/rockdove/store/Entry", "<init>", "()V"⟩ : MethodName) ws prog_61_method_1_code 1 none ({ frames := 1, cells := 0, slots := 0, locals := 12 } : Room) #[(.ref b)] h0 (fun v h L => v = none ∧ Fr n0 L ∧ h = h0) := by
  refine own_body (y := (⟨"com/example/rock_dove/rockdove/store/Entry", "<init>", "()V"⟩ : MethodName)) (plainFor_of_name pn_5) ?_
  intro p e s m below meth c s₁ hx hby hml hown hnm hret hlk hZ X0 e0
  have hml : c.maxLocals = 1 := hml
  have hown : s.vm.findClass "com/example/rock_dove/rockdove/store/Entry" = some m.cls := hown
  have N0 := Fr.nil n0
  refine own_entry (ef_rmEI m b) ?_
  show own_Dn p e below s (fun v h L => v = none ∧ Fr n0 L ∧ h = h0) ({ frames := 1, cells := 0, slots := 0, locals := 12 } : Room).cells ({ frames := 1, cells := 0, slots := 0, locals := 12 } : Room).slots (s₁.setTop (mkF m 0 #[.val (.ref b)] []))
  refine own_st (q' := s₁.setTop (mkF m 1 #[.val (.ref b)] [(.ref b)])) (fun _ k => XS.aloadN X0.here hx rfl (hb hby d_rmEI_0) rfl rfl k) ?_
  obtain ⟨T101, X101, e101, st101⟩ := initO X0 hx hZ hown (wd_61 hw) (wd_7 hw) (wd_8 hw) e0 (g := (mkF m 1 #[.val (.ref b)] [(.ref b)])) rfl (by rw [hml]; rfl) rfl (hb hby d_rmEI_1) (by decide) (W := 0) (by show 2 * 0 + _ ≤ _; exact Nat.le_of_eq rfl) (by decide)
  refine own_st (q' := T101.setTop (mkF m 4 #[.val (.ref b)] [])) st101 ?_
  exact own_retV X101 hx hlk hret (hb hby d_rmEI_4) e101 (by exact ⟨rfl, N0, rfl⟩) (by decide) (by decide)
theorem pn_6 : plainName "com/example/rock_dove/rockdove/store/StoredMessage" = true := by first | (simp [plainName, overriddenIn]; done) | decide +kernel
theorem ef_rmSI0 (m : MethodId) (x0 : Addr) (x1 : Int64) (x2 : Int32) (x3 : Int32) (x4 : Int64) (x5 : Int32) (x6 : Int32) : entryFrame m #[(.ref x0), (.long x1), (.int x2), (.int x3), (.long x4), (.int x5), (.int x6)] 9 = mkF m 0 #[.val (.ref x0), .val (.long x1), .second, .val (.int x2), .val (.int x3), .val (.long x4), .second, .val (.int x5), .val (.int x6)] [] := by first | (simp [entryFrame, mkF, argsToLocals, Value.category]; done) | rfl
theorem wd_56 {a0 : Array Value} {Z : State} (hw : ∀ d ∈ tables_1, d.before a0 Z = true) : Cond.before (Jvm.Cond.methodLink "com/example/rock_dove/rockdove/store/StoredMessage" (1 : Nat) ({ cls := "com/example/rock_dove/rockdove/store/Entry", name := "<init>", desc := "()V" } : Jvm.MethodName)) a0 Z = true := hw _ (List.mem_of_getElem? (i := 56) rfl)
theorem wd_57 {a0 : Array Value} {Z : State} (hw : ∀ d ∈ tables_1, d.before a0 Z = true) : Cond.before (Jvm.Cond.instanceMethod ({ cls := "com/example/rock_dove/rockdove/store/Entry", name := "<init>", desc := "()V" } : Jvm.MethodName)) a0 Z = true := hw _ (List.mem_of_getElem? (i := 57) rfl)
theorem wd_59 {a0 : Array Value} {Z : State} (hw : ∀ d ∈ tables_1, d.before a0 Z = true) : Cond.before (Jvm.Cond.initialized "com/example/rock_dove/rockdove/store/Entry") a0 Z = true := hw _ (List.mem_of_getElem? (i := 59) rfl)
theorem wd_60 {a0 : Array Value} {Z : State} (hw : ∀ d ∈ tables_1, d.before a0 Z = true) : Cond.before (Jvm.Cond.code ({ cls := "com/example/rock_dove/rockdove/store/Entry", name := "<init>", desc := "()V" } : Jvm.MethodName) prog_61_method_1_code (1 : Nat) (Option.none : Option Jvm.ClassFile.FieldType)) a0 Z = true := hw _ (List.mem_of_getElem? (i := 60) rfl)
theorem wd_62 {a0 : Array Value} {Z : State} (hw : ∀ d ∈ tables_1, d.before a0 Z = true) : Cond.before (Jvm.Cond.fieldLink "com/example/rock_dove/rockdove/store/StoredMessage" (7 : Nat) "com/example/rock_dove/rockdove/store/StoredMessage" "sequence" "J") a0 Z = true := hw _ (List.mem_of_getElem? (i := 62) rfl)
theorem wd_51 {a0 : Array Value} {Z : State} (hw : ∀ d ∈ tables_1, d.before a0 Z = true) : Cond.before (Jvm.Cond.instantiable "com/example/rock_dove/rockdove/store/StoredMessage" (12 : Nat)) a0 Z = true := hw _ (List.mem_of_getElem? (i := 51) rfl)
theorem wd_63 {a0 : Array Value} {Z : State} (hw : ∀ d ∈ tables_1, d.before a0 Z = true) : Cond.before (Jvm.Cond.laysFinal "com/example/rock_dove/rockdove/store/StoredMessage" "com/example/rock_dove/rockdove/store/StoredMessage" "sequence" "J") a0 Z = true := hw _ (List.mem_of_getElem? (i := 63) rfl)
theorem wd_64 {a0 : Array Value} {Z : State} (hw : ∀ d ∈ tables_1, d.before a0 Z = true) : Cond.before (Jvm.Cond.fieldLink "com/example/rock_dove/rockdove/store/StoredMessage" (13 : Nat) "com/example/rock_dove/rockdove/store/StoredMessage" "objectId" "I") a0 Z = true := hw _ (List.mem_of_getElem? (i := 64) rfl)
theorem wd_65 {a0 : Array Value} {Z : State} (hw : ∀ d ∈ tables_1, d.before a0 Z = true) : Cond.before (Jvm.Cond.laysFinal "com/example/rock_dove/rockdove/store/StoredMessage" "com/example/rock_dove/rockdove/store/StoredMessage" "objectId" "I") a0 Z = true := hw _ (List.mem_of_getElem? (i := 65) rfl)
theorem sn_14 {a0 : Array Value} {Z : State} (hw : ∀ d ∈ tables_1, d.before a0 Z = true) : Jvm.RoadKit.slotOf Z "com/example/rock_dove/rockdove/store/StoredMessage" "objectId" "I" ≠ Jvm.RoadKit.slotOf Z "com/example/rock_dove/rockdove/store/StoredMessage" "sequence" "J" := slot_ne (Or.inr (wd_65 hw)) (Or.inr (wd_63 hw)) (by decide) (t := .int) (t' := .long) (by decide) (by decide)
theorem wd_66 {a0 : Array Value} {Z : State} (hw : ∀ d ∈ tables_1, d.before a0 Z = true) : Cond.before (Jvm.Cond.fieldLink "com/example/rock_dove/rockdove/store/StoredMessage" (17 : Nat) "com/example/rock_dove/rockdove/store/StoredMessage" "persistent" "Z") a0 Z = true := hw _ (List.mem_of_getElem? (i := 66) rfl)
theorem wd_67 {a0 : Array Value} {Z : State} (hw : ∀ d ∈ tables_1, d.before a0 Z = true) : Cond.before (Jvm.Cond.laysFinal "com/example/rock_dove/rockdove/store/StoredMessage" "com/example/rock_dove/rockdove/store/StoredMessage" "persistent" "Z") a0 Z = true := hw _ (List.mem_of_getElem? (i := 67) rfl)
theorem sn_15 {a0 : Array Value} {Z : State} (hw : ∀ d ∈ tables_1, d.before a0 Z = true) : Jvm.RoadKit.slotOf Z "com/example/rock_dove/rockdove/store/StoredMessage" "persistent" "Z" ≠ Jvm.RoadKit.slotOf Z "com/example/rock_dove/rockdove/store/StoredMessage" "sequence" "J" := slot_ne (Or.inr (wd_67 hw)) (Or.inr (wd_63 hw)) (by decide) (t := .boolean) (t' := .long) (by decide) (by decide)
theorem sn_16 {a0 : Array Value} {Z : State} (hw : ∀ d ∈ tables_1, d.before a0 Z = true) : Jvm.RoadKit.slotOf Z "com/example/rock_dove/rockdove/store/StoredMessage" "persistent" "Z" ≠ Jvm.RoadKit.slotOf Z "com/example/rock_dove/rockdove/store/StoredMessage" "objectId" "I" := slot_ne (Or.inr (wd_67 hw)) (Or.inr (wd_65 hw)) (by decide) (t := .boolean) (t' := .int) (by decide) (by decide)
theorem wd_68 {a0 : Array Value} {Z : State} (hw : ∀ d ∈ tables_1, d.before a0 Z = true) : Cond.before (Jvm.Cond.fieldLink "com/example/rock_dove/rockdove/store/StoredMessage" (21 : Nat) "com/example/rock_dove/rockdove/store/StoredMessage" "unit" "J") a0 Z = true := hw _ (List.mem_of_getElem? (i := 68) rfl)
theorem wd_69 {a0 : Array Value} {Z : State} (hw : ∀ d ∈ tables_1, d.before a0 Z = true) : Cond.before (Jvm.Cond.laysFinal "com/example/rock_dove/rockdove/store/StoredMessage" "com/example/rock_dove/rockdove/store/StoredMessage" "unit" "J") a0 Z = true := hw _ (List.mem_of_getElem? (i := 69) rfl)
theorem sn_17 {a0 : Array Value} {Z : State} (hw : ∀ d ∈ tables_1, d.before a0 Z = true) : Jvm.RoadKit.slotOf Z "com/example/rock_dove/rockdove/store/StoredMessage" "unit" "J" ≠ Jvm.RoadKit.slotOf Z "com/example/rock_dove/rockdove/store/StoredMessage" "sequence" "J" := slot_ne (Or.inr (wd_69 hw)) (Or.inr (wd_63 hw)) (by decide) (t := .long) (t' := .long) (by decide) (by decide)
theorem sn_18 {a0 : Array Value} {Z : State} (hw : ∀ d ∈ tables_1, d.before a0 Z = true) : Jvm.RoadKit.slotOf Z "com/example/rock_dove/rockdove/store/StoredMessage" "unit" "J" ≠ Jvm.RoadKit.slotOf Z "com/example/rock_dove/rockdove/store/StoredMessage" "objectId" "I" := slot_ne (Or.inr (wd_69 hw)) (Or.inr (wd_65 hw)) (by decide) (t := .long) (t' := .int) (by decide) (by decide)
theorem sn_19 {a0 : Array Value} {Z : State} (hw : ∀ d ∈ tables_1, d.before a0 Z = true) : Jvm.RoadKit.slotOf Z "com/example/rock_dove/rockdove/store/StoredMessage" "unit" "J" ≠ Jvm.RoadKit.slotOf Z "com/example/rock_dove/rockdove/store/StoredMessage" "persistent" "Z" := slot_ne (Or.inr (wd_69 hw)) (Or.inr (wd_67 hw)) (by decide) (t := .long) (t' := .boolean) (by decide) (by decide)
theorem wd_70 {a0 : Array Value} {Z : State} (hw : ∀ d ∈ tables_1, d.before a0 Z = true) : Cond.before (Jvm.Cond.fieldLink "com/example/rock_dove/rockdove/store/StoredMessage" (24 : Nat) "com/example/rock_dove/rockdove/store/StoredMessage" "descriptorLength" "I") a0 Z = true := hw _ (List.mem_of_getElem? (i := 70) rfl)
theorem wd_71 {a0 : Array Value} {Z : State} (hw : ∀ d ∈ tables_1, d.before a0 Z = true) : Cond.before (Jvm.Cond.laysFinal "com/example/rock_dove/rockdove/store/StoredMessage" "com/example/rock_dove/rockdove/store/StoredMessage" "descriptorLength" "I") a0 Z = true := hw _ (List.mem_of_getElem? (i := 71) rfl)
theorem sn_20 {a0 : Array Value} {Z : State} (hw : ∀ d ∈ tables_1, d.before a0 Z = true) : Jvm.RoadKit.slotOf Z "com/example/rock_dove/rockdove/store/StoredMessage" "descriptorLength" "I" ≠ Jvm.RoadKit.slotOf Z "com/example/rock_dove/rockdove/store/StoredMessage" "sequence" "J" := slot_ne (Or.inr (wd_71 hw)) (Or.inr (wd_63 hw)) (by decide) (t := .int) (t' := .long) (by decide) (by decide)
theorem sn_21 {a0 : Array Value} {Z : State} (hw : ∀ d ∈ tables_1, d.before a0 Z = true) : Jvm.RoadKit.slotOf Z "com/example/rock_dove/rockdove/store/StoredMessage" "descriptorLength" "I" ≠ Jvm.RoadKit.slotOf Z "com/example/rock_dove/rockdove/store/StoredMessage" "objectId" "I" := slot_ne (Or.inr (wd_71 hw)) (Or.inr (wd_65 hw)) (by decide) (t := .int) (t' := .int) (by decide) (by decide)
theorem sn_22 {a0 : Array Value} {Z : State} (hw : ∀ d ∈ tables_1, d.before a0 Z = true) : Jvm.RoadKit.slotOf Z "com/example/rock_dove/rockdove/store/StoredMessage" "descriptorLength" "I" ≠ Jvm.RoadKit.slotOf Z "com/example/rock_dove/rockdove/store/StoredMessage" "persistent" "Z" := slot_ne (Or.inr (wd_71 hw)) (Or.inr (wd_67 hw)) (by decide) (t := .int) (t' := .boolean) (by decide) (by decide)
theorem sn_23 {a0 : Array Value} {Z : State} (hw : ∀ d ∈ tables_1, d.before a0 Z = true) : Jvm.RoadKit.slotOf Z "com/example/rock_dove/rockdove/store/StoredMessage" "descriptorLength" "I" ≠ Jvm.RoadKit.slotOf Z "com/example/rock_dove/rockdove/store/StoredMessage" "unit" "J" := slot_ne (Or.inr (wd_71 hw)) (Or.inr (wd_69 hw)) (by decide) (t := .int) (t' := .long) (by decide) (by decide)
theorem wd_72 {a0 : Array Value} {Z : State} (hw : ∀ d ∈ tables_1, d.before a0 Z = true) : Cond.before (Jvm.Cond.fieldLink "com/example/rock_dove/rockdove/store/StoredMessage" (27 : Nat) "com/example/rock_dove/rockdove/store/StoredMessage" "dataLength" "I") a0 Z = true := hw _ (List.mem_of_getElem? (i := 72) rfl)
theorem wd_73 {a0 : Array Value} {Z : State} (hw : ∀ d ∈ tables_1, d.before a0 Z = true) : Cond.before (Jvm.Cond.laysFinal "com/example/rock_dove/rockdove/store/StoredMessage" "com/example/rock_dove/rockdove/store/StoredMessage" "dataLength" "I") a0 Z = true := hw _ (List.mem_of_getElem? (i := 73) rfl)
theorem sn_24 {a0 : Array Value} {Z : State} (hw : ∀ d ∈ tables_1, d.before a0 Z = true) : Jvm.RoadKit.slotOf Z "com/example/rock_dove/rockdove/store/StoredMessage" "dataLength" "I" ≠ Jvm.RoadKit.slotOf Z "com/example/rock_dove/rockdove/store/StoredMessage" "sequence" "J" := slot_ne (Or.inr (wd_73 hw)) (Or.inr (wd_63 hw)) (by decide) (t := .int) (t' := .long) (by decide) (by decide)
theorem sn_25 {a0 : Array Value} {Z : State} (hw : ∀ d ∈ tables_1, d.before a0 Z = true) : Jvm.RoadKit.slotOf Z "com/example/rock_dove/rockdove/store/StoredMessage" "dataLength" "I" ≠ Jvm.RoadKit.slotOf Z "com/example/rock_dove/rockdove/store/StoredMessage" "objectId" "I" := slot_ne (Or.inr (wd_73 hw)) (Or.inr (wd_65 hw)) (by decide) (t := .int) (t' := .int) (by decide) (by decide)
theorem sn_26 {a0 : Array Value} {Z : State} (hw : ∀ d ∈ tables_1, d.before a0 Z = true) : Jvm.RoadKit.slotOf Z "com/example/rock_dove/rockdove/store/StoredMessage" "dataLength" "I" ≠ Jvm.RoadKit.slotOf Z "com/example/rock_dove/rockdove/store/StoredMessage" "persistent" "Z" := slot_ne (Or.inr (wd_73 hw)) (Or.inr (wd_67 hw)) (by decide) (t := .int) (t' := .boolean) (by decide) (by decide)
theorem sn_27 {a0 : Array Value} {Z : State} (hw : ∀ d ∈ tables_1, d.before a0 Z = true) : Jvm.RoadKit.slotOf Z "com/example/rock_dove/rockdove/store/StoredMessage" "dataLength" "I" ≠ Jvm.RoadKit.slotOf Z "com/example/rock_dove/rockdove/store/StoredMessage" "unit" "J" := slot_ne (Or.inr (wd_73 hw)) (Or.inr (wd_69 hw)) (by decide) (t := .int) (t' := .long) (by decide) (by decide)
theorem sn_28 {a0 : Array Value} {Z : State} (hw : ∀ d ∈ tables_1, d.before a0 Z = true) : Jvm.RoadKit.slotOf Z "com/example/rock_dove/rockdove/store/StoredMessage" "dataLength" "I" ≠ Jvm.RoadKit.slotOf Z "com/example/rock_dove/rockdove/store/StoredMessage" "descriptorLength" "I" := slot_ne (Or.inr (wd_73 hw)) (Or.inr (wd_71 hw)) (by decide) (t := .int) (t' := .int) (by decide) (by decide)
theorem sn_29 {a0 : Array Value} {Z : State} (hw : ∀ d ∈ tables_1, d.before a0 Z = true) : Jvm.RoadKit.slotOf Z "com/example/rock_dove/rockdove/store/StoredMessage" "persistent" "Z" ≠ Jvm.RoadKit.slotOf Z "com/example/rock_dove/rockdove/store/StoredMessage" "unit" "J" := slot_ne (Or.inr (wd_67 hw)) (Or.inr (wd_69 hw)) (by decide) (t := .boolean) (t' := .long) (by decide) (by decide)
theorem sn_30 {a0 : Array Value} {Z : State} (hw : ∀ d ∈ tables_1, d.before a0 Z = true) : Jvm.RoadKit.slotOf Z "com/example/rock_dove/rockdove/store/StoredMessage" "persistent" "Z" ≠ Jvm.RoadKit.slotOf Z "com/example/rock_dove/rockdove/store/StoredMessage" "descriptorLength" "I" := slot_ne (Or.inr (wd_67 hw)) (Or.inr (wd_71 hw)) (by decide) (t := .boolean) (t' := .int) (by decide) (by decide)
theorem sn_31 {a0 : Array Value} {Z : State} (hw : ∀ d ∈ tables_1, d.before a0 Z = true) : Jvm.RoadKit.slotOf Z "com/example/rock_dove/rockdove/store/StoredMessage" "persistent" "Z" ≠ Jvm.RoadKit.slotOf Z "com/example/rock_dove/rockdove/store/StoredMessage" "dataLength" "I" := slot_ne (Or.inr (wd_67 hw)) (Or.inr (wd_73 hw)) (by decide) (t := .boolean) (t' := .int) (by decide) (by decide)
theorem d_rmSI0_0 : decode prog_76_method_1_code 0 = .ok (.aload_n 0, 1) := by decide +kernel
theorem d_rmSI0_1 : decode prog_76_method_1_code 1 = .ok (.invokespecial 1, 3) := by decide +kernel
theorem d_rmSI0_4 : decode prog_76_method_1_code 4 = .ok (.aload_n 0, 1) := by decide +kernel
theorem d_rmSI0_5 : decode prog_76_method_1_code 5 = .ok (.lload_n 1, 1) := by decide +kernel
theorem d_rmSI0_6 : decode prog_76_method_1_code 6 = .ok (.putfield 7, 3) := by decide +kernel
theorem d_rmSI0_9 : decode prog_76_method_1_code 9 = .ok (.aload_n 0, 1) := by decide +kernel
theorem d_rmSI0_10 : decode prog_76_method_1_code 10 = .ok (.iload_n 3, 1) := by decide +kernel
theorem d_rmSI0_11 : decode prog_76_method_1_code 11 = .ok (.putfield 13, 3) := by decide +kernel
theorem d_rmSI0_14 : decode prog_76_method_1_code 14 = .ok (.aload_n 0, 1) := by decide +kernel
theorem d_rmSI0_15 : decode prog_76_method_1_code 15 = .ok (.iload 4, 2) := by decide +kernel
theorem d_rmSI0_17 : decode prog_76_method_1_code 17 = .ok (.putfield 17, 3) := by decide +kernel
theorem d_rmSI0_20 : decode prog_76_method_1_code 20 = .ok (.aload_n 0, 1) := by decide +kernel
theorem d_rmSI0_21 : decode prog_76_method_1_code 21 = .ok (.lload 5, 2) := by decide +kernel
theorem d_rmSI0_23 : decode prog_76_method_1_code 23 = .ok (.putfield 21, 3) := by decide +kernel
theorem d_rmSI0_26 : decode prog_76_method_1_code 26 = .ok (.aload_n 0, 1) := by decide +kernel
theorem d_rmSI0_27 : decode prog_76_method_1_code 27 = .ok (.iload 7, 2) := by decide +kernel
theorem d_rmSI0_29 : decode prog_76_method_1_code 29 = .ok (.putfield 24, 3) := by decide +kernel
theorem d_rmSI0_32 : decode prog_76_method_1_code 32 = .ok (.aload_n 0, 1) := by decide +kernel
theorem d_rmSI0_33 : decode prog_76_method_1_code 33 = .ok (.iload 8, 2) := by decide +kernel
theorem d_rmSI0_35 : decode prog_76_method_1_code 35 = .ok (.putfield 27, 3) := by decide +kernel
theorem d_rmSI0_38 : decode prog_76_method_1_code 38 = .ok (.return_, 1) := by decide +kernel
set_option maxRecDepth 65536 in
set_option maxHeartbeats 40000000 in
theorem rmSI0 (l : Launch) (Z : State) (a0 : Array Value) (hw : ∀ d ∈ tables_1, d.before a0 Z = true) (ws : List Jvm.Cond) (a dc : Addr) (h0 : Heap) (n0 : Nat) (Z0 : n0 ≤ h0.size) (E1 : Exa Z h0 a "com/example/rock_dove/rockdove/store/StoredMessage") (g1 : n0 ≤ a) (S_sequence : Fld Z h0 a "com/example/rock_dove/rockdove/store/StoredMessage" "sequence" "J" (.long (0 : Int64))) (S_objectId : Fld Z h0 a "com/example/rock_dove/rockdove/store/StoredMessage" "objectId" "I" (.int (0 : Int32))) (S_persistent : Fld Z h0 a "com/example/rock_dove/rockdove/store/StoredMessage" "persistent" "Z" (.int (0 : Int32))) (S_unit : Fld Z h0 a "com/example/rock_dove/rockdove/store/StoredMessage" "unit" "J" (.long (0 : Int64))) (S_descriptorLength : Fld Z h0 a "com/example/rock_dove/rockdove/store/StoredMessage" "descriptorLength" "I" (.int (0 : Int32))) (S_dataLength : Fld Z h0 a "com/example/rock_dove/rockdove/store/StoredMessage" "dataLength" "I" (.int (0 : Int32))) (Fs : Sta Z h0 "java/util/ArrayList" "DEFAULTCAPACITY_EMPTY_ELEMENTDATA" "[Ljava/lang/Object;" (.ref dc)) (A0 : own_A Z h0 dc 0) :
    own_Met l Z (⟨"com/example/rock_dove/rockdove/store/StoredMessage", "<init>", "(JIZJII)V"⟩ : MethodName) ws prog_76_method_1_code 9 none ({ frames := 2, cells := 0, slots := 0, locals := 24 } : Room) #[(.ref a), (.long (1 : Int64)), (.int (0 : Int32)), (.int (0 : Int32)), (.long (0 : Int64)), (.int (0 : Int32)), (.int (0 : Int32))] h0 (fun v h L => v = none ∧ Fr n0 L ∧ Keep h0 h [a] ∧ Exa Z h a "com/example/rock_dove/rockdove/store/StoredMessage" ∧ Fld Z h a "com/example/rock_dove/rockdove/store/StoredMessage" "persistent" "Z" (.int (0 : Int32)) ∧ Sta Z h "java/util/ArrayList" "DEFAULTCAPACITY_EMPTY_ELEMENTDATA" "[Ljava/lang/Object;" (.ref dc) ∧ own_A Z h dc 0) := by
  refine own_body (y := (⟨"com/example/rock_dove/rockdove/store/StoredMessage", "<init>", "(JIZJII)V"⟩ : MethodName)) (plainFor_of_name pn_6) ?_
  intro p e s m below meth c s₁ hx hby hml hown hnm hret hlk hZ X0 e0
  have hml : c.maxLocals = 9 := hml
  have hown : s.vm.findClass "com/example/rock_dove/rockdove/store/StoredMessage" = some m.cls := hown
  have N0 := Fr.nil n0
  refine own_entry (ef_rmSI0 m a (1 : Int64) (0 : Int32) (0 : Int32) (0 : Int64) (0 : Int32) (0 : Int32)) ?_
  show own_Dn p e below s (fun v h L => v = none ∧ Fr n0 L ∧ Keep h0 h [a] ∧ Exa Z h a "com/example/rock_dove/rockdove/store/StoredMessage" ∧ Fld Z h a "com/example/rock_dove/rockdove/store/StoredMessage" "persistent" "Z" (.int (0 : Int32)) ∧ Sta Z h "java/util/ArrayList" "DEFAULTCAPACITY_EMPTY_ELEMENTDATA" "[Ljava/lang/Object;" (.ref dc) ∧ own_A Z h dc 0) ({ frames := 2, cells := 0, slots := 0, locals := 24 } : Room).cells ({ frames := 2, cells := 0, slots := 0, locals := 24 } : Room).slots (s₁.setTop (mkF m 0 #[.val (.ref a), .val (.long (1 : Int64)), .second, .val (.int (0 : Int32)), .val (.int (0 : Int32)), .val (.long (0 : Int64)), .second, .val (.int (0 : Int32)), .val (.int (0 : Int32))] []))
  refine own_st (q' := s₁.setTop (mkF m 1 #[.val (.ref a), .val (.long (1 : Int64)), .second, .val (.int (0 : Int32)), .val (.int (0 : Int32)), .val (.long (0 : Int64)), .second, .val (.int (0 : Int32)), .val (.int (0 : Int32))] [(.ref a)])) (fun _ k => XS.aloadN X0.here hx rfl (hb hby d_rmSI0_0) rfl rfl k) ?_
  refine own_callI (y := (⟨"com/example/rock_dove/rockdove/store/Entry", "<init>", "()V"⟩ : MethodName)) X0 hx hZ hown rfl (wd_56 hw) (wd_57 hw) (wd_59 hw) (wd_60 hw) (by decide) (rmEI l Z a0 hw [] a h0 n0 Z0) e0 (W := 0) (by decide) (by decide) (by decide) (by decide) (g := (mkF m 1 #[.val (.ref a), .val (.long (1 : Int64)), .second, .val (.int (0 : Int32)), .val (.int (0 : Int32)), .val (.long (0 : Int64)), .second, .val (.int (0 : Int32)), .val (.int (0 : Int32))] [(.ref a)])) rfl (by rw [hml]; rfl) (a := a) (argsL := []) (rest := []) rfl (lenOf pd_0 rfl) rfl (by show 2 * 0 + _ ≤ _; exact Nat.le_of_eq rfl) (hb hby d_rmSI0_1) ?_
  intro v101 T101 L101 hQ101 X101
  obtain ⟨rfl, NN101, e101⟩ := hQ101
  have N101 := Fr.app N0 NN101
  show own_Dn p e below s (fun v h L => v = none ∧ Fr n0 L ∧ Keep h0 h [a] ∧ Exa Z h a "com/example/rock_dove/rockdove/store/StoredMessage" ∧ Fld Z h a "com/example/rock_dove/rockdove/store/StoredMessage" "persistent" "Z" (.int (0 : Int32)) ∧ Sta Z h "java/util/ArrayList" "DEFAULTCAPACITY_EMPTY_ELEMENTDATA" "[Ljava/lang/Object;" (.ref dc) ∧ own_A Z h dc 0) ({ frames := 2, cells := 0, slots := 0, locals := 24 } : Room).cells ({ frames := 2, cells := 0, slots := 0, locals := 24 } : Room).slots (T101.setTop (mkF m 4 #[.val (.ref a), .val (.long (1 : Int64)), .second, .val (.int (0 : Int32)), .val (.int (0 : Int32)), .val (.long (0 : Int64)), .second, .val (.int (0 : Int32)), .val (.int (0 : Int32))] []))
  refine own_st (q' := T101.setTop (mkF m 6 #[.val (.ref a), .val (.long (1 : Int64)), .second, .val (.int (0 : Int32)), .val (.int (0 : Int32)), .val (.long (0 : Int64)), .second, .val (.int (0 : Int32)), .val (.int (0 : Int32))] [(.long (1 : Int64)), (.ref a)])) (fun _ k => XS.aloadN X101.here hx rfl (hb hby d_rmSI0_4) rfl rfl (XS.lloadN X101.here hx rfl (hb hby d_rmSI0_5) rfl k)) ?_
  obtain ⟨T102, h102, X102, e102, W102, st102⟩ := putF X101 hx hZ hown (host := "") (Or.inl (wd_62 hw)) Via.refl e101 S_sequence E1 (Or.inr ⟨(wd_63 hw), rfl, hnm⟩) (wd_51 hw) (ty := .long) (by decide) rfl rfl (g := (mkF m 6 #[.val (.ref a), .val (.long (1 : Int64)), .second, .val (.int (0 : Int32)), .val (.int (0 : Int32)), .val (.long (0 : Int64)), .second, .val (.int (0 : Int32)), .val (.int (0 : Int32))] [(.long (1 : Int64)), (.ref a)])) rfl rfl (hb hby d_rmSI0_6)
  have N102 := Fr.snoc X102 N101 g1
  have K103 : Keep h0 h102 [a] := ((Keep.refl h0 [a]).wr W102 (Or.inl (List.mem_of_getElem? (i := 0) rfl)))
  have F102 := S_sequence.same W102
  refine own_st (q' := T102.setTop (mkF m 9 #[.val (.ref a), .val (.long (1 : Int64)), .second, .val (.int (0 : Int32)), .val (.int (0 : Int32)), .val (.long (0 : Int64)), .second, .val (.int (0 : Int32)), .val (.int (0 : Int32))] [])) st102 ?_
  refine own_st (q' := T102.setTop (mkF m 11 #[.val (.ref a), .val (.long (1 : Int64)), .second, .val (.int (0 : Int32)), .val (.int (0 : Int32)), .val (.long (0 : Int64)), .second, .val (.int (0 : Int32)), .val (.int (0 : Int32))] [(.int (0 : Int32)), (.ref a)])) (fun _ k => XS.aloadN X102.here hx rfl (hb hby d_rmSI0_9) rfl rfl (XS.iloadN X102.here hx rfl (hb hby d_rmSI0_10) rfl k)) ?_
  have f104 := (S_objectId.other W102 (Or.inr (sn_14 hw)))
  have f105 := (E1.wr W102)
  obtain ⟨T106, h106, X106, e106, W106, st106⟩ := putF X102 hx hZ hown (host := "") (Or.inl (wd_64 hw)) Via.refl e102 f104 f105 (Or.inr ⟨(wd_65 hw), rfl, hnm⟩) (wd_51 hw) (ty := .int) (by decide) rfl rfl (g := (mkF m 11 #[.val (.ref a), .val (.long (1 : Int64)), .second, .val (.int (0 : Int32)), .val (.int (0 : Int32)), .val (.long (0 : Int64)), .second, .val (.int (0 : Int32)), .val (.int (0 : Int32))] [(.int (0 : Int32)), (.ref a)])) rfl rfl (hb hby d_rmSI0_11)
  have N106 := Fr.snoc X106 N102 g1
  have K107 : Keep h0 h106 [a] := (K103.wr W106 (Or.inl (List.mem_of_getElem? (i := 0) rfl)))
  have F106 := f104.same W106
  refine own_st (q' := T106.setTop (mkF m 14 #[.val (.ref a), .val (.long (1 : Int64)), .second, .val (.int (0 : Int32)), .val (.int (0 : Int32)), .val (.long (0 : Int64)), .second, .val (.int (0 : Int32)), .val (.int (0 : Int32))] [])) st106 ?_
  refine own_st (q' := T106.setTop (mkF m 17 #[.val (.ref a), .val (.long (1 : Int64)), .second, .val (.int (0 : Int32)), .val (.int (0 : Int32)), .val (.long (0 : Int64)), .second, .val (.int (0 : Int32)), .val (.int (0 : Int32))] [(.int (0 : Int32)), (.ref a)])) (fun _ k => XS.aloadN X106.here hx rfl (hb hby d_rmSI0_14) rfl rfl (XS.iload X106.here hx rfl (hb hby d_rmSI0_15) rfl k)) ?_
  have f108 := ((S_persistent.other W102 (Or.inr (sn_15 hw))).other W106 (Or.inr (sn_16 hw)))
  have f109 := (f105.wr W106)
  obtain ⟨T110, h110, X110, e110, W110, st110⟩ := putFN X106 hx hZ hown (wd_66 hw) Via.refl e106 f108 f109 (Or.inr ⟨(wd_67 hw), rfl, hnm⟩) (wd_51 hw) (ty := .boolean) (v' := (.int (nar .boolean (0 : Int32)))) (by decide) rfl (fits_nar_bool _) (g := (mkF m 17 #[.val (.ref a), .val (.long (1 : Int64)), .second, .val (.int (0 : Int32)), .val (.int (0 : Int32)), .val (.long (0 : Int64)), .second, .val (.int (0 : Int32)), .val (.int (0 : Int32))] [(.int (0 : Int32)), (.ref a)])) rfl rfl (hb hby d_rmSI0_17)
  have N110 := Fr.snoc X110 N106 g1
  have K111 : Keep h0 h110 [a] := (K107.wr W110 (Or.inl (List.mem_of_getElem? (i := 0) rfl)))
  have F110 := f108.same W110
  rw [show nar .boolean (0 : Int32) = (0 : Int32) from by decide] at F110
  refine own_st (q' := T110.setTop (mkF m 20 #[.val (.ref a), .val (.long (1 : Int64)), .second, .val (.int (0 : Int32)), .val (.int (0 : Int32)), .val (.long (0 : Int64)), .second, .val (.int (0 : Int32)), .val (.int (0 : Int32))] [])) st110 ?_
  refine own_st (q' := T110.setTop (mkF m 23 #[.val (.ref a), .val (.long (1 : Int64)), .second, .val (.int (0 : Int32)), .val (.int (0 : Int32)), .val (.long (0 : Int64)), .second, .val (.int (0 : Int32)), .val (.int (0 : Int32))] [(.long (0 : Int64)), (.ref a)])) (fun _ k => XS.aloadN X110.here hx rfl (hb hby d_rmSI0_20) rfl rfl (XS.lload X110.here hx rfl (hb hby d_rmSI0_21) rfl k)) ?_
  have f112 := (((S_unit.other W102 (Or.inr (sn_17 hw))).other W106 (Or.inr (sn_18 hw))).other W110 (Or.inr (sn_19 hw)))
  have f113 := (f109.wr W110)
  obtain ⟨T114, h114, X114, e114, W114, st114⟩ := putF X110 hx hZ hown (host := "") (Or.inl (wd_68 hw)) Via.refl e110 f112 f113 (Or.inr ⟨(wd_69 hw), rfl, hnm⟩) (wd_51 hw) (ty := .long) (by decide) rfl rfl (g := (mkF m 23 #[.val (.ref a), .val (.long (1 : Int64)), .second, .val (.int (0 : Int32)), .val (.int (0 : Int32)), .val (.long (0 : Int64)), .second, .val (.int (0 : Int32)), .val (.int (0 : Int32))] [(.long (0 : Int64)), (.ref a)])) rfl rfl (hb hby d_rmSI0_23)
  have N114 := Fr.snoc X114 N110 g1
  have K115 : Keep h0 h114 [a] := (K111.wr W114 (Or.inl (List.mem_of_getElem? (i := 0) rfl)))
  have F114 := f112.same W114
  refine own_st (q' := T114.setTop (mkF m 26 #[.val (.ref a), .val (.long (1 : Int64)), .second, .val (.int (0 : Int32)), .val (.int (0 : Int32)), .val (.long (0 : Int64)), .second, .val (.int (0 : Int32)), .val (.int (0 : Int32))] [])) st114 ?_
  refine own_st (q' := T114.setTop (mkF m 29 #[.val (.ref a), .val (.long (1 : Int64)), .second, .val (.int (0 : Int32)), .val (.int (0 : Int32)), .val (.long (0 : Int64)), .second, .val (.int (0 : Int32)), .val (.int (0 : Int32))] [(.int (0 : Int32)), (.ref a)])) (fun _ k => XS.aloadN X114.here hx rfl (hb hby d_rmSI0_26) rfl rfl (XS.iload X114.here hx rfl (hb hby d_rmSI0_27) rfl k)) ?_
  have f116 := ((((S_descriptorLength.other W102 (Or.inr (sn_20 hw))).other W106 (Or.inr (sn_21 hw))).other W110 (Or.inr (sn_22 hw))).other W114 (Or.inr (sn_23 hw)))
  have f117 := (f113.wr W114)
  obtain ⟨T118, h118, X118, e118, W118, st118⟩ := putF X114 hx hZ hown (host := "") (Or.inl (wd_70 hw)) Via.refl e114 f116 f117 (Or.inr ⟨(wd_71 hw), rfl, hnm⟩) (wd_51 hw) (ty := .int) (by decide) rfl rfl (g := (mkF m 29 #[.val (.ref a), .val (.long (1 : Int64)), .second, .val (.int (0 : Int32)), .val (.int (0 : Int32)), .val (.long (0 : Int64)), .second, .val (.int (0 : Int32)), .val (.int (0 : Int32))] [(.int (0 : Int32)), (.ref a)])) rfl rfl (hb hby d_rmSI0_29)
  have N118 := Fr.snoc X118 N114 g1
  have K119 : Keep h0 h118 [a] := (K115.wr W118 (Or.inl (List.mem_of_getElem? (i := 0) rfl)))
  have F118 := f116.same W118
  refine own_st (q' := T118.setTop (mkF m 32 #[.val (.ref a), .val (.long (1 : Int64)), .second, .val (.int (0 : Int32)), .val (.int (0 : Int32)), .val (.long (0 : Int64)), .second, .val (.int (0 : Int32)), .val (.int (0 : Int32))] [])) st118 ?_
  refine own_st (q' := T118.setTop (mkF m 35 #[.val (.ref a), .val (.long (1 : Int64)), .second, .val (.int (0 : Int32)), .val (.int (0 : Int32)), .val (.long (0 : Int64)), .second, .val (.int (0 : Int32)), .val (.int (0 : Int32))] [(.int (0 : Int32)), (.ref a)])) (fun _ k => XS.aloadN X118.here hx rfl (hb hby d_rmSI0_32) rfl rfl (XS.iload X118.here hx rfl (hb hby d_rmSI0_33) rfl k)) ?_
  have f120 := (((((S_dataLength.other W102 (Or.inr (sn_24 hw))).other W106 (Or.inr (sn_25 hw))).other W110 (Or.inr (sn_26 hw))).other W114 (Or.inr (sn_27 hw))).other W118 (Or.inr (sn_28 hw)))
  have f121 := (f117.wr W118)
  obtain ⟨T122, h122, X122, e122, W122, st122⟩ := putF X118 hx hZ hown (host := "") (Or.inl (wd_72 hw)) Via.refl e118 f120 f121 (Or.inr ⟨(wd_73 hw), rfl, hnm⟩) (wd_51 hw) (ty := .int) (by decide) rfl rfl (g := (mkF m 35 #[.val (.ref a), .val (.long (1 : Int64)), .second, .val (.int (0 : Int32)), .val (.int (0 : Int32)), .val (.long (0 : Int64)), .second, .val (.int (0 : Int32)), .val (.int (0 : Int32))] [(.int (0 : Int32)), (.ref a)])) rfl rfl (hb hby d_rmSI0_35)
  have N122 := Fr.snoc X122 N118 g1
  have K123 : Keep h0 h122 [a] := (K119.wr W122 (Or.inl (List.mem_of_getElem? (i := 0) rfl)))
  have F122 := f120.same W122
  refine own_st (q' := T122.setTop (mkF m 38 #[.val (.ref a), .val (.long (1 : Int64)), .second, .val (.int (0 : Int32)), .val (.int (0 : Int32)), .val (.long (0 : Int64)), .second, .val (.int (0 : Int32)), .val (.int (0 : Int32))] [])) st122 ?_
  have f124 := (f121.wr W122)
  have f125 := (((F110.other W114 (Or.inr (sn_29 hw))).other W118 (Or.inr (sn_30 hw))).other W122 (Or.inr (sn_31 hw)))
  have f126 := ((((((Fs.wr W102).wr W106).wr W110).wr W114).wr W118).wr W122)
  have f127 := ((((((A0.wr W102).wr W106).wr W110).wr W114).wr W118).wr W122)
  exact own_retV X122 hx hlk hret (hb hby d_rmSI0_38) e122 (by exact ⟨rfl, N122, K123, f124, f125, f126, f127⟩) (by decide) (by decide)
theorem ef_rmIP0 (m : MethodId) (x0 : Addr) : entryFrame m #[(.ref x0)] 1 = mkF m 0 #[.val (.ref x0)] [] := by first | (simp [entryFrame, mkF, argsToLocals, Value.category]; done) | rfl
theorem d_rmIP0_0 : decode prog_76_method_5_code 0 = .ok (.aload_n 0, 1) := by decide +kernel
theorem d_rmIP0_1 : decode prog_76_method_5_code 1 = .ok (.getfield 17, 3) := by decide +kernel
theorem d_rmIP0_4 : decode prog_76_method_5_code 4 = .ok (.ireturn, 1) := by decide +kernel
set_option maxRecDepth 65536 in
set_option maxHeartbeats 40000000 in
theorem rmIP0 (l : Launch) (Z : State) (a0 : Array Value) (hw : ∀ d ∈ tables_1, d.before a0 Z = true) (ws : List Jvm.Cond) (b : Addr) (h0 : Heap) (n0 : Nat) (Z0 : n0 ≤ h0.size) (F1 : Fld Z h0 b "com/example/rock_dove/rockdove/store/StoredMessage" "persistent" "Z" (.int (0 : Int32))) :
    own_Met l Z (⟨"com/example/rock_dove/rockdove/store/StoredMessage", "isPersistent", "()Z"⟩ : MethodName) ws prog_76_method_5_code 1 (some .boolean) ({ frames := 0, cells := 0, slots := 0, locals := 0 } : Room) #[(.ref b)] h0 (fun v h L => v = some (.int (0 : Int32)) ∧ Fr n0 L ∧ h = h0) := by
  refine own_body (y := (⟨"com/example/rock_dove/rockdove/store/StoredMessage", "isPersistent", "()Z"⟩ : MethodName)) (plainFor_of_name pn_6) ?_
  intro p e s m below meth c s₁ hx hby hml hown hnm hret hlk hZ X0 e0
  have hml : c.maxLocals = 1 := hml
  have hown : s.vm.findClass "com/example/rock_dove/rockdove/store/StoredMessage" = some m.cls := hown
  have N0 := Fr.nil n0
  refine own_entry (ef_rmIP0 m b) ?_
  show own_Dn p e below s (fun v h L => v = some (.int (0 : Int32)) ∧ Fr n0 L ∧ h = h0) ({ frames := 0, cells := 0, slots := 0, locals := 0 } : Room).cells ({ frames := 0, cells := 0, slots := 0, locals := 0 } : Room).slots (s₁.setTop (mkF m 0 #[.val (.ref b)] []))
  refine own_st (q' := s₁.setTop (mkF m 1 #[.val (.ref b)] [(.ref b)])) (fun _ k => XS.aloadN X0.here hx rfl (hb hby d_rmIP0_0) rfl rfl k) ?_
  obtain ⟨T101, X101, e101, st101⟩ := getF X0 hx hZ hown (host := "") (Or.inl (wd_66 hw)) Via.refl e0 F1 (g := (mkF m 1 #[.val (.ref b)] [(.ref b)])) rfl rfl (hb hby d_rmIP0_1)
  refine own_st (q' := T101.setTop (mkF m 4 #[.val (.ref b)] [(.int (0 : Int32))])) st101 ?_
  exact own_retN X101 hx hlk (t := .boolean) hret (by simp) (hb hby d_rmIP0_4) e101 (by exact ⟨rfl, N0, rfl⟩) (by decide) (by decide)
theorem ef_rmSI1 (m : MethodId) (x0 : Addr) (x1 : Int64) (x2 : Int32) (x3 : Int32) (x4 : Int64) (x5 : Int32) (x6 : Int32) : entryFrame m #[(.ref x0), (.long x1), (.int x2), (.int x3), (.long x4), (.int x5), (.int x6)] 9 = mkF m 0 #[.val (.ref x0), .val (.long x1), .second, .val (.int x2), .val (.int x3), .val (.long x4), .second, .val (.int x5), .val (.int x6)] [] := by first | (simp [entryFrame, mkF, argsToLocals, Value.category]; done) | rfl
theorem d_rmSI1_0 : decode prog_76_method_1_code 0 = .ok (.aload_n 0, 1) := by decide +kernel
theorem d_rmSI1_1 : decode prog_76_method_1_code 1 = .ok (.invokespecial 1, 3) := by decide +kernel
theorem d_rmSI1_4 : decode prog_76_method_1_code 4 = .ok (.aload_n 0, 1) := by decide +kernel
theorem d_rmSI1_5 : decode prog_76_method_1_code 5 = .ok (.lload_n 1, 1) := by decide +kernel
theorem d_rmSI1_6 : decode prog_76_method_1_code 6 = .ok (.putfield 7, 3) := by decide +kernel
theorem d_rmSI1_9 : decode prog_76_method_1_code 9 = .ok (.aload_n 0, 1) := by decide +kernel
theorem d_rmSI1_10 : decode prog_76_method_1_code 10 = .ok (.iload_n 3, 1) := by decide +kernel
theorem d_rmSI1_11 : decode prog_76_method_1_code 11 = .ok (.putfield 13, 3) := by decide +kernel
theorem d_rmSI1_14 : decode prog_76_method_1_code 14 = .ok (.aload_n 0, 1) := by decide +kernel
theorem d_rmSI1_15 : decode prog_76_method_1_code 15 = .ok (.iload 4, 2) := by decide +kernel
theorem d_rmSI1_17 : decode prog_76_method_1_code 17 = .ok (.putfield 17, 3) := by decide +kernel
theorem d_rmSI1_20 : decode prog_76_method_1_code 20 = .ok (.aload_n 0, 1) := by decide +kernel
theorem d_rmSI1_21 : decode prog_76_method_1_code 21 = .ok (.lload 5, 2) := by decide +kernel
theorem d_rmSI1_23 : decode prog_76_method_1_code 23 = .ok (.putfield 21, 3) := by decide +kernel
theorem d_rmSI1_26 : decode prog_76_method_1_code 26 = .ok (.aload_n 0, 1) := by decide +kernel
theorem d_rmSI1_27 : decode prog_76_method_1_code 27 = .ok (.iload 7, 2) := by decide +kernel
theorem d_rmSI1_29 : decode prog_76_method_1_code 29 = .ok (.putfield 24, 3) := by decide +kernel
theorem d_rmSI1_32 : decode prog_76_method_1_code 32 = .ok (.aload_n 0, 1) := by decide +kernel
theorem d_rmSI1_33 : decode prog_76_method_1_code 33 = .ok (.iload 8, 2) := by decide +kernel
theorem d_rmSI1_35 : decode prog_76_method_1_code 35 = .ok (.putfield 27, 3) := by decide +kernel
theorem d_rmSI1_38 : decode prog_76_method_1_code 38 = .ok (.return_, 1) := by decide +kernel
set_option maxRecDepth 65536 in
set_option maxHeartbeats 40000000 in
theorem rmSI1 (l : Launch) (Z : State) (a0 : Array Value) (hw : ∀ d ∈ tables_1, d.before a0 Z = true) (ws : List Jvm.Cond) (a dc : Addr) (h0 : Heap) (n0 : Nat) (Z0 : n0 ≤ h0.size) (E1 : Exa Z h0 a "com/example/rock_dove/rockdove/store/StoredMessage") (g1 : n0 ≤ a) (S_sequence : Fld Z h0 a "com/example/rock_dove/rockdove/store/StoredMessage" "sequence" "J" (.long (0 : Int64))) (S_objectId : Fld Z h0 a "com/example/rock_dove/rockdove/store/StoredMessage" "objectId" "I" (.int (0 : Int32))) (S_persistent : Fld Z h0 a "com/example/rock_dove/rockdove/store/StoredMessage" "persistent" "Z" (.int (0 : Int32))) (S_unit : Fld Z h0 a "com/example/rock_dove/rockdove/store/StoredMessage" "unit" "J" (.long (0 : Int64))) (S_descriptorLength : Fld Z h0 a "com/example/rock_dove/rockdove/store/StoredMessage" "descriptorLength" "I" (.int (0 : Int32))) (S_dataLength : Fld Z h0 a "com/example/rock_dove/rockdove/store/StoredMessage" "dataLength" "I" (.int (0 : Int32))) (Fs : Sta Z h0 "java/util/ArrayList" "DEFAULTCAPACITY_EMPTY_ELEMENTDATA" "[Ljava/lang/Object;" (.ref dc)) (A0 : own_A Z h0 dc 0) :
    own_Met l Z (⟨"com/example/rock_dove/rockdove/store/StoredMessage", "<init>", "(JIZJII)V"⟩ : MethodName) ws prog_76_method_1_code 9 none ({ frames := 2, cells := 0, slots := 0, locals := 24 } : Room) #[(.ref a), (.long (1 : Int64)), (.int (0 : Int32)), (.int (1 : Int32)), (.long (0 : Int64)), (.int (0 : Int32)), (.int (0 : Int32))] h0 (fun v h L => v = none ∧ Fr n0 L ∧ Keep h0 h [a] ∧ Exa Z h a "com/example/rock_dove/rockdove/store/StoredMessage" ∧ Fld Z h a "com/example/rock_dove/rockdove/store/StoredMessage" "persistent" "Z" (.int (1 : Int32)) ∧ Sta Z h "java/util/ArrayList" "DEFAULTCAPACITY_EMPTY_ELEMENTDATA" "[Ljava/lang/Object;" (.ref dc) ∧ own_A Z h dc 0) := by
  refine own_body (y := (⟨"com/example/rock_dove/rockdove/store/StoredMessage", "<init>", "(JIZJII)V"⟩ : MethodName)) (plainFor_of_name pn_6) ?_
  intro p e s m below meth c s₁ hx hby hml hown hnm hret hlk hZ X0 e0
  have hml : c.maxLocals = 9 := hml
  have hown : s.vm.findClass "com/example/rock_dove/rockdove/store/StoredMessage" = some m.cls := hown
  have N0 := Fr.nil n0
  refine own_entry (ef_rmSI1 m a (1 : Int64) (0 : Int32) (1 : Int32) (0 : Int64) (0 : Int32) (0 : Int32)) ?_
  show own_Dn p e below s (fun v h L => v = none ∧ Fr n0 L ∧ Keep h0 h [a] ∧ Exa Z h a "com/example/rock_dove/rockdove/store/StoredMessage" ∧ Fld Z h a "com/example/rock_dove/rockdove/store/StoredMessage" "persistent" "Z" (.int (1 : Int32)) ∧ Sta Z h "java/util/ArrayList" "DEFAULTCAPACITY_EMPTY_ELEMENTDATA" "[Ljava/lang/Object;" (.ref dc) ∧ own_A Z h dc 0) ({ frames := 2, cells := 0, slots := 0, locals := 24 } : Room).cells ({ frames := 2, cells := 0, slots := 0, locals := 24 } : Room).slots (s₁.setTop (mkF m 0 #[.val (.ref a), .val (.long (1 : Int64)), .second, .val (.int (0 : Int32)), .val (.int (1 : Int32)), .val (.long (0 : Int64)), .second, .val (.int (0 : Int32)), .val (.int (0 : Int32))] []))
  refine own_st (q' := s₁.setTop (mkF m 1 #[.val (.ref a), .val (.long (1 : Int64)), .second, .val (.int (0 : Int32)), .val (.int (1 : Int32)), .val (.long (0 : Int64)), .second, .val (.int (0 : Int32)), .val (.int (0 : Int32))] [(.ref a)])) (fun _ k => XS.aloadN X0.here hx rfl (hb hby d_rmSI1_0) rfl rfl k) ?_
  refine own_callI (y := (⟨"com/example/rock_dove/rockdove/store/Entry", "<init>", "()V"⟩ : MethodName)) X0 hx hZ hown rfl (wd_56 hw) (wd_57 hw) (wd_59 hw) (wd_60 hw) (by decide) (rmEI l Z a0 hw [] a h0 n0 Z0) e0 (W := 0) (by decide) (by decide) (by decide) (by decide) (g := (mkF m 1 #[.val (.ref a), .val (.long (1 : Int64)), .second, .val (.int (0 : Int32)), .val (.int (1 : Int32)), .val (.long (0 : Int64)), .second, .val (.int (0 : Int32)), .val (.int (0 : Int32))] [(.ref a)])) rfl (by rw [hml]; rfl) (a := a) (argsL := []) (rest := []) rfl (lenOf pd_0 rfl) rfl (by show 2 * 0 + _ ≤ _; exact Nat.le_of_eq rfl) (hb hby d_rmSI1_1) ?_
  intro v101 T101 L101 hQ101 X101
  obtain ⟨rfl, NN101, e101⟩ := hQ101
  have N101 := Fr.app N0 NN101
  show own_Dn p e below s (fun v h L => v = none ∧ Fr n0 L ∧ Keep h0 h [a] ∧ Exa Z h a "com/example/rock_dove/rockdove/store/StoredMessage" ∧ Fld Z h a "com/example/rock_dove/rockdove/store/StoredMessage" "persistent" "Z" (.int (1 : Int32)) ∧ Sta Z h "java/util/ArrayList" "DEFAULTCAPACITY_EMPTY_ELEMENTDATA" "[Ljava/lang/Object;" (.ref dc) ∧ own_A Z h dc 0) ({ frames := 2, cells := 0, slots := 0, locals := 24 } : Room).cells ({ frames := 2, cells := 0, slots := 0, locals := 24 } : Room).slots (T101.setTop (mkF m 4 #[.val (.ref a), .val (.long (1 : Int64)), .second, .val (.int (0 : Int32)), .val (.int (1 : Int32)), .val (.long (0 : Int64)), .second, .val (.int (0 : Int32)), .val (.int (0 : Int32))] []))
  refine own_st (q' := T101.setTop (mkF m 6 #[.val (.ref a), .val (.long (1 : Int64)), .second, .val (.int (0 : Int32)), .val (.int (1 : Int32)), .val (.long (0 : Int64)), .second, .val (.int (0 : Int32)), .val (.int (0 : Int32))] [(.long (1 : Int64)), (.ref a)])) (fun _ k => XS.aloadN X101.here hx rfl (hb hby d_rmSI1_4) rfl rfl (XS.lloadN X101.here hx rfl (hb hby d_rmSI1_5) rfl k)) ?_
  obtain ⟨T102, h102, X102, e102, W102, st102⟩ := putF X101 hx hZ hown (host := "") (Or.inl (wd_62 hw)) Via.refl e101 S_sequence E1 (Or.inr ⟨(wd_63 hw), rfl, hnm⟩) (wd_51 hw) (ty := .long) (by decide) rfl rfl (g := (mkF m 6 #[.val (.ref a), .val (.long (1 : Int64)), .second, .val (.int (0 : Int32)), .val (.int (1 : Int32)), .val (.long (0 : Int64)), .second, .val (.int (0 : Int32)), .val (.int (0 : Int32))] [(.long (1 : Int64)), (.ref a)])) rfl rfl (hb hby d_rmSI1_6)
  have N102 := Fr.snoc X102 N101 g1
  have K103 : Keep h0 h102 [a] := ((Keep.refl h0 [a]).wr W102 (Or.inl (List.mem_of_getElem? (i := 0) rfl)))
  have F102 := S_sequence.same W102
  refine own_st (q' := T102.setTop (mkF m 9 #[.val (.ref a), .val (.long (1 : Int64)), .second, .val (.int (0 : Int32)), .val (.int (1 : Int32)), .val (.long (0 : Int64)), .second, .val (.int (0 : Int32)), .val (.int (0 : Int32))] [])) st102 ?_
  refine own_st (q' := T102.setTop (mkF m 11 #[.val (.ref a), .val (.long (1 : Int64)), .second, .val (.int (0 : Int32)), .val (.int (1 : Int32)), .val (.long (0 : Int64)), .second, .val (.int (0 : Int32)), .val (.int (0 : Int32))] [(.int (0 : Int32)), (.ref a)])) (fun _ k => XS.aloadN X102.here hx rfl (hb hby d_rmSI1_9) rfl rfl (XS.iloadN X102.here hx rfl (hb hby d_rmSI1_10) rfl k)) ?_
  have f104 := (S_objectId.other W102 (Or.inr (sn_14 hw)))
  have f105 := (E1.wr W102)
  obtain ⟨T106, h106, X106, e106, W106, st106⟩ := putF X102 hx hZ hown (host := "") (Or.inl (wd_64 hw)) Via.refl e102 f104 f105 (Or.inr ⟨(wd_65 hw), rfl, hnm⟩) (wd_51 hw) (ty := .int) (by decide) rfl rfl (g := (mkF m 11 #[.val (.ref a), .val (.long (1 : Int64)), .second, .val (.int (0 : Int32)), .val (.int (1 : Int32)), .val (.long (0 : Int64)), .second, .val (.int (0 : Int32)), .val (.int (0 : Int32))] [(.int (0 : Int32)), (.ref a)])) rfl rfl (hb hby d_rmSI1_11)
  have N106 := Fr.snoc X106 N102 g1
  have K107 : Keep h0 h106 [a] := (K103.wr W106 (Or.inl (List.mem_of_getElem? (i := 0) rfl)))
  have F106 := f104.same W106
  refine own_st (q' := T106.setTop (mkF m 14 #[.val (.ref a), .val (.long (1 : Int64)), .second, .val (.int (0 : Int32)), .val (.int (1 : Int32)), .val (.long (0 : Int64)), .second, .val (.int (0 : Int32)), .val (.int (0 : Int32))] [])) st106 ?_
  refine own_st (q' := T106.setTop (mkF m 17 #[.val (.ref a), .val (.long (1 : Int64)), .second, .val (.int (0 : Int32)), .val (.int (1 : Int32)), .val (.long (0 : Int64)), .second, .val (.int (0 : Int32)), .val (.int (0 : Int32))] [(.int (1 : Int32)), (.ref a)])) (fun _ k => XS.aloadN X106.here hx rfl (hb hby d_rmSI1_14) rfl rfl (XS.iload X106.here hx rfl (hb hby d_rmSI1_15) rfl k)) ?_
  have f108 := ((S_persistent.other W102 (Or.inr (sn_15 hw))).other W106 (Or.inr (sn_16 hw)))
  have f109 := (f105.wr W106)
  obtain ⟨T110, h110, X110, e110, W110, st110⟩ := putFN X106 hx hZ hown (wd_66 hw) Via.refl e106 f108 f109 (Or.inr ⟨(wd_67 hw), rfl, hnm⟩) (wd_51 hw) (ty := .boolean) (v' := (.int (nar .boolean (1 : Int32)))) (by decide) rfl (fits_nar_bool _) (g := (mkF m 17 #[.val (.ref a), .val (.long (1 : Int64)), .second, .val (.int (0 : Int32)), .val (.int (1 : Int32)), .val (.long (0 : Int64)), .second, .val (.int (0 : Int32)), .val (.int (0 : Int32))] [(.int (1 : Int32)), (.ref a)])) rfl rfl (hb hby d_rmSI1_17)
  have N110 := Fr.snoc X110 N106 g1
  have K111 : Keep h0 h110 [a] := (K107.wr W110 (Or.inl (List.mem_of_getElem? (i := 0) rfl)))
  have F110 := f108.same W110
  rw [show nar .boolean (1 : Int32) = (1 : Int32) from by decide] at F110
  refine own_st (q' := T110.setTop (mkF m 20 #[.val (.ref a), .val (.long (1 : Int64)), .second, .val (.int (0 : Int32)), .val (.int (1 : Int32)), .val (.long (0 : Int64)), .second, .val (.int (0 : Int32)), .val (.int (0 : Int32))] [])) st110 ?_
  refine own_st (q' := T110.setTop (mkF m 23 #[.val (.ref a), .val (.long (1 : Int64)), .second, .val (.int (0 : Int32)), .val (.int (1 : Int32)), .val (.long (0 : Int64)), .second, .val (.int (0 : Int32)), .val (.int (0 : Int32))] [(.long (0 : Int64)), (.ref a)])) (fun _ k => XS.aloadN X110.here hx rfl (hb hby d_rmSI1_20) rfl rfl (XS.lload X110.here hx rfl (hb hby d_rmSI1_21) rfl k)) ?_
  have f112 := (((S_unit.other W102 (Or.inr (sn_17 hw))).other W106 (Or.inr (sn_18 hw))).other W110 (Or.inr (sn_19 hw)))
  have f113 := (f109.wr W110)
  obtain ⟨T114, h114, X114, e114, W114, st114⟩ := putF X110 hx hZ hown (host := "") (Or.inl (wd_68 hw)) Via.refl e110 f112 f113 (Or.inr ⟨(wd_69 hw), rfl, hnm⟩) (wd_51 hw) (ty := .long) (by decide) rfl rfl (g := (mkF m 23 #[.val (.ref a), .val (.long (1 : Int64)), .second, .val (.int (0 : Int32)), .val (.int (1 : Int32)), .val (.long (0 : Int64)), .second, .val (.int (0 : Int32)), .val (.int (0 : Int32))] [(.long (0 : Int64)), (.ref a)])) rfl rfl (hb hby d_rmSI1_23)
  have N114 := Fr.snoc X114 N110 g1
  have K115 : Keep h0 h114 [a] := (K111.wr W114 (Or.inl (List.mem_of_getElem? (i := 0) rfl)))
  have F114 := f112.same W114
  refine own_st (q' := T114.setTop (mkF m 26 #[.val (.ref a), .val (.long (1 : Int64)), .second, .val (.int (0 : Int32)), .val (.int (1 : Int32)), .val (.long (0 : Int64)), .second, .val (.int (0 : Int32)), .val (.int (0 : Int32))] [])) st114 ?_
  refine own_st (q' := T114.setTop (mkF m 29 #[.val (.ref a), .val (.long (1 : Int64)), .second, .val (.int (0 : Int32)), .val (.int (1 : Int32)), .val (.long (0 : Int64)), .second, .val (.int (0 : Int32)), .val (.int (0 : Int32))] [(.int (0 : Int32)), (.ref a)])) (fun _ k => XS.aloadN X114.here hx rfl (hb hby d_rmSI1_26) rfl rfl (XS.iload X114.here hx rfl (hb hby d_rmSI1_27) rfl k)) ?_
  have f116 := ((((S_descriptorLength.other W102 (Or.inr (sn_20 hw))).other W106 (Or.inr (sn_21 hw))).other W110 (Or.inr (sn_22 hw))).other W114 (Or.inr (sn_23 hw)))
  have f117 := (f113.wr W114)
  obtain ⟨T118, h118, X118, e118, W118, st118⟩ := putF X114 hx hZ hown (host := "") (Or.inl (wd_70 hw)) Via.refl e114 f116 f117 (Or.inr ⟨(wd_71 hw), rfl, hnm⟩) (wd_51 hw) (ty := .int) (by decide) rfl rfl (g := (mkF m 29 #[.val (.ref a), .val (.long (1 : Int64)), .second, .val (.int (0 : Int32)), .val (.int (1 : Int32)), .val (.long (0 : Int64)), .second, .val (.int (0 : Int32)), .val (.int (0 : Int32))] [(.int (0 : Int32)), (.ref a)])) rfl rfl (hb hby d_rmSI1_29)
  have N118 := Fr.snoc X118 N114 g1
  have K119 : Keep h0 h118 [a] := (K115.wr W118 (Or.inl (List.mem_of_getElem? (i := 0) rfl)))
  have F118 := f116.same W118
  refine own_st (q' := T118.setTop (mkF m 32 #[.val (.ref a), .val (.long (1 : Int64)), .second, .val (.int (0 : Int32)), .val (.int (1 : Int32)), .val (.long (0 : Int64)), .second, .val (.int (0 : Int32)), .val (.int (0 : Int32))] [])) st118 ?_
  refine own_st (q' := T118.setTop (mkF m 35 #[.val (.ref a), .val (.long (1 : Int64)), .second, .val (.int (0 : Int32)), .val (.int (1 : Int32)), .val (.long (0 : Int64)), .second, .val (.int (0 : Int32)), .val (.int (0 : Int32))] [(.int (0 : Int32)), (.ref a)])) (fun _ k => XS.aloadN X118.here hx rfl (hb hby d_rmSI1_32) rfl rfl (XS.iload X118.here hx rfl (hb hby d_rmSI1_33) rfl k)) ?_
  have f120 := (((((S_dataLength.other W102 (Or.inr (sn_24 hw))).other W106 (Or.inr (sn_25 hw))).other W110 (Or.inr (sn_26 hw))).other W114 (Or.inr (sn_27 hw))).other W118 (Or.inr (sn_28 hw)))
  have f121 := (f117.wr W118)
  obtain ⟨T122, h122, X122, e122, W122, st122⟩ := putF X118 hx hZ hown (host := "") (Or.inl (wd_72 hw)) Via.refl e118 f120 f121 (Or.inr ⟨(wd_73 hw), rfl, hnm⟩) (wd_51 hw) (ty := .int) (by decide) rfl rfl (g := (mkF m 35 #[.val (.ref a), .val (.long (1 : Int64)), .second, .val (.int (0 : Int32)), .val (.int (1 : Int32)), .val (.long (0 : Int64)), .second, .val (.int (0 : Int32)), .val (.int (0 : Int32))] [(.int (0 : Int32)), (.ref a)])) rfl rfl (hb hby d_rmSI1_35)
  have N122 := Fr.snoc X122 N118 g1
  have K123 : Keep h0 h122 [a] := (K119.wr W122 (Or.inl (List.mem_of_getElem? (i := 0) rfl)))
  have F122 := f120.same W122
  refine own_st (q' := T122.setTop (mkF m 38 #[.val (.ref a), .val (.long (1 : Int64)), .second, .val (.int (0 : Int32)), .val (.int (1 : Int32)), .val (.long (0 : Int64)), .second, .val (.int (0 : Int32)), .val (.int (0 : Int32))] [])) st122 ?_
  have f124 := (f121.wr W122)
  have f125 := (((F110.other W114 (Or.inr (sn_29 hw))).other W118 (Or.inr (sn_30 hw))).other W122 (Or.inr (sn_31 hw)))
  have f126 := ((((((Fs.wr W102).wr W106).wr W110).wr W114).wr W118).wr W122)
  have f127 := ((((((A0.wr W102).wr W106).wr W110).wr W114).wr W118).wr W122)
  exact own_retV X122 hx hlk hret (hb hby d_rmSI1_38) e122 (by exact ⟨rfl, N122, K123, f124, f125, f126, f127⟩) (by decide) (by decide)
theorem ef_rmIP1 (m : MethodId) (x0 : Addr) : entryFrame m #[(.ref x0)] 1 = mkF m 0 #[.val (.ref x0)] [] := by first | (simp [entryFrame, mkF, argsToLocals, Value.category]; done) | rfl
theorem d_rmIP1_0 : decode prog_76_method_5_code 0 = .ok (.aload_n 0, 1) := by decide +kernel
theorem d_rmIP1_1 : decode prog_76_method_5_code 1 = .ok (.getfield 17, 3) := by decide +kernel
theorem d_rmIP1_4 : decode prog_76_method_5_code 4 = .ok (.ireturn, 1) := by decide +kernel
set_option maxRecDepth 65536 in
set_option maxHeartbeats 40000000 in
theorem rmIP1 (l : Launch) (Z : State) (a0 : Array Value) (hw : ∀ d ∈ tables_1, d.before a0 Z = true) (ws : List Jvm.Cond) (b : Addr) (h0 : Heap) (n0 : Nat) (Z0 : n0 ≤ h0.size) (F1 : Fld Z h0 b "com/example/rock_dove/rockdove/store/StoredMessage" "persistent" "Z" (.int (1 : Int32))) :
    own_Met l Z (⟨"com/example/rock_dove/rockdove/store/StoredMessage", "isPersistent", "()Z"⟩ : MethodName) ws prog_76_method_5_code 1 (some .boolean) ({ frames := 0, cells := 0, slots := 0, locals := 0 } : Room) #[(.ref b)] h0 (fun v h L => v = some (.int (1 : Int32)) ∧ Fr n0 L ∧ h = h0) := by
  refine own_body (y := (⟨"com/example/rock_dove/rockdove/store/StoredMessage", "isPersistent", "()Z"⟩ : MethodName)) (plainFor_of_name pn_6) ?_
  intro p e s m below meth c s₁ hx hby hml hown hnm hret hlk hZ X0 e0
  have hml : c.maxLocals = 1 := hml
  have hown : s.vm.findClass "com/example/rock_dove/rockdove/store/StoredMessage" = some m.cls := hown
  have N0 := Fr.nil n0
  refine own_entry (ef_rmIP1 m b) ?_
  show own_Dn p e below s (fun v h L => v = some (.int (1 : Int32)) ∧ Fr n0 L ∧ h = h0) ({ frames := 0, cells := 0, slots := 0, locals := 0 } : Room).cells ({ frames := 0, cells := 0, slots := 0, locals := 0 } : Room).slots (s₁.setTop (mkF m 0 #[.val (.ref b)] []))
  refine own_st (q' := s₁.setTop (mkF m 1 #[.val (.ref b)] [(.ref b)])) (fun _ k => XS.aloadN X0.here hx rfl (hb hby d_rmIP1_0) rfl rfl k) ?_
  obtain ⟨T101, X101, e101, st101⟩ := getF X0 hx hZ hown (host := "") (Or.inl (wd_66 hw)) Via.refl e0 F1 (g := (mkF m 1 #[.val (.ref b)] [(.ref b)])) rfl rfl (hb hby d_rmIP1_1)
  refine own_st (q' := T101.setTop (mkF m 4 #[.val (.ref b)] [(.int (1 : Int32))])) st101 ?_
  exact own_retN X101 hx hlk (t := .boolean) hret (by simp) (hb hby d_rmIP1_4) e101 (by exact ⟨rfl, N0, rfl⟩) (by decide) (by decide)
theorem ef_rmAP0 (m : MethodId) (x0 : Addr) (x1 : Addr) : entryFrame m #[(.ref x0), (.ref x1)] 2 = mkF m 0 #[.val (.ref x0), .val (.ref x1)] [] := by first | (simp [entryFrame, mkF, argsToLocals, Value.category]; done) | rfl
theorem wd_79 {a0 : Array Value} {Z : State} (hw : ∀ d ∈ tables_1, d.before a0 Z = true) : Cond.before (Jvm.Cond.methodLink "com/example/rock_dove/rockdove/store/UnitOfWork" (50 : Nat) ({ cls := "java/util/List", name := "add", desc := "(Ljava/lang/Object;)Z" } : Jvm.MethodName)) a0 Z = true := hw _ (List.mem_of_getElem? (i := 79) rfl)
theorem pd_7 : parseMethodDescriptor "(Ljava/lang/Object;)Z" = some ⟨[(.object "java/lang/Object")], some .boolean⟩ := by decide +kernel
theorem wd_80 {a0 : Array Value} {Z : State} (hw : ∀ d ∈ tables_1, d.before a0 Z = true) : Cond.before (Jvm.Cond.declares ({ cls := "java/util/List", name := "add", desc := "(Ljava/lang/Object;)Z" } : Jvm.MethodName)) a0 Z = true := hw _ (List.mem_of_getElem? (i := 80) rfl)
theorem wd_81 {a0 : Array Value} {Z : State} (hw : ∀ d ∈ tables_1, d.before a0 Z = true) : Cond.before (Jvm.Cond.interfaceMethod "java/util/List" "java/util/List" "add" "(Ljava/lang/Object;)Z") a0 Z = true := hw _ (List.mem_of_getElem? (i := 81) rfl)
theorem wd_83 {a0 : Array Value} {Z : State} (hw : ∀ d ∈ tables_1, d.before a0 Z = true) : Cond.before (Jvm.Cond.instanceMethod ({ cls := "java/util/ArrayList", name := "add", desc := "(Ljava/lang/Object;)Z" } : Jvm.MethodName)) a0 Z = true := hw _ (List.mem_of_getElem? (i := 83) rfl)
theorem wd_84 {a0 : Array Value} {Z : State} (hw : ∀ d ∈ tables_1, d.before a0 Z = true) : Cond.before (Jvm.Cond.publicMethod ({ cls := "java/util/ArrayList", name := "add", desc := "(Ljava/lang/Object;)Z" } : Jvm.MethodName)) a0 Z = true := hw _ (List.mem_of_getElem? (i := 84) rfl)
theorem wd_85 {a0 : Array Value} {Z : State} (hw : ∀ d ∈ tables_1, d.before a0 Z = true) : Cond.before (Jvm.Cond.unhidden "java/util/ArrayList" "add" "(Ljava/lang/Object;)Z") a0 Z = true := hw _ (List.mem_of_getElem? (i := 85) rfl)
theorem wd_86 {a0 : Array Value} {Z : State} (hw : ∀ d ∈ tables_1, d.before a0 Z = true) : Cond.before (Jvm.Cond.castable "java/util/ArrayList" "java/util/List") a0 Z = true := hw _ (List.mem_of_getElem? (i := 86) rfl)
theorem wd_87 {a0 : Array Value} {Z : State} (hw : ∀ d ∈ tables_1, d.before a0 Z = true) : Cond.before (Jvm.Cond.code ({ cls := "java/util/ArrayList", name := "add", desc := "(Ljava/lang/Object;)Z" } : Jvm.MethodName) jdk_38_method_25_code (2 : Nat) (Option.some Jvm.ClassFile.FieldType.boolean)) a0 Z = true := hw _ (List.mem_of_getElem? (i := 87) rfl)
theorem wd_114 {a0 : Array Value} {Z : State} (hw : ∀ d ∈ tables_1, d.before a0 Z = true) : Cond.before (Jvm.Cond.methodLink "com/example/rock_dove/rockdove/store/UnitOfWork" (54 : Nat) ({ cls := "com/example/rock_dove/rockdove/store/StoredMessage", name := "isPersistent", desc := "()Z" } : Jvm.MethodName)) a0 Z = true := hw _ (List.mem_of_getElem? (i := 114) rfl)
theorem pd_8 : parseMethodDescriptor "()Z" = some ⟨[], some .boolean⟩ := by decide +kernel
theorem wd_117 {a0 : Array Value} {Z : State} (hw : ∀ d ∈ tables_1, d.before a0 Z = true) : Cond.before (Jvm.Cond.selects "com/example/rock_dove/rockdove/store/StoredMessage" ({ cls := "com/example/rock_dove/rockdove/store/StoredMessage", name := "isPersistent", desc := "()Z" } : Jvm.MethodName) ({ cls := "com/example/rock_dove/rockdove/store/StoredMessage", name := "isPersistent", desc := "()Z" } : Jvm.MethodName)) a0 Z = true := hw _ (List.mem_of_getElem? (i := 117) rfl)
theorem wd_115 {a0 : Array Value} {Z : State} (hw : ∀ d ∈ tables_1, d.before a0 Z = true) : Cond.before (Jvm.Cond.declares ({ cls := "com/example/rock_dove/rockdove/store/StoredMessage", name := "isPersistent", desc := "()Z" } : Jvm.MethodName)) a0 Z = true := hw _ (List.mem_of_getElem? (i := 115) rfl)
theorem wd_116 {a0 : Array Value} {Z : State} (hw : ∀ d ∈ tables_1, d.before a0 Z = true) : Cond.before (Jvm.Cond.instanceMethod ({ cls := "com/example/rock_dove/rockdove/store/StoredMessage", name := "isPersistent", desc := "()Z" } : Jvm.MethodName)) a0 Z = true := hw _ (List.mem_of_getElem? (i := 116) rfl)
theorem wd_52 {a0 : Array Value} {Z : State} (hw : ∀ d ∈ tables_1, d.before a0 Z = true) : Cond.before (Jvm.Cond.initialized "com/example/rock_dove/rockdove/store/StoredMessage") a0 Z = true := hw _ (List.mem_of_getElem? (i := 52) rfl)
theorem wd_118 {a0 : Array Value} {Z : State} (hw : ∀ d ∈ tables_1, d.before a0 Z = true) : Cond.before (Jvm.Cond.code ({ cls := "com/example/rock_dove/rockdove/store/StoredMessage", name := "isPersistent", desc := "()Z" } : Jvm.MethodName) prog_76_method_5_code (1 : Nat) (Option.some Jvm.ClassFile.FieldType.boolean)) a0 Z = true := hw _ (List.mem_of_getElem? (i := 118) rfl)
theorem sn_32 {a0 : Array Value} {Z : State} (hw : ∀ d ∈ tables_1, d.before a0 Z = true) : Jvm.RoadKit.slotOf Z "com/example/rock_dove/rockdove/store/UnitOfWork" "puts" "Ljava/util/List;" ≠ Jvm.RoadKit.slotOf Z "com/example/rock_dove/rockdove/store/UnitOfWork" "persistentPuts" "I" := slot_ne (Or.inr (wd_34 hw)) (Or.inl (wd_43 hw)) (by decide) (t := (.object "java/util/List")) (t' := .int) (by decide) (by decide)
theorem sn_33 {a0 : Array Value} {Z : State} (hw : ∀ d ∈ tables_1, d.before a0 Z = true) : Jvm.RoadKit.slotOf Z "com/example/rock_dove/rockdove/store/UnitOfWork" "removals" "Ljava/util/List;" ≠ Jvm.RoadKit.slotOf Z "com/example/rock_dove/rockdove/store/UnitOfWork" "persistentPuts" "I" := slot_ne (Or.inr (wd_36 hw)) (Or.inl (wd_43 hw)) (by decide) (t := (.object "java/util/List")) (t' := .int) (by decide) (by decide)
theorem sn_34 {a0 : Array Value} {Z : State} (hw : ∀ d ∈ tables_1, d.before a0 Z = true) : Jvm.RoadKit.slotOf Z "com/example/rock_dove/rockdove/store/UnitOfWork" "persistentRemovals" "I" ≠ Jvm.RoadKit.slotOf Z "com/example/rock_dove/rockdove/store/UnitOfWork" "persistentPuts" "I" := slot_ne (Or.inl (wd_45 hw)) (Or.inl (wd_43 hw)) (by decide) (t := .int) (t' := .int) (by decide) (by decide)
theorem sn_35 {a0 : Array Value} {Z : State} (hw : ∀ d ∈ tables_1, d.before a0 Z = true) : Jvm.RoadKit.slotOf Z "com/example/rock_dove/rockdove/store/UnitOfWork" "id" "J" ≠ Jvm.RoadKit.slotOf Z "com/example/rock_dove/rockdove/store/UnitOfWork" "persistentPuts" "I" := slot_ne (Or.inl (wd_133 hw)) (Or.inl (wd_43 hw)) (by decide) (t := .long) (t' := .int) (by decide) (by decide)
theorem d_rmAP0_0 : decode prog_78_method_7_code 0 = .ok (.aload_n 0, 1) := by decide +kernel
theorem d_rmAP0_1 : decode prog_78_method_7_code 1 = .ok (.getfield 10, 3) := by decide +kernel
theorem d_rmAP0_4 : decode prog_78_method_7_code 4 = .ok (.aload_n 1, 1) := by decide +kernel
theorem d_rmAP0_5 : decode prog_78_method_7_code 5 = .ok (.invokeinterface 50 2, 5) := by decide +kernel
theorem d_rmAP0_10 : decode prog_78_method_7_code 10 = .ok (.pop, 1) := by decide +kernel
theorem d_rmAP0_11 : decode prog_78_method_7_code 11 = .ok (.aload_n 0, 1) := by decide +kernel
theorem d_rmAP0_12 : decode prog_78_method_7_code 12 = .ok (.dup, 1) := by decide +kernel
theorem d_rmAP0_13 : decode prog_78_method_7_code 13 = .ok (.getfield 29, 3) := by decide +kernel
theorem d_rmAP0_16 : decode prog_78_method_7_code 16 = .ok (.aload_n 1, 1) := by decide +kernel
theorem d_rmAP0_17 : decode prog_78_method_7_code 17 = .ok (.invokevirtual 54, 3) := by decide +kernel
theorem d_rmAP0_20 : decode prog_78_method_7_code 20 = .ok (.ifCond .eq 7, 3) := by decide +kernel
theorem d_rmAP0_27 : decode prog_78_method_7_code 27 = .ok (.iconst 0, 1) := by decide +kernel
theorem d_rmAP0_28 : decode prog_78_method_7_code 28 = .ok (.iadd, 1) := by decide +kernel
theorem d_rmAP0_29 : decode prog_78_method_7_code 29 = .ok (.putfield 29, 3) := by decide +kernel
theorem d_rmAP0_32 : decode prog_78_method_7_code 32 = .ok (.return_, 1) := by decide +kernel
set_option maxRecDepth 65536 in
set_option maxHeartbeats 40000000 in
theorem rmAP0 (l : Launch) (Z : State) (a0 : Array Value) (hw : ∀ d ∈ tables_1, d.before a0 Z = true) (ws : List Jvm.Cond) (u L1 L2 ms dc ea1 ea2 : Addr) (k : Nat) (pp pr : Int32) (iD : Int64) (h0 : Heap) (n0 : Nat) (Z0 : n0 ≤ h0.size) (EU : Exa Z h0 u "com/example/rock_dove/rockdove/store/UnitOfWork") (gU : n0 ≤ u) (U_puts : Fld Z h0 u "com/example/rock_dove/rockdove/store/UnitOfWork" "puts" "Ljava/util/List;" (.ref L1)) (U_removals : Fld Z h0 u "com/example/rock_dove/rockdove/store/UnitOfWork" "removals" "Ljava/util/List;" (.ref L2)) (U_persistentPuts : Fld Z h0 u "com/example/rock_dove/rockdove/store/UnitOfWork" "persistentPuts" "I" (.int pp)) (U_persistentRemovals : Fld Z h0 u "com/example/rock_dove/rockdove/store/UnitOfWork" "persistentRemovals" "I" (.int pr)) (U_id : Fld Z h0 u "com/example/rock_dove/rockdove/store/UnitOfWork" "id" "J" (.long iD)) (HL1 : own_L Z n0 dc h0 L1 k ea1) (HL2 : own_L Z n0 dc h0 L2 k ea2) (ne12 : L1 ≠ L2) (hk : k ≤ 3) (Em : Exa Z h0 ms "com/example/rock_dove/rockdove/store/StoredMessage") (F_per : Fld Z h0 ms "com/example/rock_dove/rockdove/store/StoredMessage" "persistent" "Z" (.int (0 : Int32))) (Fs : Sta Z h0 "java/util/ArrayList" "DEFAULTCAPACITY_EMPTY_ELEMENTDATA" "[Ljava/lang/Object;" (.ref dc)) (A0 : own_A Z h0 dc 0) :
    own_Met l Z (⟨"com/example/rock_dove/rockdove/store/UnitOfWork", "addPut", "(Lcom/example/rock_dove/rockdove/store/StoredMessage;)V"⟩ : MethodName) ws prog_78_method_7_code 2 none ({ frames := 5, cells := 1, slots := 10, locals := 69 } : Room) #[(.ref u), (.ref ms)] h0 (fun v h L => v = none ∧ Fr n0 L ∧ n0 ≤ h.size ∧ own_U Z n0 dc h u L1 L2 (k + 1) (pp + (0 : Int32)) pr ∧ Sta Z h "java/util/ArrayList" "DEFAULTCAPACITY_EMPTY_ELEMENTDATA" "[Ljava/lang/Object;" (.ref dc) ∧ own_A Z h dc 0) := by
  refine own_body (y := (⟨"com/example/rock_dove/rockdove/store/UnitOfWork", "addPut", "(Lcom/example/rock_dove/rockdove/store/StoredMessage;)V"⟩ : MethodName)) (plainFor_of_name pn_4) ?_
  intro p e s m below meth c s₁ hx hby hml hown hnm hret hlk hZ X0 e0
  have hml : c.maxLocals = 2 := hml
  have hown : s.vm.findClass "com/example/rock_dove/rockdove/store/UnitOfWork" = some m.cls := hown
  have N0 := Fr.nil n0
  refine own_entry (ef_rmAP0 m u ms) ?_
  show own_Dn p e below s (fun v h L => v = none ∧ Fr n0 L ∧ n0 ≤ h.size ∧ own_U Z n0 dc h u L1 L2 (k + 1) (pp + (0 : Int32)) pr ∧ Sta Z h "java/util/ArrayList" "DEFAULTCAPACITY_EMPTY_ELEMENTDATA" "[Ljava/lang/Object;" (.ref dc) ∧ own_A Z h dc 0) ({ frames := 5, cells := 1, slots := 10, locals := 69 } : Room).cells ({ frames := 5, cells := 1, slots := 10, locals := 69 } : Room).slots (s₁.setTop (mkF m 0 #[.val (.ref u), .val (.ref ms)] []))
  obtain ⟨j1, Q1⟩ := HL1.arr A0
  obtain ⟨j2, Q2⟩ := HL2.arr A0
  refine own_st (q' := s₁.setTop (mkF m 1 #[.val (.ref u), .val (.ref ms)] [(.ref u)])) (fun _ k => XS.aloadN X0.here hx rfl (hb hby d_rmAP0_0) rfl rfl k) ?_
  obtain ⟨T101, X101, e101, st101⟩ := getF X0 hx hZ hown (host := "") (Or.inl (wd_33 hw)) Via.refl e0 U_puts (g := (mkF m 1 #[.val (.ref u), .val (.ref ms)] [(.ref u)])) rfl rfl (hb hby d_rmAP0_1)
  refine own_st (q' := T101.setTop (mkF m 4 #[.val (.ref u), .val (.ref ms)] [(.ref L1)])) st101 ?_
  refine own_st (q' := T101.setTop (mkF m 5 #[.val (.ref u), .val (.ref ms)] [(.ref ms), (.ref L1)])) (fun _ k => XS.aloadN X101.here hx rfl (hb hby d_rmAP0_4) rfl rfl k) ?_
  refine own_callF (xi := (⟨"java/util/List", "add", "(Ljava/lang/Object;)Z"⟩ : MethodName)) (y := (⟨"java/util/ArrayList", "add", "(Ljava/lang/Object;)Z"⟩ : MethodName)) X101 hx hZ hown (wd_79 hw) (wd_80 hw) (wd_81 hw) (wd_82 hw) (wd_83 hw) (wd_84 hw) (wd_85 hw) (wd_86 hw) (wd_11 hw) (wd_87 hw) (by decide) (rmAdd l Z a0 hw [] L1 ms dc ea1 k h0 n0 Z0 HL1 (by omega) Em Fs A0) e101 HL1.1 (W := 0) (by decide) (by decide) (by decide) (by decide) (g := (mkF m 5 #[.val (.ref u), .val (.ref ms)] [(.ref ms), (.ref L1)])) rfl (by rw [hml]; rfl) (argsL := [(.ref ms)]) (rest := []) rfl (lenOf pd_7 rfl) rfl (by show 2 * 0 + _ ≤ _; exact Nat.le_of_eq rfl) (hb hby d_rmAP0_5) ?_
  intro v102 T102 L102 hQ102 X102
  obtain ⟨r102, rfl, NN102, KK102, q102_0, q102_1, q102_2⟩ := hQ102
  have N102 := Fr.app N0 NN102
  show own_Dn p e below s (fun v h L => v = none ∧ Fr n0 L ∧ n0 ≤ h.size ∧ own_U Z n0 dc h u L1 L2 (k + 1) (pp + (0 : Int32)) pr ∧ Sta Z h "java/util/ArrayList" "DEFAULTCAPACITY_EMPTY_ELEMENTDATA" "[Ljava/lang/Object;" (.ref dc) ∧ own_A Z h dc 0) ({ frames := 5, cells := 1, slots := 10, locals := 69 } : Room).cells ({ frames := 5, cells := 1, slots := 10, locals := 69 } : Room).slots (T102.setTop (mkF m 10 #[.val (.ref u), .val (.ref ms)] [(.int (1 : Int32))]))
  refine own_st (q' := T102.setTop (mkF m 13 #[.val (.ref u), .val (.ref ms)] [(.ref u), (.ref u)])) (fun _ k => XS.pop X102.here hx rfl (hb hby d_rmAP0_10) rfl rfl (XS.aloadN X102.here hx rfl (hb hby d_rmAP0_11) rfl rfl (XS.dup X102.here hx rfl (hb hby d_rmAP0_12) rfl rfl k))) ?_
  have f103 := (U_persistentPuts.keep KK102 (ninS (ne_exa EU HL1.1 (by decide)) (ninS (Q1.ne EU (wd_1 hw)) nin0)))
  obtain ⟨T104, X104, e104, st104⟩ := getF X102 hx hZ hown (host := "") (Or.inl (wd_42 hw)) Via.refl (rfl : T102.heap = T102.heap) f103 (g := (mkF m 13 #[.val (.ref u), .val (.ref ms)] [(.ref u), (.ref u)])) rfl rfl (hb hby d_rmAP0_13)
  refine own_st (q' := T104.setTop (mkF m 16 #[.val (.ref u), .val (.ref ms)] [(.int pp), (.ref u)])) st104 ?_
  refine own_st (q' := T104.setTop (mkF m 17 #[.val (.ref u), .val (.ref ms)] [(.ref ms), (.int pp), (.ref u)])) (fun _ k => XS.aloadN X104.here hx rfl (hb hby d_rmAP0_16) rfl rfl k) ?_
  have f105 := (F_per.keep KK102 (ninS (Ne.symm (ne_exa HL1.1 Em (by decide))) (ninS (Q1.ne Em (wd_51 hw)) nin0)))
  have f107 := (Em.keep KK102)
  refine own_callV (y := (⟨"com/example/rock_dove/rockdove/store/StoredMessage", "isPersistent", "()Z"⟩ : MethodName)) X104 hx hZ hown (wd_114 hw) (wd_115 hw) (wd_117 hw) (wd_116 hw) (wd_52 hw) (wd_118 hw) (by decide) (rmIP0 l Z a0 hw [] ms T102.heap n0 (Nat.le_trans Z0 KK102.1) f105) e104 f107 (W := 2) (by decide) (by decide) (by decide) (by decide) (g := (mkF m 17 #[.val (.ref u), .val (.ref ms)] [(.ref ms), (.int pp), (.ref u)])) rfl (by rw [hml]; rfl) (argsL := []) (rest := [(.int pp), (.ref u)]) rfl (lenOf pd_8 rfl) rfl (by show 2 * 0 + _ ≤ _; exact Nat.le_of_eq rfl) (hb hby d_rmAP0_17) ?_
  intro v106 T106 L106 hQ106 X106
  obtain ⟨rfl, NN106, e106⟩ := hQ106
  have N106 := Fr.app N102 NN106
  show own_Dn p e below s (fun v h L => v = none ∧ Fr n0 L ∧ n0 ≤ h.size ∧ own_U Z n0 dc h u L1 L2 (k + 1) (pp + (0 : Int32)) pr ∧ Sta Z h "java/util/ArrayList" "DEFAULTCAPACITY_EMPTY_ELEMENTDATA" "[Ljava/lang/Object;" (.ref dc) ∧ own_A Z h dc 0) ({ frames := 5, cells := 1, slots := 10, locals := 69 } : Room).cells ({ frames := 5, cells := 1, slots := 10, locals := 69 } : Room).slots (T106.setTop (mkF m 20 #[.val (.ref u), .val (.ref ms)] [(.int (0 : Int32)), (.int pp), (.ref u)]))
  refine own_st (q' := T106.setTop (mkF m 29 #[.val (.ref u), .val (.ref ms)] [(.int (pp + (0 : Int32))), (.ref u)])) (fun _ k => XS.ifYes X106.here hx rfl (pc0 := 20) (pc' := 27) rfl (hb hby d_rmAP0_20) rfl ((if0 _ _).trans (teq ((by decide : (0 : Int32) = (0 : Int32)) : (0 : Int32) = (0 : Int32))).1) (by decide) (by decide) (XS.iconst X106.here hx rfl (hb hby d_rmAP0_27) (XS.iadd X106.here hx rfl (hb hby d_rmAP0_28) rfl k))) ?_
  have f108 := (EU.keep KK102)
  obtain ⟨T109, h109, X109, e109, W109, st109⟩ := putF X106 hx hZ hown (host := "") (Or.inl (wd_42 hw)) Via.refl e106 f103 f108 (Or.inl (wd_43 hw)) (wd_1 hw) (ty := .int) (by decide) rfl rfl (g := (mkF m 29 #[.val (.ref u), .val (.ref ms)] [(.int (pp + (0 : Int32))), (.ref u)])) rfl rfl (hb hby d_rmAP0_29)
  have N109 := Fr.snoc X109 N106 gU
  have F109 := f103.same W109
  refine own_st (q' := T109.setTop (mkF m 32 #[.val (.ref u), .val (.ref ms)] [])) st109 ?_
  have f110 := (f108.wr W109)
  have f111 := ((U_puts.keep KK102 (ninS (ne_exa EU HL1.1 (by decide)) (ninS (Q1.ne EU (wd_1 hw)) nin0))).other W109 (Or.inr (sn_32 hw)))
  have f112 := ((U_removals.keep KK102 (ninS (ne_exa EU HL1.1 (by decide)) (ninS (Q1.ne EU (wd_1 hw)) nin0))).other W109 (Or.inr (sn_33 hw)))
  have f113 := ((U_persistentRemovals.keep KK102 (ninS (ne_exa EU HL1.1 (by decide)) (ninS (Q1.ne EU (wd_1 hw)) nin0))).other W109 (Or.inr (sn_34 hw)))
  have f114 := ((U_id.keep KK102 (ninS (ne_exa EU HL1.1 (by decide)) (ninS (Q1.ne EU (wd_1 hw)) nin0))).other W109 (Or.inr (sn_35 hw)))
  have f115 := (q102_0.other W109 (Ne.symm (ne_exa EU HL1.1 (by decide))))
  have f116 := ((HL2.keep KK102 (ninS (Ne.symm ne12) (ninS (Q1.ne HL2.1 (wd_10 hw)) nin0))).other W109 (Ne.symm (ne_exa EU HL2.1 (by decide))))
  have f117 := (q102_1.wr W109)
  have f118 := (q102_2.wr W109)
  exact own_retV X109 hx hlk hret (hb hby d_rmAP0_32) e109 (by exact ⟨rfl, N109, (Nat.le_trans (Nat.le_trans Z0 KK102.1) (Keep.of_wr W109).1), (⟨f110, gU, f111, f112, F109, f113, ⟨_, f114⟩, ⟨_, f115⟩, ⟨_, f116.mono (by omega)⟩⟩), f117, f118⟩) (by decide) (by decide)
theorem ef_rmAR0 (m : MethodId) (x0 : Addr) (x1 : Addr) : entryFrame m #[(.ref x0), (.ref x1)] 2 = mkF m 0 #[.val (.ref x0), .val (.ref x1)] [] := by first | (simp [entryFrame, mkF, argsToLocals, Value.category]; done) | rfl
theorem sn_36 {a0 : Array Value} {Z : State} (hw : ∀ d ∈ tables_1, d.before a0 Z = true) : Jvm.RoadKit.slotOf Z "com/example/rock_dove/rockdove/store/UnitOfWork" "puts" "Ljava/util/List;" ≠ Jvm.RoadKit.slotOf Z "com/example/rock_dove/rockdove/store/UnitOfWork" "persistentRemovals" "I" := slot_ne (Or.inr (wd_34 hw)) (Or.inl (wd_45 hw)) (by decide) (t := (.object "java/util/List")) (t' := .int) (by decide) (by decide)
theorem sn_37 {a0 : Array Value} {Z : State} (hw : ∀ d ∈ tables_1, d.before a0 Z = true) : Jvm.RoadKit.slotOf Z "com/example/rock_dove/rockdove/store/UnitOfWork" "removals" "Ljava/util/List;" ≠ Jvm.RoadKit.slotOf Z "com/example/rock_dove/rockdove/store/UnitOfWork" "persistentRemovals" "I" := slot_ne (Or.inr (wd_36 hw)) (Or.inl (wd_45 hw)) (by decide) (t := (.object "java/util/List")) (t' := .int) (by decide) (by decide)
theorem sn_38 {a0 : Array Value} {Z : State} (hw : ∀ d ∈ tables_1, d.before a0 Z = true) : Jvm.RoadKit.slotOf Z "com/example/rock_dove/rockdove/store/UnitOfWork" "persistentPuts" "I" ≠ Jvm.RoadKit.slotOf Z "com/example/rock_dove/rockdove/store/UnitOfWork" "persistentRemovals" "I" := slot_ne (Or.inl (wd_43 hw)) (Or.inl (wd_45 hw)) (by decide) (t := .int) (t' := .int) (by decide) (by decide)
theorem sn_39 {a0 : Array Value} {Z : State} (hw : ∀ d ∈ tables_1, d.before a0 Z = true) : Jvm.RoadKit.slotOf Z "com/example/rock_dove/rockdove/store/UnitOfWork" "id" "J" ≠ Jvm.RoadKit.slotOf Z "com/example/rock_dove/rockdove/store/UnitOfWork" "persistentRemovals" "I" := slot_ne (Or.inl (wd_133 hw)) (Or.inl (wd_45 hw)) (by decide) (t := .long) (t' := .int) (by decide) (by decide)
theorem d_rmAR0_0 : decode prog_78_method_8_code 0 = .ok (.aload_n 0, 1) := by decide +kernel
theorem d_rmAR0_1 : decode prog_78_method_8_code 1 = .ok (.getfield 16, 3) := by decide +kernel
theorem d_rmAR0_4 : decode prog_78_method_8_code 4 = .ok (.aload_n 1, 1) := by decide +kernel
theorem d_rmAR0_5 : decode prog_78_method_8_code 5 = .ok (.invokeinterface 50 2, 5) := by decide +kernel
theorem d_rmAR0_10 : decode prog_78_method_8_code 10 = .ok (.pop, 1) := by decide +kernel
theorem d_rmAR0_11 : decode prog_78_method_8_code 11 = .ok (.aload_n 0, 1) := by decide +kernel
theorem d_rmAR0_12 : decode prog_78_method_8_code 12 = .ok (.dup, 1) := by decide +kernel
theorem d_rmAR0_13 : decode prog_78_method_8_code 13 = .ok (.getfield 33, 3) := by decide +kernel
theorem d_rmAR0_16 : decode prog_78_method_8_code 16 = .ok (.aload_n 1, 1) := by decide +kernel
theorem d_rmAR0_17 : decode prog_78_method_8_code 17 = .ok (.invokevirtual 54, 3) := by decide +kernel
theorem d_rmAR0_20 : decode prog_78_method_8_code 20 = .ok (.ifCond .eq 7, 3) := by decide +kernel
theorem d_rmAR0_27 : decode prog_78_method_8_code 27 = .ok (.iconst 0, 1) := by decide +kernel
theorem d_rmAR0_28 : decode prog_78_method_8_code 28 = .ok (.iadd, 1) := by decide +kernel
theorem d_rmAR0_29 : decode prog_78_method_8_code 29 = .ok (.putfield 33, 3) := by decide +kernel
theorem d_rmAR0_32 : decode prog_78_method_8_code 32 = .ok (.return_, 1) := by decide +kernel
set_option maxRecDepth 65536 in
set_option maxHeartbeats 40000000 in
theorem rmAR0 (l : Launch) (Z : State) (a0 : Array Value) (hw : ∀ d ∈ tables_1, d.before a0 Z = true) (ws : List Jvm.Cond) (u L1 L2 ms dc ea1 ea2 : Addr) (k : Nat) (pp pr : Int32) (iD : Int64) (h0 : Heap) (n0 : Nat) (Z0 : n0 ≤ h0.size) (EU : Exa Z h0 u "com/example/rock_dove/rockdove/store/UnitOfWork") (gU : n0 ≤ u) (U_puts : Fld Z h0 u "com/example/rock_dove/rockdove/store/UnitOfWork" "puts" "Ljava/util/List;" (.ref L1)) (U_removals : Fld Z h0 u "com/example/rock_dove/rockdove/store/UnitOfWork" "removals" "Ljava/util/List;" (.ref L2)) (U_persistentPuts : Fld Z h0 u "com/example/rock_dove/rockdove/store/UnitOfWork" "persistentPuts" "I" (.int pp)) (U_persistentRemovals : Fld Z h0 u "com/example/rock_dove/rockdove/store/UnitOfWork" "persistentRemovals" "I" (.int pr)) (U_id : Fld Z h0 u "com/example/rock_dove/rockdove/store/UnitOfWork" "id" "J" (.long iD)) (HL1 : own_L Z n0 dc h0 L1 k ea1) (HL2 : own_L Z n0 dc h0 L2 k ea2) (ne12 : L1 ≠ L2) (hk : k ≤ 3) (Em : Exa Z h0 ms "com/example/rock_dove/rockdove/store/StoredMessage") (F_per : Fld Z h0 ms "com/example/rock_dove/rockdove/store/StoredMessage" "persistent" "Z" (.int (0 : Int32))) (Fs : Sta Z h0 "java/util/ArrayList" "DEFAULTCAPACITY_EMPTY_ELEMENTDATA" "[Ljava/lang/Object;" (.ref dc)) (A0 : own_A Z h0 dc 0) :
    own_Met l Z (⟨"com/example/rock_dove/rockdove/store/UnitOfWork", "addRemoval", "(Lcom/example/rock_dove/rockdove/store/StoredMessage;)V"⟩ : MethodName) ws prog_78_method_8_code 2 none ({ frames := 5, cells := 1, slots := 10, locals := 69 } : Room) #[(.ref u), (.ref ms)] h0 (fun v h L => v = none ∧ Fr n0 L ∧ n0 ≤ h.size ∧ own_U Z n0 dc h u L1 L2 (k + 1) pp (pr + (0 : Int32)) ∧ Sta Z h "java/util/ArrayList" "DEFAULTCAPACITY_EMPTY_ELEMENTDATA" "[Ljava/lang/Object;" (.ref dc) ∧ own_A Z h dc 0) := by
  refine own_body (y := (⟨"com/example/rock_dove/rockdove/store/UnitOfWork", "addRemoval", "(Lcom/example/rock_dove/rockdove/store/StoredMessage;)V"⟩ : MethodName)) (plainFor_of_name pn_4) ?_
  intro p e s m below meth c s₁ hx hby hml hown hnm hret hlk hZ X0 e0
  have hml : c.maxLocals = 2 := hml
  have hown : s.vm.findClass "com/example/rock_dove/rockdove/store/UnitOfWork" = some m.cls := hown
  have N0 := Fr.nil n0
  refine own_entry (ef_rmAR0 m u ms) ?_
  show own_Dn p e below s (fun v h L => v = none ∧ Fr n0 L ∧ n0 ≤ h.size ∧ own_U Z n0 dc h u L1 L2 (k + 1) pp (pr + (0 : Int32)) ∧ Sta Z h "java/util/ArrayList" "DEFAULTCAPACITY_EMPTY_ELEMENTDATA" "[Ljava/lang/Object;" (.ref dc) ∧ own_A Z h dc 0) ({ frames := 5, cells := 1, slots := 10, locals := 69 } : Room).cells ({ frames := 5, cells := 1, slots := 10, locals := 69 } : Room).slots (s₁.setTop (mkF m 0 #[.val (.ref u), .val (.ref ms)] []))
  obtain ⟨j1, Q1⟩ := HL1.arr A0
  obtain ⟨j2, Q2⟩ := HL2.arr A0
  refine own_st (q' := s₁.setTop (mkF m 1 #[.val (.ref u), .val (.ref ms)] [(.ref u)])) (fun _ k => XS.aloadN X0.here hx rfl (hb hby d_rmAR0_0) rfl rfl k) ?_
  obtain ⟨T101, X101, e101, st101⟩ := getF X0 hx hZ hown (host := "") (Or.inl (wd_35 hw)) Via.refl e0 U_removals (g := (mkF m 1 #[.val (.ref u), .val (.ref ms)] [(.ref u)])) rfl rfl (hb hby d_rmAR0_1)
  refine own_st (q' := T101.setTop (mkF m 4 #[.val (.ref u), .val (.ref ms)] [(.ref L2)])) st101 ?_
  refine own_st (q' := T101.setTop (mkF m 5 #[.val (.ref u), .val (.ref ms)] [(.ref ms), (.ref L2)])) (fun _ k => XS.aloadN X101.here hx rfl (hb hby d_rmAR0_4) rfl rfl k) ?_
  refine own_callF (xi := (⟨"java/util/List", "add", "(Ljava/lang/Object;)Z"⟩ : MethodName)) (y := (⟨"java/util/ArrayList", "add", "(Ljava/lang/Object;)Z"⟩ : MethodName)) X101 hx hZ hown (wd_79 hw) (wd_80 hw) (wd_81 hw) (wd_82 hw) (wd_83 hw) (wd_84 hw) (wd_85 hw) (wd_86 hw) (wd_11 hw) (wd_87 hw) (by decide) (rmAdd l Z a0 hw [] L2 ms dc ea2 k h0 n0 Z0 HL2 (by omega) Em Fs A0) e101 HL2.1 (W := 0) (by decide) (by decide) (by decide) (by decide) (g := (mkF m 5 #[.val (.ref u), .val (.ref ms)] [(.ref ms), (.ref L2)])) rfl (by rw [hml]; rfl) (argsL := [(.ref ms)]) (rest := []) rfl (lenOf pd_7 rfl) rfl (by show 2 * 0 + _ ≤ _; exact Nat.le_of_eq rfl) (hb hby d_rmAR0_5) ?_
  intro v102 T102 L102 hQ102 X102
  obtain ⟨r102, rfl, NN102, KK102, q102_0, q102_1, q102_2⟩ := hQ102
  have N102 := Fr.app N0 NN102
  show own_Dn p e below s (fun v h L => v = none ∧ Fr n0 L ∧ n0 ≤ h.size ∧ own_U Z n0 dc h u L1 L2 (k + 1) pp (pr + (0 : Int32)) ∧ Sta Z h "java/util/ArrayList" "DEFAULTCAPACITY_EMPTY_ELEMENTDATA" "[Ljava/lang/Object;" (.ref dc) ∧ own_A Z h dc 0) ({ frames := 5, cells := 1, slots := 10, locals := 69 } : Room).cells ({ frames := 5, cells := 1, slots := 10, locals := 69 } : Room).slots (T102.setTop (mkF m 10 #[.val (.ref u), .val (.ref ms)] [(.int (1 : Int32))]))
  refine own_st (q' := T102.setTop (mkF m 13 #[.val (.ref u), .val (.ref ms)] [(.ref u), (.ref u)])) (fun _ k => XS.pop X102.here hx rfl (hb hby d_rmAR0_10) rfl rfl (XS.aloadN X102.here hx rfl (hb hby d_rmAR0_11) rfl rfl (XS.dup X102.here hx rfl (hb hby d_rmAR0_12) rfl rfl k))) ?_
  have f103 := (U_persistentRemovals.keep KK102 (ninS (ne_exa EU HL2.1 (by decide)) (ninS (Q2.ne EU (wd_1 hw)) nin0)))
  obtain ⟨T104, X104, e104, st104⟩ := getF X102 hx hZ hown (host := "") (Or.inl (wd_44 hw)) Via.refl (rfl : T102.heap = T102.heap) f103 (g := (mkF m 13 #[.val (.ref u), .val (.ref ms)] [(.ref u), (.ref u)])) rfl rfl (hb hby d_rmAR0_13)
  refine own_st (q' := T104.setTop (mkF m 16 #[.val (.ref u), .val (.ref ms)] [(.int pr), (.ref u)])) st104 ?_
  refine own_st (q' := T104.setTop (mkF m 17 #[.val (.ref u), .val (.ref ms)] [(.ref ms), (.int pr), (.ref u)])) (fun _ k => XS.aloadN X104.here hx rfl (hb hby d_rmAR0_16) rfl rfl k) ?_
  have f105 := (F_per.keep KK102 (ninS (Ne.symm (ne_exa HL2.1 Em (by decide))) (ninS (Q2.ne Em (wd_51 hw)) nin0)))
  have f107 := (Em.keep KK102)
  refine own_callV (y := (⟨"com/example/rock_dove/rockdove/store/StoredMessage", "isPersistent", "()Z"⟩ : MethodName)) X104 hx hZ hown (wd_114 hw) (wd_115 hw) (wd_117 hw) (wd_116 hw) (wd_52 hw) (wd_118 hw) (by decide) (rmIP0 l Z a0 hw [] ms T102.heap n0 (Nat.le_trans Z0 KK102.1) f105) e104 f107 (W := 2) (by decide) (by decide) (by decide) (by decide) (g := (mkF m 17 #[.val (.ref u), .val (.ref ms)] [(.ref ms), (.int pr), (.ref u)])) rfl (by rw [hml]; rfl) (argsL := []) (rest := [(.int pr), (.ref u)]) rfl (lenOf pd_8 rfl) rfl (by show 2 * 0 + _ ≤ _; exact Nat.le_of_eq rfl) (hb hby d_rmAR0_17) ?_
  intro v106 T106 L106 hQ106 X106
  obtain ⟨rfl, NN106, e106⟩ := hQ106
  have N106 := Fr.app N102 NN106
  show own_Dn p e below s (fun v h L => v = none ∧ Fr n0 L ∧ n0 ≤ h.size ∧ own_U Z n0 dc h u L1 L2 (k + 1) pp (pr + (0 : Int32)) ∧ Sta Z h "java/util/ArrayList" "DEFAULTCAPACITY_EMPTY_ELEMENTDATA" "[Ljava/lang/Object;" (.ref dc) ∧ own_A Z h dc 0) ({ frames := 5, cells := 1, slots := 10, locals := 69 } : Room).cells ({ frames := 5, cells := 1, slots := 10, locals := 69 } : Room).slots (T106.setTop (mkF m 20 #[.val (.ref u), .val (.ref ms)] [(.int (0 : Int32)), (.int pr), (.ref u)]))
  refine own_st (q' := T106.setTop (mkF m 29 #[.val (.ref u), .val (.ref ms)] [(.int (pr + (0 : Int32))), (.ref u)])) (fun _ k => XS.ifYes X106.here hx rfl (pc0 := 20) (pc' := 27) rfl (hb hby d_rmAR0_20) rfl ((if0 _ _).trans (teq ((by decide : (0 : Int32) = (0 : Int32)) : (0 : Int32) = (0 : Int32))).1) (by decide) (by decide) (XS.iconst X106.here hx rfl (hb hby d_rmAR0_27) (XS.iadd X106.here hx rfl (hb hby d_rmAR0_28) rfl k))) ?_
  have f108 := (EU.keep KK102)
  obtain ⟨T109, h109, X109, e109, W109, st109⟩ := putF X106 hx hZ hown (host := "") (Or.inl (wd_44 hw)) Via.refl e106 f103 f108 (Or.inl (wd_45 hw)) (wd_1 hw) (ty := .int) (by decide) rfl rfl (g := (mkF m 29 #[.val (.ref u), .val (.ref ms)] [(.int (pr + (0 : Int32))), (.ref u)])) rfl rfl (hb hby d_rmAR0_29)
  have N109 := Fr.snoc X109 N106 gU
  have F109 := f103.same W109
  refine own_st (q' := T109.setTop (mkF m 32 #[.val (.ref u), .val (.ref ms)] [])) st109 ?_
  have f110 := (f108.wr W109)
  have f111 := ((U_puts.keep KK102 (ninS (ne_exa EU HL2.1 (by decide)) (ninS (Q2.ne EU (wd_1 hw)) nin0))).other W109 (Or.inr (sn_36 hw)))
  have f112 := ((U_removals.keep KK102 (ninS (ne_exa EU HL2.1 (by decide)) (ninS (Q2.ne EU (wd_1 hw)) nin0))).other W109 (Or.inr (sn_37 hw)))
  have f113 := ((U_persistentPuts.keep KK102 (ninS (ne_exa EU HL2.1 (by decide)) (ninS (Q2.ne EU (wd_1 hw)) nin0))).other W109 (Or.inr (sn_38 hw)))
  have f114 := ((U_id.keep KK102 (ninS (ne_exa EU HL2.1 (by decide)) (ninS (Q2.ne EU (wd_1 hw)) nin0))).other W109 (Or.inr (sn_39 hw)))
  have f115 := ((HL1.keep KK102 (ninS ne12 (ninS (Q2.ne HL1.1 (wd_10 hw)) nin0))).other W109 (Ne.symm (ne_exa EU HL1.1 (by decide))))
  have f116 := (q102_0.other W109 (Ne.symm (ne_exa EU HL2.1 (by decide))))
  have f117 := (q102_1.wr W109)
  have f118 := (q102_2.wr W109)
  exact own_retV X109 hx hlk hret (hb hby d_rmAR0_32) e109 (by exact ⟨rfl, N109, (Nat.le_trans (Nat.le_trans Z0 KK102.1) (Keep.of_wr W109).1), (⟨f110, gU, f111, f112, f113, F109, ⟨_, f114⟩, ⟨_, f115.mono (by omega)⟩, ⟨_, f116⟩⟩), f117, f118⟩) (by decide) (by decide)
theorem ef_rmAP1 (m : MethodId) (x0 : Addr) (x1 : Addr) : entryFrame m #[(.ref x0), (.ref x1)] 2 = mkF m 0 #[.val (.ref x0), .val (.ref x1)] [] := by first | (simp [entryFrame, mkF, argsToLocals, Value.category]; done) | rfl
theorem d_rmAP1_0 : decode prog_78_method_7_code 0 = .ok (.aload_n 0, 1) := by decide +kernel
theorem d_rmAP1_1 : decode prog_78_method_7_code 1 = .ok (.getfield 10, 3) := by decide +kernel
theorem d_rmAP1_4 : decode prog_78_method_7_code 4 = .ok (.aload_n 1, 1) := by decide +kernel
theorem d_rmAP1_5 : decode prog_78_method_7_code 5 = .ok (.invokeinterface 50 2, 5) := by decide +kernel
theorem d_rmAP1_10 : decode prog_78_method_7_code 10 = .ok (.pop, 1) := by decide +kernel
theorem d_rmAP1_11 : decode prog_78_method_7_code 11 = .ok (.aload_n 0, 1) := by decide +kernel
theorem d_rmAP1_12 : decode prog_78_method_7_code 12 = .ok (.dup, 1) := by decide +kernel
theorem d_rmAP1_13 : decode prog_78_method_7_code 13 = .ok (.getfield 29, 3) := by decide +kernel
theorem d_rmAP1_16 : decode prog_78_method_7_code 16 = .ok (.aload_n 1, 1) := by decide +kernel
theorem d_rmAP1_17 : decode prog_78_method_7_code 17 = .ok (.invokevirtual 54, 3) := by decide +kernel
theorem d_rmAP1_20 : decode prog_78_method_7_code 20 = .ok (.ifCond .eq 7, 3) := by decide +kernel
theorem d_rmAP1_23 : decode prog_78_method_7_code 23 = .ok (.iconst 1, 1) := by decide +kernel
theorem d_rmAP1_24 : decode prog_78_method_7_code 24 = .ok (.goto 4, 3) := by decide +kernel
theorem d_rmAP1_28 : decode prog_78_method_7_code 28 = .ok (.iadd, 1) := by decide +kernel
theorem d_rmAP1_29 : decode prog_78_method_7_code 29 = .ok (.putfield 29, 3) := by decide +kernel
theorem d_rmAP1_32 : decode prog_78_method_7_code 32 = .ok (.return_, 1) := by decide +kernel
set_option maxRecDepth 65536 in
set_option maxHeartbeats 40000000 in
theorem rmAP1 (l : Launch) (Z : State) (a0 : Array Value) (hw : ∀ d ∈ tables_1, d.before a0 Z = true) (ws : List Jvm.Cond) (u L1 L2 ms dc ea1 ea2 : Addr) (k : Nat) (pp pr : Int32) (iD : Int64) (h0 : Heap) (n0 : Nat) (Z0 : n0 ≤ h0.size) (EU : Exa Z h0 u "com/example/rock_dove/rockdove/store/UnitOfWork") (gU : n0 ≤ u) (U_puts : Fld Z h0 u "com/example/rock_dove/rockdove/store/UnitOfWork" "puts" "Ljava/util/List;" (.ref L1)) (U_removals : Fld Z h0 u "com/example/rock_dove/rockdove/store/UnitOfWork" "removals" "Ljava/util/List;" (.ref L2)) (U_persistentPuts : Fld Z h0 u "com/example/rock_dove/rockdove/store/UnitOfWork" "persistentPuts" "I" (.int pp)) (U_persistentRemovals : Fld Z h0 u "com/example/rock_dove/rockdove/store/UnitOfWork" "persistentRemovals" "I" (.int pr)) (U_id : Fld Z h0 u "com/example/rock_dove/rockdove/store/UnitOfWork" "id" "J" (.long iD)) (HL1 : own_L Z n0 dc h0 L1 k ea1) (HL2 : own_L Z n0 dc h0 L2 k ea2) (ne12 : L1 ≠ L2) (hk : k ≤ 3) (Em : Exa Z h0 ms "com/example/rock_dove/rockdove/store/StoredMessage") (F_per : Fld Z h0 ms "com/example/rock_dove/rockdove/store/StoredMessage" "persistent" "Z" (.int (1 : Int32))) (Fs : Sta Z h0 "java/util/ArrayList" "DEFAULTCAPACITY_EMPTY_ELEMENTDATA" "[Ljava/lang/Object;" (.ref dc)) (A0 : own_A Z h0 dc 0) :
    own_Met l Z (⟨"com/example/rock_dove/rockdove/store/UnitOfWork", "addPut", "(Lcom/example/rock_dove/rockdove/store/StoredMessage;)V"⟩ : MethodName) ws prog_78_method_7_code 2 none ({ frames := 5, cells := 1, slots := 10, locals := 69 } : Room) #[(.ref u), (.ref ms)] h0 (fun v h L => v = none ∧ Fr n0 L ∧ n0 ≤ h.size ∧ own_U Z n0 dc h u L1 L2 (k + 1) (pp + (1 : Int32)) pr ∧ Sta Z h "java/util/ArrayList" "DEFAULTCAPACITY_EMPTY_ELEMENTDATA" "[Ljava/lang/Object;" (.ref dc) ∧ own_A Z h dc 0) := by
  refine own_body (y := (⟨"com/example/rock_dove/rockdove/store/UnitOfWork", "addPut", "(Lcom/example/rock_dove/rockdove/store/StoredMessage;)V"⟩ : MethodName)) (plainFor_of_name pn_4) ?_
  intro p e s m below meth c s₁ hx hby hml hown hnm hret hlk hZ X0 e0
  have hml : c.maxLocals = 2 := hml
  have hown : s.vm.findClass "com/example/rock_dove/rockdove/store/UnitOfWork" = some m.cls := hown
  have N0 := Fr.nil n0
  refine own_entry (ef_rmAP1 m u ms) ?_
  show own_Dn p e below s (fun v h L => v = none ∧ Fr n0 L ∧ n0 ≤ h.size ∧ own_U Z n0 dc h u L1 L2 (k + 1) (pp + (1 : Int32)) pr ∧ Sta Z h "java/util/ArrayList" "DEFAULTCAPACITY_EMPTY_ELEMENTDATA" "[Ljava/lang/Object;" (.ref dc) ∧ own_A Z h dc 0) ({ frames := 5, cells := 1, slots := 10, locals := 69 } : Room).cells ({ frames := 5, cells := 1, slots := 10, locals := 69 } : Room).slots (s₁.setTop (mkF m 0 #[.val (.ref u), .val (.ref ms)] []))
  obtain ⟨j1, Q1⟩ := HL1.arr A0
  obtain ⟨j2, Q2⟩ := HL2.arr A0
  refine own_st (q' := s₁.setTop (mkF m 1 #[.val (.ref u), .val (.ref ms)] [(.ref u)])) (fun _ k => XS.aloadN X0.here hx rfl (hb hby d_rmAP1_0) rfl rfl k) ?_
  obtain ⟨T101, X101, e101, st101⟩ := getF X0 hx hZ hown (host := "") (Or.inl (wd_33 hw)) Via.refl e0 U_puts (g := (mkF m 1 #[.val (.ref u), .val (.ref ms)] [(.ref u)])) rfl rfl (hb hby d_rmAP1_1)
  refine own_st (q' := T101.setTop (mkF m 4 #[.val (.ref u), .val (.ref ms)] [(.ref L1)])) st101 ?_
  refine own_st (q' := T101.setTop (mkF m 5 #[.val (.ref u), .val (.ref ms)] [(.ref ms), (.ref L1)])) (fun _ k => XS.aloadN X101.here hx rfl (hb hby d_rmAP1_4) rfl rfl k) ?_
  refine own_callF (xi := (⟨"java/util/List", "add", "(Ljava/lang/Object;)Z"⟩ : MethodName)) (y := (⟨"java/util/ArrayList", "add", "(Ljava/lang/Object;)Z"⟩ : MethodName)) X101 hx hZ hown (wd_79 hw) (wd_80 hw) (wd_81 hw) (wd_82 hw) (wd_83 hw) (wd_84 hw) (wd_85 hw) (wd_86 hw) (wd_11 hw) (wd_87 hw) (by decide) (rmAdd l Z a0 hw [] L1 ms dc ea1 k h0 n0 Z0 HL1 (by omega) Em Fs A0) e101 HL1.1 (W := 0) (by decide) (by decide) (by decide) (by decide) (g := (mkF m 5 #[.val (.ref u), .val (.ref ms)] [(.ref ms), (.ref L1)])) rfl (by rw [hml]; rfl) (argsL := [(.ref ms)]) (rest := []) rfl (lenOf pd_7 rfl) rfl (by show 2 * 0 + _ ≤ _; exact Nat.le_of_eq rfl) (hb hby d_rmAP1_5) ?_
  intro v102 T102 L102 hQ102 X102
  obtain ⟨r102, rfl, NN102, KK102, q102_0, q102_1, q102_2⟩ := hQ102
  have N102 := Fr.app N0 NN102
  show own_Dn p e below s (fun v h L => v = none ∧ Fr n0 L ∧ n0 ≤ h.size ∧ own_U Z n0 dc h u L1 L2 (k + 1) (pp + (1 : Int32)) pr ∧ Sta Z h "java/util/ArrayList" "DEFAULTCAPACITY_EMPTY_ELEMENTDATA" "[Ljava/lang/Object;" (.ref dc) ∧ own_A Z h dc 0) ({ frames := 5, cells := 1, slots := 10, locals := 69 } : Room).cells ({ frames := 5, cells := 1, slots := 10, locals := 69 } : Room).slots (T102.setTop (mkF m 10 #[.val (.ref u), .val (.ref ms)] [(.int (1 : Int32))]))
  refine own_st (q' := T102.setTop (mkF m 13 #[.val (.ref u), .val (.ref ms)] [(.ref u), (.ref u)])) (fun _ k => XS.pop X102.here hx rfl (hb hby d_rmAP1_10) rfl rfl (XS.aloadN X102.here hx rfl (hb hby d_rmAP1_11) rfl rfl (XS.dup X102.here hx rfl (hb hby d_rmAP1_12) rfl rfl k))) ?_
  have f103 := (U_persistentPuts.keep KK102 (ninS (ne_exa EU HL1.1 (by decide)) (ninS (Q1.ne EU (wd_1 hw)) nin0)))
  obtain ⟨T104, X104, e104, st104⟩ := getF X102 hx hZ hown (host := "") (Or.inl (wd_42 hw)) Via.refl (rfl : T102.heap = T102.heap) f103 (g := (mkF m 13 #[.val (.ref u), .val (.ref ms)] [(.ref u), (.ref u)])) rfl rfl (hb hby d_rmAP1_13)
  refine own_st (q' := T104.setTop (mkF m 16 #[.val (.ref u), .val (.ref ms)] [(.int pp), (.ref u)])) st104 ?_
  refine own_st (q' := T104.setTop (mkF m 17 #[.val (.ref u), .val (.ref ms)] [(.ref ms), (.int pp), (.ref u)])) (fun _ k => XS.aloadN X104.here hx rfl (hb hby d_rmAP1_16) rfl rfl k) ?_
  have f105 := (F_per.keep KK102 (ninS (Ne.symm (ne_exa HL1.1 Em (by decide))) (ninS (Q1.ne Em (wd_51 hw)) nin0)))
  have f107 := (Em.keep KK102)
  refine own_callV (y := (⟨"com/example/rock_dove/rockdove/store/StoredMessage", "isPersistent", "()Z"⟩ : MethodName)) X104 hx hZ hown (wd_114 hw) (wd_115 hw) (wd_117 hw) (wd_116 hw) (wd_52 hw) (wd_118 hw) (by decide) (rmIP1 l Z a0 hw [] ms T102.heap n0 (Nat.le_trans Z0 KK102.1) f105) e104 f107 (W := 2) (by decide) (by decide) (by decide) (by decide) (g := (mkF m 17 #[.val (.ref u), .val (.ref ms)] [(.ref ms), (.int pp), (.ref u)])) rfl (by rw [hml]; rfl) (argsL := []) (rest := [(.int pp), (.ref u)]) rfl (lenOf pd_8 rfl) rfl (by show 2 * 0 + _ ≤ _; exact Nat.le_of_eq rfl) (hb hby d_rmAP1_17) ?_
  intro v106 T106 L106 hQ106 X106
  obtain ⟨rfl, NN106, e106⟩ := hQ106
  have N106 := Fr.app N102 NN106
  show own_Dn p e below s (fun v h L => v = none ∧ Fr n0 L ∧ n0 ≤ h.size ∧ own_U Z n0 dc h u L1 L2 (k + 1) (pp + (1 : Int32)) pr ∧ Sta Z h "java/util/ArrayList" "DEFAULTCAPACITY_EMPTY_ELEMENTDATA" "[Ljava/lang/Object;" (.ref dc) ∧ own_A Z h dc 0) ({ frames := 5, cells := 1, slots := 10, locals := 69 } : Room).cells ({ frames := 5, cells := 1, slots := 10, locals := 69 } : Room).slots (T106.setTop (mkF m 20 #[.val (.ref u), .val (.ref ms)] [(.int (1 : Int32)), (.int pp), (.ref u)]))
  refine own_st (q' := T106.setTop (mkF m 29 #[.val (.ref u), .val (.ref ms)] [(.int (pp + (1 : Int32))), (.ref u)])) (fun _ k => XS.ifNo X106.here hx rfl (hb hby d_rmAP1_20) rfl ((if0 _ _).trans (feq ((by decide : ¬ ((1 : Int32) = (0 : Int32))) : ¬ ((1 : Int32) = (0 : Int32)))).1) (XS.iconst X106.here hx rfl (hb hby d_rmAP1_23) (XS.goto X106.here hx rfl (pc0 := 24) (pc' := 28) rfl (hb hby d_rmAP1_24) (by decide) (by decide) (XS.iadd X106.here hx rfl (hb hby d_rmAP1_28) rfl k)))) ?_
  have f108 := (EU.keep KK102)
  obtain ⟨T109, h109, X109, e109, W109, st109⟩ := putF X106 hx hZ hown (host := "") (Or.inl (wd_42 hw)) Via.refl e106 f103 f108 (Or.inl (wd_43 hw)) (wd_1 hw) (ty := .int) (by decide) rfl rfl (g := (mkF m 29 #[.val (.ref u), .val (.ref ms)] [(.int (pp + (1 : Int32))), (.ref u)])) rfl rfl (hb hby d_rmAP1_29)
  have N109 := Fr.snoc X109 N106 gU
  have F109 := f103.same W109
  refine own_st (q' := T109.setTop (mkF m 32 #[.val (.ref u), .val (.ref ms)] [])) st109 ?_
  have f110 := (f108.wr W109)
  have f111 := ((U_puts.keep KK102 (ninS (ne_exa EU HL1.1 (by decide)) (ninS (Q1.ne EU (wd_1 hw)) nin0))).other W109 (Or.inr (sn_32 hw)))
  have f112 := ((U_removals.keep KK102 (ninS (ne_exa EU HL1.1 (by decide)) (ninS (Q1.ne EU (wd_1 hw)) nin0))).other W109 (Or.inr (sn_33 hw)))
  have f113 := ((U_persistentRemovals.keep KK102 (ninS (ne_exa EU HL1.1 (by decide)) (ninS (Q1.ne EU (wd_1 hw)) nin0))).other W109 (Or.inr (sn_34 hw)))
  have f114 := ((U_id.keep KK102 (ninS (ne_exa EU HL1.1 (by decide)) (ninS (Q1.ne EU (wd_1 hw)) nin0))).other W109 (Or.inr (sn_35 hw)))
  have f115 := (q102_0.other W109 (Ne.symm (ne_exa EU HL1.1 (by decide))))
  have f116 := ((HL2.keep KK102 (ninS (Ne.symm ne12) (ninS (Q1.ne HL2.1 (wd_10 hw)) nin0))).other W109 (Ne.symm (ne_exa EU HL2.1 (by decide))))
  have f117 := (q102_1.wr W109)
  have f118 := (q102_2.wr W109)
  exact own_retV X109 hx hlk hret (hb hby d_rmAP1_32) e109 (by exact ⟨rfl, N109, (Nat.le_trans (Nat.le_trans Z0 KK102.1) (Keep.of_wr W109).1), (⟨f110, gU, f111, f112, F109, f113, ⟨_, f114⟩, ⟨_, f115⟩, ⟨_, f116.mono (by omega)⟩⟩), f117, f118⟩) (by decide) (by decide)
theorem ef_rmAR1 (m : MethodId) (x0 : Addr) (x1 : Addr) : entryFrame m #[(.ref x0), (.ref x1)] 2 = mkF m 0 #[.val (.ref x0), .val (.ref x1)] [] := by first | (simp [entryFrame, mkF, argsToLocals, Value.category]; done) | rfl
theorem d_rmAR1_0 : decode prog_78_method_8_code 0 = .ok (.aload_n 0, 1) := by decide +kernel
theorem d_rmAR1_1 : decode prog_78_method_8_code 1 = .ok (.getfield 16, 3) := by decide +kernel
theorem d_rmAR1_4 : decode prog_78_method_8_code 4 = .ok (.aload_n 1, 1) := by decide +kernel
theorem d_rmAR1_5 : decode prog_78_method_8_code 5 = .ok (.invokeinterface 50 2, 5) := by decide +kernel
theorem d_rmAR1_10 : decode prog_78_method_8_code 10 = .ok (.pop, 1) := by decide +kernel
theorem d_rmAR1_11 : decode prog_78_method_8_code 11 = .ok (.aload_n 0, 1) := by decide +kernel
theorem d_rmAR1_12 : decode prog_78_method_8_code 12 = .ok (.dup, 1) := by decide +kernel
theorem d_rmAR1_13 : decode prog_78_method_8_code 13 = .ok (.getfield 33, 3) := by decide +kernel
theorem d_rmAR1_16 : decode prog_78_method_8_code 16 = .ok (.aload_n 1, 1) := by decide +kernel
theorem d_rmAR1_17 : decode prog_78_method_8_code 17 = .ok (.invokevirtual 54, 3) := by decide +kernel
theorem d_rmAR1_20 : decode prog_78_method_8_code 20 = .ok (.ifCond .eq 7, 3) := by decide +kernel
theorem d_rmAR1_23 : decode prog_78_method_8_code 23 = .ok (.iconst 1, 1) := by decide +kernel
theorem d_rmAR1_24 : decode prog_78_method_8_code 24 = .ok (.goto 4, 3) := by decide +kernel
theorem d_rmAR1_28 : decode prog_78_method_8_code 28 = .ok (.iadd, 1) := by decide +kernel
theorem d_rmAR1_29 : decode prog_78_method_8_code 29 = .ok (.putfield 33, 3) := by decide +kernel
theorem d_rmAR1_32 : decode prog_78_method_8_code 32 = .ok (.return_, 1) := by decide +kernel
set_option maxRecDepth 65536 in
set_option maxHeartbeats 40000000 in
theorem rmAR1 (l : Launch) (Z : State) (a0 : Array Value) (hw : ∀ d ∈ tables_1, d.before a0 Z = true) (ws : List Jvm.Cond) (u L1 L2 ms dc ea1 ea2 : Addr) (k : Nat) (pp pr : Int32) (iD : Int64) (h0 : Heap) (n0 : Nat) (Z0 : n0 ≤ h0.size) (EU : Exa Z h0 u "com/example/rock_dove/rockdove/store/UnitOfWork") (gU : n0 ≤ u) (U_puts : Fld Z h0 u "com/example/rock_dove/rockdove/store/UnitOfWork" "puts" "Ljava/util/List;" (.ref L1)) (U_removals : Fld Z h0 u "com/example/rock_dove/rockdove/store/UnitOfWork" "removals" "Ljava/util/List;" (.ref L2)) (U_persistentPuts : Fld Z h0 u "com/example/rock_dove/rockdove/store/UnitOfWork" "persistentPuts" "I" (.int pp)) (U_persistentRemovals : Fld Z h0 u "com/example/rock_dove/rockdove/store/UnitOfWork" "persistentRemovals" "I" (.int pr)) (U_id : Fld Z h0 u "com/example/rock_dove/rockdove/store/UnitOfWork" "id" "J" (.long iD)) (HL1 : own_L Z n0 dc h0 L1 k ea1) (HL2 : own_L Z n0 dc h0 L2 k ea2) (ne12 : L1 ≠ L2) (hk : k ≤ 3) (Em : Exa Z h0 ms "com/example/rock_dove/rockdove/store/StoredMessage") (F_per : Fld Z h0 ms "com/example/rock_dove/rockdove/store/StoredMessage" "persistent" "Z" (.int (1 : Int32))) (Fs : Sta Z h0 "java/util/ArrayList" "DEFAULTCAPACITY_EMPTY_ELEMENTDATA" "[Ljava/lang/Object;" (.ref dc)) (A0 : own_A Z h0 dc 0) :
    own_Met l Z (⟨"com/example/rock_dove/rockdove/store/UnitOfWork", "addRemoval", "(Lcom/example/rock_dove/rockdove/store/StoredMessage;)V"⟩ : MethodName) ws prog_78_method_8_code 2 none ({ frames := 5, cells := 1, slots := 10, locals := 69 } : Room) #[(.ref u), (.ref ms)] h0 (fun v h L => v = none ∧ Fr n0 L ∧ n0 ≤ h.size ∧ own_U Z n0 dc h u L1 L2 (k + 1) pp (pr + (1 : Int32)) ∧ Sta Z h "java/util/ArrayList" "DEFAULTCAPACITY_EMPTY_ELEMENTDATA" "[Ljava/lang/Object;" (.ref dc) ∧ own_A Z h dc 0) := by
  refine own_body (y := (⟨"com/example/rock_dove/rockdove/store/UnitOfWork", "addRemoval", "(Lcom/example/rock_dove/rockdove/store/StoredMessage;)V"⟩ : MethodName)) (plainFor_of_name pn_4) ?_
  intro p e s m below meth c s₁ hx hby hml hown hnm hret hlk hZ X0 e0
  have hml : c.maxLocals = 2 := hml
  have hown : s.vm.findClass "com/example/rock_dove/rockdove/store/UnitOfWork" = some m.cls := hown
  have N0 := Fr.nil n0
  refine own_entry (ef_rmAR1 m u ms) ?_
  show own_Dn p e below s (fun v h L => v = none ∧ Fr n0 L ∧ n0 ≤ h.size ∧ own_U Z n0 dc h u L1 L2 (k + 1) pp (pr + (1 : Int32)) ∧ Sta Z h "java/util/ArrayList" "DEFAULTCAPACITY_EMPTY_ELEMENTDATA" "[Ljava/lang/Object;" (.ref dc) ∧ own_A Z h dc 0) ({ frames := 5, cells := 1, slots := 10, locals := 69 } : Room).cells ({ frames := 5, cells := 1, slots := 10, locals := 69 } : Room).slots (s₁.setTop (mkF m 0 #[.val (.ref u), .val (.ref ms)] []))
  obtain ⟨j1, Q1⟩ := HL1.arr A0
  obtain ⟨j2, Q2⟩ := HL2.arr A0
  refine own_st (q' := s₁.setTop (mkF m 1 #[.val (.ref u), .val (.ref ms)] [(.ref u)])) (fun _ k => XS.aloadN X0.here hx rfl (hb hby d_rmAR1_0) rfl rfl k) ?_
  obtain ⟨T101, X101, e101, st101⟩ := getF X0 hx hZ hown (host := "") (Or.inl (wd_35 hw)) Via.refl e0 U_removals (g := (mkF m 1 #[.val (.ref u), .val (.ref ms)] [(.ref u)])) rfl rfl (hb hby d_rmAR1_1)
  refine own_st (q' := T101.setTop (mkF m 4 #[.val (.ref u), .val (.ref ms)] [(.ref L2)])) st101 ?_
  refine own_st (q' := T101.setTop (mkF m 5 #[.val (.ref u), .val (.ref ms)] [(.ref ms), (.ref L2)])) (fun _ k => XS.aloadN X101.here hx rfl (hb hby d_rmAR1_4) rfl rfl k) ?_
  refine own_callF (xi := (⟨"java/util/List", "add", "(Ljava/lang/Object;)Z"⟩ : MethodName)) (y := (⟨"java/util/ArrayList", "add", "(Ljava/lang/Object;)Z"⟩ : MethodName)) X101 hx hZ hown (wd_79 hw) (wd_80 hw) (wd_81 hw) (wd_82 hw) (wd_83 hw) (wd_84 hw) (wd_85 hw) (wd_86 hw) (wd_11 hw) (wd_87 hw) (by decide) (rmAdd l Z a0 hw [] L2 ms dc ea2 k h0 n0 Z0 HL2 (by omega) Em Fs A0) e101 HL2.1 (W := 0) (by decide) (by decide) (by decide) (by decide) (g := (mkF m 5 #[.val (.ref u), .val (.ref ms)] [(.ref ms), (.ref L2)])) rfl (by rw [hml]; rfl) (argsL := [(.ref ms)]) (rest := []) rfl (lenOf pd_7 rfl) rfl (by show 2 * 0 + _ ≤ _; exact Nat.le_of_eq rfl) (hb hby d_rmAR1_5) ?_
  intro v102 T102 L102 hQ102 X102
  obtain ⟨r102, rfl, NN102, KK102, q102_0, q102_1, q102_2⟩ := hQ102
  have N102 := Fr.app N0 NN102
  show own_Dn p e below s (fun v h L => v = none ∧ Fr n0 L ∧ n0 ≤ h.size ∧ own_U Z n0 dc h u L1 L2 (k + 1) pp (pr + (1 : Int32)) ∧ Sta Z h "java/util/ArrayList" "DEFAULTCAPACITY_EMPTY_ELEMENTDATA" "[Ljava/lang/Object;" (.ref dc) ∧ own_A Z h dc 0) ({ frames := 5, cells := 1, slots := 10, locals := 69 } : Room).cells ({ frames := 5, cells := 1, slots := 10, locals := 69 } : Room).slots (T102.setTop (mkF m 10 #[.val (.ref u), .val (.ref ms)] [(.int (1 : Int32))]))
  refine own_st (q' := T102.setTop (mkF m 13 #[.val (.ref u), .val (.ref ms)] [(.ref u), (.ref u)])) (fun _ k => XS.pop X102.here hx rfl (hb hby d_rmAR1_10) rfl rfl (XS.aloadN X102.here hx rfl (hb hby d_rmAR1_11) rfl rfl (XS.dup X102.here hx rfl (hb hby d_rmAR1_12) rfl rfl k))) ?_
  have f103 := (U_persistentRemovals.keep KK102 (ninS (ne_exa EU HL2.1 (by decide)) (ninS (Q2.ne EU (wd_1 hw)) nin0)))
  obtain ⟨T104, X104, e104, st104⟩ := getF X102 hx hZ hown (host := "") (Or.inl (wd_44 hw)) Via.refl (rfl : T102.heap = T102.heap) f103 (g := (mkF m 13 #[.val (.ref u), .val (.ref ms)] [(.ref u), (.ref u)])) rfl rfl (hb hby d_rmAR1_13)
  refine own_st (q' := T104.setTop (mkF m 16 #[.val (.ref u), .val (.ref ms)] [(.int pr), (.ref u)])) st104 ?_
  refine own_st (q' := T104.setTop (mkF m 17 #[.val (.ref u), .val (.ref ms)] [(.ref ms), (.int pr), (.ref u)])) (fun _ k => XS.aloadN X104.here hx rfl (hb hby d_rmAR1_16) rfl rfl k) ?_
  have f105 := (F_per.keep KK102 (ninS (Ne.symm (ne_exa HL2.1 Em (by decide))) (ninS (Q2.ne Em (wd_51 hw)) nin0)))
  have f107 := (Em.keep KK102)
  refine own_callV (y := (⟨"com/example/rock_dove/rockdove/store/StoredMessage", "isPersistent", "()Z"⟩ : MethodName)) X104 hx hZ hown (wd_114 hw) (wd_115 hw) (wd_117 hw) (wd_116 hw) (wd_52 hw) (wd_118 hw) (by decide) (rmIP1 l Z a0 hw [] ms T102.heap n0 (Nat.le_trans Z0 KK102.1) f105) e104 f107 (W := 2) (by decide) (by decide) (by decide) (by decide) (g := (mkF m 17 #[.val (.ref u), .val (.ref ms)] [(.ref ms), (.int pr), (.ref u)])) rfl (by rw [hml]; rfl) (argsL := []) (rest := [(.int pr), (.ref u)]) rfl (lenOf pd_8 rfl) rfl (by show 2 * 0 + _ ≤ _; exact Nat.le_of_eq rfl) (hb hby d_rmAR1_17) ?_
  intro v106 T106 L106 hQ106 X106
  obtain ⟨rfl, NN106, e106⟩ := hQ106
  have N106 := Fr.app N102 NN106
  show own_Dn p e below s (fun v h L => v = none ∧ Fr n0 L ∧ n0 ≤ h.size ∧ own_U Z n0 dc h u L1 L2 (k + 1) pp (pr + (1 : Int32)) ∧ Sta Z h "java/util/ArrayList" "DEFAULTCAPACITY_EMPTY_ELEMENTDATA" "[Ljava/lang/Object;" (.ref dc) ∧ own_A Z h dc 0) ({ frames := 5, cells := 1, slots := 10, locals := 69 } : Room).cells ({ frames := 5, cells := 1, slots := 10, locals := 69 } : Room).slots (T106.setTop (mkF m 20 #[.val (.ref u), .val (.ref ms)] [(.int (1 : Int32)), (.int pr), (.ref u)]))
  refine own_st (q' := T106.setTop (mkF m 29 #[.val (.ref u), .val (.ref ms)] [(.int (pr + (1 : Int32))), (.ref u)])) (fun _ k => XS.ifNo X106.here hx rfl (hb hby d_rmAR1_20) rfl ((if0 _ _).trans (feq ((by decide : ¬ ((1 : Int32) = (0 : Int32))) : ¬ ((1 : Int32) = (0 : Int32)))).1) (XS.iconst X106.here hx rfl (hb hby d_rmAR1_23) (XS.goto X106.here hx rfl (pc0 := 24) (pc' := 28) rfl (hb hby d_rmAR1_24) (by decide) (by decide) (XS.iadd X106.here hx rfl (hb hby d_rmAR1_28) rfl k)))) ?_
  have f108 := (EU.keep KK102)
  obtain ⟨T109, h109, X109, e109, W109, st109⟩ := putF X106 hx hZ hown (host := "") (Or.inl (wd_44 hw)) Via.refl e106 f103 f108 (Or.inl (wd_45 hw)) (wd_1 hw) (ty := .int) (by decide) rfl rfl (g := (mkF m 29 #[.val (.ref u), .val (.ref ms)] [(.int (pr + (1 : Int32))), (.ref u)])) rfl rfl (hb hby d_rmAR1_29)
  have N109 := Fr.snoc X109 N106 gU
  have F109 := f103.same W109
  refine own_st (q' := T109.setTop (mkF m 32 #[.val (.ref u), .val (.ref ms)] [])) st109 ?_
  have f110 := (f108.wr W109)
  have f111 := ((U_puts.keep KK102 (ninS (ne_exa EU HL2.1 (by decide)) (ninS (Q2.ne EU (wd_1 hw)) nin0))).other W109 (Or.inr (sn_36 hw)))
  have f112 := ((U_removals.keep KK102 (ninS (ne_exa EU HL2.1 (by decide)) (ninS (Q2.ne EU (wd_1 hw)) nin0))).other W109 (Or.inr (sn_37 hw)))
  have f113 := ((U_persistentPuts.keep KK102 (ninS (ne_exa EU HL2.1 (by decide)) (ninS (Q2.ne EU (wd_1 hw)) nin0))).other W109 (Or.inr (sn_38 hw)))
  have f114 := ((U_id.keep KK102 (ninS (ne_exa EU HL2.1 (by decide)) (ninS (Q2.ne EU (wd_1 hw)) nin0))).other W109 (Or.inr (sn_39 hw)))
  have f115 := ((HL1.keep KK102 (ninS ne12 (ninS (Q2.ne HL1.1 (wd_10 hw)) nin0))).other W109 (Ne.symm (ne_exa EU HL1.1 (by decide))))
  have f116 := (q102_0.other W109 (Ne.symm (ne_exa EU HL2.1 (by decide))))
  have f117 := (q102_1.wr W109)
  have f118 := (q102_2.wr W109)
  exact own_retV X109 hx hlk hret (hb hby d_rmAR1_32) e109 (by exact ⟨rfl, N109, (Nat.le_trans (Nat.le_trans Z0 KK102.1) (Keep.of_wr W109).1), (⟨f110, gU, f111, f112, f113, F109, ⟨_, f114⟩, ⟨_, f115.mono (by omega)⟩, ⟨_, f116⟩⟩), f117, f118⟩) (by decide) (by decide)
theorem ef_rmARF0 (m : MethodId) (x0 : Addr) (x1 : Addr) : entryFrame m #[(.ref x0), (.ref x1)] 2 = mkF m 0 #[.val (.ref x0), .val (.ref x1)] [] := by first | (simp [entryFrame, mkF, argsToLocals, Value.category]; done) | rfl
theorem d_rmARF0_0 : decode prog_78_method_8_code 0 = .ok (.aload_n 0, 1) := by decide +kernel
theorem d_rmARF0_1 : decode prog_78_method_8_code 1 = .ok (.getfield 16, 3) := by decide +kernel
theorem d_rmARF0_4 : decode prog_78_method_8_code 4 = .ok (.aload_n 1, 1) := by decide +kernel
theorem d_rmARF0_5 : decode prog_78_method_8_code 5 = .ok (.invokeinterface 50 2, 5) := by decide +kernel
theorem d_rmARF0_10 : decode prog_78_method_8_code 10 = .ok (.pop, 1) := by decide +kernel
theorem d_rmARF0_11 : decode prog_78_method_8_code 11 = .ok (.aload_n 0, 1) := by decide +kernel
theorem d_rmARF0_12 : decode prog_78_method_8_code 12 = .ok (.dup, 1) := by decide +kernel
theorem d_rmARF0_13 : decode prog_78_method_8_code 13 = .ok (.getfield 33, 3) := by decide +kernel
theorem d_rmARF0_16 : decode prog_78_method_8_code 16 = .ok (.aload_n 1, 1) := by decide +kernel
theorem d_rmARF0_17 : decode prog_78_method_8_code 17 = .ok (.invokevirtual 54, 3) := by decide +kernel
theorem d_rmARF0_20 : decode prog_78_method_8_code 20 = .ok (.ifCond .eq 7, 3) := by decide +kernel
theorem d_rmARF0_27 : decode prog_78_method_8_code 27 = .ok (.iconst 0, 1) := by decide +kernel
theorem d_rmARF0_28 : decode prog_78_method_8_code 28 = .ok (.iadd, 1) := by decide +kernel
theorem d_rmARF0_29 : decode prog_78_method_8_code 29 = .ok (.putfield 33, 3) := by decide +kernel
theorem d_rmARF0_32 : decode prog_78_method_8_code 32 = .ok (.return_, 1) := by decide +kernel
set_option maxRecDepth 65536 in
set_option maxHeartbeats 40000000 in
theorem rmARF0 (l : Launch) (Z : State) (a0 : Array Value) (hw : ∀ d ∈ tables_1, d.before a0 Z = true) (ws : List Jvm.Cond) (u L1 L2 ms dc : Addr) (mc : Int32) (h0 : Heap) (n0 : Nat) (Z0 : n0 ≤ h0.size) (EU : Exa Z h0 u "com/example/rock_dove/rockdove/store/UnitOfWork") (gU : n0 ≤ u) (U_puts : Fld Z h0 u "com/example/rock_dove/rockdove/store/UnitOfWork" "puts" "Ljava/util/List;" (.ref L1)) (U_removals : Fld Z h0 u "com/example/rock_dove/rockdove/store/UnitOfWork" "removals" "Ljava/util/List;" (.ref L2)) (U_persistentPuts : Fld Z h0 u "com/example/rock_dove/rockdove/store/UnitOfWork" "persistentPuts" "I" (.int (0 : Int32))) (U_persistentRemovals : Fld Z h0 u "com/example/rock_dove/rockdove/store/UnitOfWork" "persistentRemovals" "I" (.int (0 : Int32))) (U_id : Fld Z h0 u "com/example/rock_dove/rockdove/store/UnitOfWork" "id" "J" (.long (0 : Int64))) (E1 : Exa Z h0 L2 "java/util/ArrayList") (g1 : n0 ≤ L2) (F_mod : Fld Z h0 L2 "java/util/AbstractList" "modCount" "I" (.int mc)) (F_sz : Fld Z h0 L2 "java/util/ArrayList" "size" "I" (.int (0 : Int32))) (F_ed : Fld Z h0 L2 "java/util/ArrayList" "elementData" "[Ljava/lang/Object;" (.ref dc)) (Em : Exa Z h0 ms "com/example/rock_dove/rockdove/store/StoredMessage") (F_per : Fld Z h0 ms "com/example/rock_dove/rockdove/store/StoredMessage" "persistent" "Z" (.int (0 : Int32))) (Fs : Sta Z h0 "java/util/ArrayList" "DEFAULTCAPACITY_EMPTY_ELEMENTDATA" "[Ljava/lang/Object;" (.ref dc)) (A0 : own_A Z h0 dc 0) :
    own_Met l Z (⟨"com/example/rock_dove/rockdove/store/UnitOfWork", "addRemoval", "(Lcom/example/rock_dove/rockdove/store/StoredMessage;)V"⟩ : MethodName) ws prog_78_method_8_code 2 none ({ frames := 5, cells := 1, slots := 10, locals := 69 } : Room) #[(.ref u), (.ref ms)] h0 (fun v h L => ∃ (r : Addr) (w : Int32), v = none ∧ Fr n0 L ∧ Keep h0 h [u, L2] ∧ h0.size ≤ r ∧ Exa Z h u "com/example/rock_dove/rockdove/store/UnitOfWork" ∧ Fld Z h u "com/example/rock_dove/rockdove/store/UnitOfWork" "puts" "Ljava/util/List;" (.ref L1) ∧ Fld Z h u "com/example/rock_dove/rockdove/store/UnitOfWork" "removals" "Ljava/util/List;" (.ref L2) ∧ Fld Z h u "com/example/rock_dove/rockdove/store/UnitOfWork" "persistentPuts" "I" (.int (0 : Int32)) ∧ Fld Z h u "com/example/rock_dove/rockdove/store/UnitOfWork" "persistentRemovals" "I" (.int (0 : Int32)) ∧ Fld Z h u "com/example/rock_dove/rockdove/store/UnitOfWork" "id" "J" (.long (0 : Int64)) ∧ Exa Z h L2 "java/util/ArrayList" ∧ Fld Z h L2 "java/util/AbstractList" "modCount" "I" (.int w) ∧ Fld Z h L2 "java/util/ArrayList" "size" "I" (.int (1 : Int32)) ∧ Fld Z h L2 "java/util/ArrayList" "elementData" "[Ljava/lang/Object;" (.ref r) ∧ own_B Z h r 10 ms ∧ Sta Z h "java/util/ArrayList" "DEFAULTCAPACITY_EMPTY_ELEMENTDATA" "[Ljava/lang/Object;" (.ref dc) ∧ own_A Z h dc 0) := by
  refine own_body (y := (⟨"com/example/rock_dove/rockdove/store/UnitOfWork", "addRemoval", "(Lcom/example/rock_dove/rockdove/store/StoredMessage;)V"⟩ : MethodName)) (plainFor_of_name pn_4) ?_
  intro p e s m below meth c s₁ hx hby hml hown hnm hret hlk hZ X0 e0
  have hml : c.maxLocals = 2 := hml
  have hown : s.vm.findClass "com/example/rock_dove/rockdove/store/UnitOfWork" = some m.cls := hown
  have N0 := Fr.nil n0
  refine own_entry (ef_rmARF0 m u ms) ?_
  show own_Dn p e below s (fun v h L => ∃ (r : Addr) (w : Int32), v = none ∧ Fr n0 L ∧ Keep h0 h [u, L2] ∧ h0.size ≤ r ∧ Exa Z h u "com/example/rock_dove/rockdove/store/UnitOfWork" ∧ Fld Z h u "com/example/rock_dove/rockdove/store/UnitOfWork" "puts" "Ljava/util/List;" (.ref L1) ∧ Fld Z h u "com/example/rock_dove/rockdove/store/UnitOfWork" "removals" "Ljava/util/List;" (.ref L2) ∧ Fld Z h u "com/example/rock_dove/rockdove/store/UnitOfWork" "persistentPuts" "I" (.int (0 : Int32)) ∧ Fld Z h u "com/example/rock_dove/rockdove/store/UnitOfWork" "persistentRemovals" "I" (.int (0 : Int32)) ∧ Fld Z h u "com/example/rock_dove/rockdove/store/UnitOfWork" "id" "J" (.long (0 : Int64)) ∧ Exa Z h L2 "java/util/ArrayList" ∧ Fld Z h L2 "java/util/AbstractList" "modCount" "I" (.int w) ∧ Fld Z h L2 "java/util/ArrayList" "size" "I" (.int (1 : Int32)) ∧ Fld Z h L2 "java/util/ArrayList" "elementData" "[Ljava/lang/Object;" (.ref r) ∧ own_B Z h r 10 ms ∧ Sta Z h "java/util/ArrayList" "DEFAULTCAPACITY_EMPTY_ELEMENTDATA" "[Ljava/lang/Object;" (.ref dc) ∧ own_A Z h dc 0) ({ frames := 5, cells := 1, slots := 10, locals := 69 } : Room).cells ({ frames := 5, cells := 1, slots := 10, locals := 69 } : Room).slots (s₁.setTop (mkF m 0 #[.val (.ref u), .val (.ref ms)] []))
  refine own_st (q' := s₁.setTop (mkF m 1 #[.val (.ref u), .val (.ref ms)] [(.ref u)])) (fun _ k => XS.aloadN X0.here hx rfl (hb hby d_rmARF0_0) rfl rfl k) ?_
  obtain ⟨T101, X101, e101, st101⟩ := getF X0 hx hZ hown (host := "") (Or.inl (wd_35 hw)) Via.refl e0 U_removals (g := (mkF m 1 #[.val (.ref u), .val (.ref ms)] [(.ref u)])) rfl rfl (hb hby d_rmARF0_1)
  refine own_st (q' := T101.setTop (mkF m 4 #[.val (.ref u), .val (.ref ms)] [(.ref L2)])) st101 ?_
  refine own_st (q' := T101.setTop (mkF m 5 #[.val (.ref u), .val (.ref ms)] [(.ref ms), (.ref L2)])) (fun _ k => XS.aloadN X101.here hx rfl (hb hby d_rmARF0_4) rfl rfl k) ?_
  refine own_callF (xi := (⟨"java/util/List", "add", "(Ljava/lang/Object;)Z"⟩ : MethodName)) (y := (⟨"java/util/ArrayList", "add", "(Ljava/lang/Object;)Z"⟩ : MethodName)) X101 hx hZ hown (wd_79 hw) (wd_80 hw) (wd_81 hw) (wd_82 hw) (wd_83 hw) (wd_84 hw) (wd_85 hw) (wd_86 hw) (wd_11 hw) (wd_87 hw) (by decide) (rmAddF l Z a0 hw [] L2 ms dc mc h0 n0 Z0 E1 g1 F_mod F_sz F_ed Em Fs A0) e101 E1 (W := 0) (by decide) (by decide) (by decide) (by decide) (g := (mkF m 5 #[.val (.ref u), .val (.ref ms)] [(.ref ms), (.ref L2)])) rfl (by rw [hml]; rfl) (argsL := [(.ref ms)]) (rest := []) rfl (lenOf pd_7 rfl) rfl (by show 2 * 0 + _ ≤ _; exact Nat.le_of_eq rfl) (hb hby d_rmARF0_5) ?_
  intro v102 T102 L102 hQ102 X102
  obtain ⟨r102, rfl, NN102, KK102, q102_0, q102_1, q102_2, q102_3, q102_4, q102_5, q102_6, q102_7⟩ := hQ102
  have N102 := Fr.app N0 NN102
  have K103 : Keep h0 T102.heap [u, L2] := ((Keep.refl h0 [u, L2]).trans KK102 (allS (Or.inl (List.mem_of_getElem? (i := 1) rfl)) all0))
  show own_Dn p e below s (fun v h L => ∃ (r : Addr) (w : Int32), v = none ∧ Fr n0 L ∧ Keep h0 h [u, L2] ∧ h0.size ≤ r ∧ Exa Z h u "com/example/rock_dove/rockdove/store/UnitOfWork" ∧ Fld Z h u "com/example/rock_dove/rockdove/store/UnitOfWork" "puts" "Ljava/util/List;" (.ref L1) ∧ Fld Z h u "com/example/rock_dove/rockdove/store/UnitOfWork" "removals" "Ljava/util/List;" (.ref L2) ∧ Fld Z h u "com/example/rock_dove/rockdove/store/UnitOfWork" "persistentPuts" "I" (.int (0 : Int32)) ∧ Fld Z h u "com/example/rock_dove/rockdove/store/UnitOfWork" "persistentRemovals" "I" (.int (0 : Int32)) ∧ Fld Z h u "com/example/rock_dove/rockdove/store/UnitOfWork" "id" "J" (.long (0 : Int64)) ∧ Exa Z h L2 "java/util/ArrayList" ∧ Fld Z h L2 "java/util/AbstractList" "modCount" "I" (.int w) ∧ Fld Z h L2 "java/util/ArrayList" "size" "I" (.int (1 : Int32)) ∧ Fld Z h L2 "java/util/ArrayList" "elementData" "[Ljava/lang/Object;" (.ref r) ∧ own_B Z h r 10 ms ∧ Sta Z h "java/util/ArrayList" "DEFAULTCAPACITY_EMPTY_ELEMENTDATA" "[Ljava/lang/Object;" (.ref dc) ∧ own_A Z h dc 0) ({ frames := 5, cells := 1, slots := 10, locals := 69 } : Room).cells ({ frames := 5, cells := 1, slots := 10, locals := 69 } : Room).slots (T102.setTop (mkF m 10 #[.val (.ref u), .val (.ref ms)] [(.int (1 : Int32))]))
  refine own_st (q' := T102.setTop (mkF m 13 #[.val (.ref u), .val (.ref ms)] [(.ref u), (.ref u)])) (fun _ k => XS.pop X102.here hx rfl (hb hby d_rmARF0_10) rfl rfl (XS.aloadN X102.here hx rfl (hb hby d_rmARF0_11) rfl rfl (XS.dup X102.here hx rfl (hb hby d_rmARF0_12) rfl rfl k))) ?_
  have f104 := (U_persistentRemovals.keep KK102 (ninS (ne_exa EU E1 (by decide)) nin0))
  obtain ⟨T105, X105, e105, st105⟩ := getF X102 hx hZ hown (host := "") (Or.inl (wd_44 hw)) Via.refl (rfl : T102.heap = T102.heap) f104 (g := (mkF m 13 #[.val (.ref u), .val (.ref ms)] [(.ref u), (.ref u)])) rfl rfl (hb hby d_rmARF0_13)
  refine own_st (q' := T105.setTop (mkF m 16 #[.val (.ref u), .val (.ref ms)] [(.int (0 : Int32)), (.ref u)])) st105 ?_
  refine own_st (q' := T105.setTop (mkF m 17 #[.val (.ref u), .val (.ref ms)] [(.ref ms), (.int (0 : Int32)), (.ref u)])) (fun _ k => XS.aloadN X105.here hx rfl (hb hby d_rmARF0_16) rfl rfl k) ?_
  have f106 := (F_per.keep KK102 (ninS (Ne.symm (ne_exa E1 Em (by decide))) nin0))
  have f108 := (Em.keep KK102)
  refine own_callV (y := (⟨"com/example/rock_dove/rockdove/store/StoredMessage", "isPersistent", "()Z"⟩ : MethodName)) X105 hx hZ hown (wd_114 hw) (wd_115 hw) (wd_117 hw) (wd_116 hw) (wd_52 hw) (wd_118 hw) (by decide) (rmIP0 l Z a0 hw [] ms T102.heap n0 (Nat.le_trans Z0 KK102.1) f106) e105 f108 (W := 2) (by decide) (by decide) (by decide) (by decide) (g := (mkF m 17 #[.val (.ref u), .val (.ref ms)] [(.ref ms), (.int (0 : Int32)), (.ref u)])) rfl (by rw [hml]; rfl) (argsL := []) (rest := [(.int (0 : Int32)), (.ref u)]) rfl (lenOf pd_8 rfl) rfl (by show 2 * 0 + _ ≤ _; exact Nat.le_of_eq rfl) (hb hby d_rmARF0_17) ?_
  intro v107 T107 L107 hQ107 X107
  obtain ⟨rfl, NN107, e107⟩ := hQ107
  have N107 := Fr.app N102 NN107
  show own_Dn p e below s (fun v h L => ∃ (r : Addr) (w : Int32), v = none ∧ Fr n0 L ∧ Keep h0 h [u, L2] ∧ h0.size ≤ r ∧ Exa Z h u "com/example/rock_dove/rockdove/store/UnitOfWork" ∧ Fld Z h u "com/example/rock_dove/rockdove/store/UnitOfWork" "puts" "Ljava/util/List;" (.ref L1) ∧ Fld Z h u "com/example/rock_dove/rockdove/store/UnitOfWork" "removals" "Ljava/util/List;" (.ref L2) ∧ Fld Z h u "com/example/rock_dove/rockdove/store/UnitOfWork" "persistentPuts" "I" (.int (0 : Int32)) ∧ Fld Z h u "com/example/rock_dove/rockdove/store/UnitOfWork" "persistentRemovals" "I" (.int (0 : Int32)) ∧ Fld Z h u "com/example/rock_dove/rockdove/store/UnitOfWork" "id" "J" (.long (0 : Int64)) ∧ Exa Z h L2 "java/util/ArrayList" ∧ Fld Z h L2 "java/util/AbstractList" "modCount" "I" (.int w) ∧ Fld Z h L2 "java/util/ArrayList" "size" "I" (.int (1 : Int32)) ∧ Fld Z h L2 "java/util/ArrayList" "elementData" "[Ljava/lang/Object;" (.ref r) ∧ own_B Z h r 10 ms ∧ Sta Z h "java/util/ArrayList" "DEFAULTCAPACITY_EMPTY_ELEMENTDATA" "[Ljava/lang/Object;" (.ref dc) ∧ own_A Z h dc 0) ({ frames := 5, cells := 1, slots := 10, locals := 69 } : Room).cells ({ frames := 5, cells := 1, slots := 10, locals := 69 } : Room).slots (T107.setTop (mkF m 20 #[.val (.ref u), .val (.ref ms)] [(.int (0 : Int32)), (.int (0 : Int32)), (.ref u)]))
  refine own_st (q' := T107.setTop (mkF m 29 #[.val (.ref u), .val (.ref ms)] [(.int (0 : Int32)), (.ref u)])) (fun _ k => XS.ifYes X107.here hx rfl (pc0 := 20) (pc' := 27) rfl (hb hby d_rmARF0_20) rfl ((if0 _ _).trans (teq ((by decide : (0 : Int32) = (0 : Int32)) : (0 : Int32) = (0 : Int32))).1) (by decide) (by decide) (XS.iconst X107.here hx rfl (hb hby d_rmARF0_27) (XS.iadd X107.here hx rfl (hb hby d_rmARF0_28) rfl k))) ?_
  have f109 := (EU.keep KK102)
  obtain ⟨T110, h110, X110, e110, W110, st110⟩ := putF X107 hx hZ hown (host := "") (Or.inl (wd_44 hw)) Via.refl e107 f104 f109 (Or.inl (wd_45 hw)) (wd_1 hw) (ty := .int) (by decide) rfl rfl (g := (mkF m 29 #[.val (.ref u), .val (.ref ms)] [(.int (0 : Int32)), (.ref u)])) rfl rfl (hb hby d_rmARF0_29)
  have N110 := Fr.snoc X110 N107 gU
  have K111 : Keep h0 h110 [u, L2] := (K103.wr W110 (Or.inl (List.mem_of_getElem? (i := 0) rfl)))
  have F110 := f104.same W110
  refine own_st (q' := T110.setTop (mkF m 32 #[.val (.ref u), .val (.ref ms)] [])) st110 ?_
  have f112 := (f109.wr W110)
  have f113 := ((U_puts.keep KK102 (ninS (ne_exa EU E1 (by decide)) nin0)).other W110 (Or.inr (sn_36 hw)))
  have f114 := ((U_removals.keep KK102 (ninS (ne_exa EU E1 (by decide)) nin0)).other W110 (Or.inr (sn_37 hw)))
  have f115 := ((U_persistentPuts.keep KK102 (ninS (ne_exa EU E1 (by decide)) nin0)).other W110 (Or.inr (sn_38 hw)))
  have f116 := ((U_id.keep KK102 (ninS (ne_exa EU E1 (by decide)) nin0)).other W110 (Or.inr (sn_39 hw)))
  have f117 := (q102_1.wr W110)
  have f118 := (q102_2.other W110 (Or.inl (Ne.symm (ne_exa EU E1 (by decide)))))
  have f119 := (q102_3.other W110 (Or.inl (Ne.symm (ne_exa EU E1 (by decide)))))
  have f120 := (q102_4.other W110 (Or.inl (Ne.symm (ne_exa EU E1 (by decide)))))
  have f121 := (q102_5.other W110 (Ne.symm (Nat.ne_of_lt (Nat.lt_of_lt_of_le EU.lt q102_0))))
  have f122 := (q102_6.wr W110)
  have f123 := (q102_7.wr W110)
  exact own_retV X110 hx hlk hret (hb hby d_rmARF0_32) e110 (by exact ⟨r102, _, rfl, N110, K111, (Nat.le_trans (Keep.refl h0 [u, L2]).1 q102_0), f112, f113, f114, f115, F110, f116, f117, f118, f119, f120, f121, f122, f123⟩) (by decide) (by decide)
theorem ef_rmARF1 (m : MethodId) (x0 : Addr) (x1 : Addr) : entryFrame m #[(.ref x0), (.ref x1)] 2 = mkF m 0 #[.val (.ref x0), .val (.ref x1)] [] := by first | (simp [entryFrame, mkF, argsToLocals, Value.category]; done) | rfl
theorem d_rmARF1_0 : decode prog_78_method_8_code 0 = .ok (.aload_n 0, 1) := by decide +kernel
theorem d_rmARF1_1 : decode prog_78_method_8_code 1 = .ok (.getfield 16, 3) := by decide +kernel
theorem d_rmARF1_4 : decode prog_78_method_8_code 4 = .ok (.aload_n 1, 1) := by decide +kernel
theorem d_rmARF1_5 : decode prog_78_method_8_code 5 = .ok (.invokeinterface 50 2, 5) := by decide +kernel
theorem d_rmARF1_10 : decode prog_78_method_8_code 10 = .ok (.pop, 1) := by decide +kernel
theorem d_rmARF1_11 : decode prog_78_method_8_code 11 = .ok (.aload_n 0, 1) := by decide +kernel
theorem d_rmARF1_12 : decode prog_78_method_8_code 12 = .ok (.dup, 1) := by decide +kernel
theorem d_rmARF1_13 : decode prog_78_method_8_code 13 = .ok (.getfield 33, 3) := by decide +kernel
theorem d_rmARF1_16 : decode prog_78_method_8_code 16 = .ok (.aload_n 1, 1) := by decide +kernel
theorem d_rmARF1_17 : decode prog_78_method_8_code 17 = .ok (.invokevirtual 54, 3) := by decide +kernel
theorem d_rmARF1_20 : decode prog_78_method_8_code 20 = .ok (.ifCond .eq 7, 3) := by decide +kernel
theorem d_rmARF1_23 : decode prog_78_method_8_code 23 = .ok (.iconst 1, 1) := by decide +kernel
theorem d_rmARF1_24 : decode prog_78_method_8_code 24 = .ok (.goto 4, 3) := by decide +kernel
theorem d_rmARF1_28 : decode prog_78_method_8_code 28 = .ok (.iadd, 1) := by decide +kernel
theorem d_rmARF1_29 : decode prog_78_method_8_code 29 = .ok (.putfield 33, 3) := by decide +kernel
theorem d_rmARF1_32 : decode prog_78_method_8_code 32 = .ok (.return_, 1) := by decide +kernel
set_option maxRecDepth 65536 in
set_option maxHeartbeats 40000000 in
theorem rmARF1 (l : Launch) (Z : State) (a0 : Array Value) (hw : ∀ d ∈ tables_1, d.before a0 Z = true) (ws : List Jvm.Cond) (u L1 L2 ms dc : Addr) (mc : Int32) (h0 : Heap) (n0 : Nat) (Z0 : n0 ≤ h0.size) (EU : Exa Z h0 u "com/example/rock_dove/rockdove/store/UnitOfWork") (gU : n0 ≤ u) (U_puts : Fld Z h0 u "com/example/rock_dove/rockdove/store/UnitOfWork" "puts" "Ljava/util/List;" (.ref L1)) (U_removals : Fld Z h0 u "com/example/rock_dove/rockdove/store/UnitOfWork" "removals" "Ljava/util/List;" (.ref L2)) (U_persistentPuts : Fld Z h0 u "com/example/rock_dove/rockdove/store/UnitOfWork" "persistentPuts" "I" (.int (0 : Int32))) (U_persistentRemovals : Fld Z h0 u "com/example/rock_dove/rockdove/store/UnitOfWork" "persistentRemovals" "I" (.int (0 : Int32))) (U_id : Fld Z h0 u "com/example/rock_dove/rockdove/store/UnitOfWork" "id" "J" (.long (0 : Int64))) (E1 : Exa Z h0 L2 "java/util/ArrayList") (g1 : n0 ≤ L2) (F_mod : Fld Z h0 L2 "java/util/AbstractList" "modCount" "I" (.int mc)) (F_sz : Fld Z h0 L2 "java/util/ArrayList" "size" "I" (.int (0 : Int32))) (F_ed : Fld Z h0 L2 "java/util/ArrayList" "elementData" "[Ljava/lang/Object;" (.ref dc)) (Em : Exa Z h0 ms "com/example/rock_dove/rockdove/store/StoredMessage") (F_per : Fld Z h0 ms "com/example/rock_dove/rockdove/store/StoredMessage" "persistent" "Z" (.int (1 : Int32))) (Fs : Sta Z h0 "java/util/ArrayList" "DEFAULTCAPACITY_EMPTY_ELEMENTDATA" "[Ljava/lang/Object;" (.ref dc)) (A0 : own_A Z h0 dc 0) :
    own_Met l Z (⟨"com/example/rock_dove/rockdove/store/UnitOfWork", "addRemoval", "(Lcom/example/rock_dove/rockdove/store/StoredMessage;)V"⟩ : MethodName) ws prog_78_method_8_code 2 none ({ frames := 5, cells := 1, slots := 10, locals := 69 } : Room) #[(.ref u), (.ref ms)] h0 (fun v h L => ∃ (r : Addr) (w : Int32), v = none ∧ Fr n0 L ∧ Keep h0 h [u, L2] ∧ h0.size ≤ r ∧ Exa Z h u "com/example/rock_dove/rockdove/store/UnitOfWork" ∧ Fld Z h u "com/example/rock_dove/rockdove/store/UnitOfWork" "puts" "Ljava/util/List;" (.ref L1) ∧ Fld Z h u "com/example/rock_dove/rockdove/store/UnitOfWork" "removals" "Ljava/util/List;" (.ref L2) ∧ Fld Z h u "com/example/rock_dove/rockdove/store/UnitOfWork" "persistentPuts" "I" (.int (0 : Int32)) ∧ Fld Z h u "com/example/rock_dove/rockdove/store/UnitOfWork" "persistentRemovals" "I" (.int (1 : Int32)) ∧ Fld Z h u "com/example/rock_dove/rockdove/store/UnitOfWork" "id" "J" (.long (0 : Int64)) ∧ Exa Z h L2 "java/util/ArrayList" ∧ Fld Z h L2 "java/util/AbstractList" "modCount" "I" (.int w) ∧ Fld Z h L2 "java/util/ArrayList" "size" "I" (.int (1 : Int32)) ∧ Fld Z h L2 "java/util/ArrayList" "elementData" "[Ljava/lang/Object;" (.ref r) ∧ own_B Z h r 10 ms ∧ Sta Z h "java/util/ArrayList" "DEFAULTCAPACITY_EMPTY_ELEMENTDATA" "[Ljava/lang/Object;" (.ref dc) ∧ own_A Z h dc 0) := by
  refine own_body (y := (⟨"com/example/rock_dove/rockdove/store/UnitOfWork", "addRemoval", "(Lcom/example/rock_dove/rockdove/store/StoredMessage;)V"⟩ : MethodName)) (plainFor_of_name pn_4) ?_
  intro p e s m below meth c s₁ hx hby hml hown hnm hret hlk hZ X0 e0
  have hml : c.maxLocals = 2 := hml
  have hown : s.vm.findClass "com/example/rock_dove/rockdove/store/UnitOfWork" = some m.cls := hown
  have N0 := Fr.nil n0
  refine own_entry (ef_rmARF1 m u ms) ?_
  show own_Dn p e below s (fun v h L => ∃ (r : Addr) (w : Int32), v = none ∧ Fr n0 L ∧ Keep h0 h [u, L2] ∧ h0.size ≤ r ∧ Exa Z h u "com/example/rock_dove/rockdove/store/UnitOfWork" ∧ Fld Z h u "com/example/rock_dove/rockdove/store/UnitOfWork" "puts" "Ljava/util/List;" (.ref L1) ∧ Fld Z h u "com/example/rock_dove/rockdove/store/UnitOfWork" "removals" "Ljava/util/List;" (.ref L2) ∧ Fld Z h u "com/example/rock_dove/rockdove/store/UnitOfWork" "persistentPuts" "I" (.int (0 : Int32)) ∧ Fld Z h u "com/example/rock_dove/rockdove/store/UnitOfWork" "persistentRemovals" "I" (.int (1 : Int32)) ∧ Fld Z h u "com/example/rock_dove/rockdove/store/UnitOfWork" "id" "J" (.long (0 : Int64)) ∧ Exa Z h L2 "java/util/ArrayList" ∧ Fld Z h L2 "java/util/AbstractList" "modCount" "I" (.int w) ∧ Fld Z h L2 "java/util/ArrayList" "size" "I" (.int (1 : Int32)) ∧ Fld Z h L2 "java/util/ArrayList" "elementData" "[Ljava/lang/Object;" (.ref r) ∧ own_B Z h r 10 ms ∧ Sta Z h "java/util/ArrayList" "DEFAULTCAPACITY_EMPTY_ELEMENTDATA" "[Ljava/lang/Object;" (.ref dc) ∧ own_A Z h dc 0) ({ frames := 5, cells := 1, slots := 10, locals := 69 } : Room).cells ({ frames := 5, cells := 1, slots := 10, locals := 69 } : Room).slots (s₁.setTop (mkF m 0 #[.val (.ref u), .val (.ref ms)] []))
  refine own_st (q' := s₁.setTop (mkF m 1 #[.val (.ref u), .val (.ref ms)] [(.ref u)])) (fun _ k => XS.aloadN X0.here hx rfl (hb hby d_rmARF1_0) rfl rfl k) ?_
  obtain ⟨T101, X101, e101, st101⟩ := getF X0 hx hZ hown (host := "") (Or.inl (wd_35 hw)) Via.refl e0 U_removals (g := (mkF m 1 #[.val (.ref u), .val (.ref ms)] [(.ref u)])) rfl rfl (hb hby d_rmARF1_1)
  refine own_st (q' := T101.setTop (mkF m 4 #[.val (.ref u), .val (.ref ms)] [(.ref L2)])) st101 ?_
  refine own_st (q' := T101.setTop (mkF m 5 #[.val (.ref u), .val (.ref ms)] [(.ref ms), (.ref L2)])) (fun _ k => XS.aloadN X101.here hx rfl (hb hby d_rmARF1_4) rfl rfl k) ?_
  refine own_callF (xi := (⟨"java/util/List", "add", "(Ljava/lang/Object;)Z"⟩ : MethodName)) (y := (⟨"java/util/ArrayList", "add", "(Ljava/lang/Object;)Z"⟩ : MethodName)) X101 hx hZ hown (wd_79 hw) (wd_80 hw) (wd_81 hw) (wd_82 hw) (wd_83 hw) (wd_84 hw) (wd_85 hw) (wd_86 hw) (wd_11 hw) (wd_87 hw) (by decide) (rmAddF l Z a0 hw [] L2 ms dc mc h0 n0 Z0 E1 g1 F_mod F_sz F_ed Em Fs A0) e101 E1 (W := 0) (by decide) (by decide) (by decide) (by decide) (g := (mkF m 5 #[.val (.ref u), .val (.ref ms)] [(.ref ms), (.ref L2)])) rfl (by rw [hml]; rfl) (argsL := [(.ref ms)]) (rest := []) rfl (lenOf pd_7 rfl) rfl (by show 2 * 0 + _ ≤ _; exact Nat.le_of_eq rfl) (hb hby d_rmARF1_5) ?_
  intro v102 T102 L102 hQ102 X102
  obtain ⟨r102, rfl, NN102, KK102, q102_0, q102_1, q102_2, q102_3, q102_4, q102_5, q102_6, q102_7⟩ := hQ102
  have N102 := Fr.app N0 NN102
  have K103 : Keep h0 T102.heap [u, L2] := ((Keep.refl h0 [u, L2]).trans KK102 (allS (Or.inl (List.mem_of_getElem? (i := 1) rfl)) all0))
  show own_Dn p e below s (fun v h L => ∃ (r : Addr) (w : Int32), v = none ∧ Fr n0 L ∧ Keep h0 h [u, L2] ∧ h0.size ≤ r ∧ Exa Z h u "com/example/rock_dove/rockdove/store/UnitOfWork" ∧ Fld Z h u "com/example/rock_dove/rockdove/store/UnitOfWork" "puts" "Ljava/util/List;" (.ref L1) ∧ Fld Z h u "com/example/rock_dove/rockdove/store/UnitOfWork" "removals" "Ljava/util/List;" (.ref L2) ∧ Fld Z h u "com/example/rock_dove/rockdove/store/UnitOfWork" "persistentPuts" "I" (.int (0 : Int32)) ∧ Fld Z h u "com/example/rock_dove/rockdove/store/UnitOfWork" "persistentRemovals" "I" (.int (1 : Int32)) ∧ Fld Z h u "com/example/rock_dove/rockdove/store/UnitOfWork" "id" "J" (.long (0 : Int64)) ∧ Exa Z h L2 "java/util/ArrayList" ∧ Fld Z h L2 "java/util/AbstractList" "modCount" "I" (.int w) ∧ Fld Z h L2 "java/util/ArrayList" "size" "I" (.int (1 : Int32)) ∧ Fld Z h L2 "java/util/ArrayList" "elementData" "[Ljava/lang/Object;" (.ref r) ∧ own_B Z h r 10 ms ∧ Sta Z h "java/util/ArrayList" "DEFAULTCAPACITY_EMPTY_ELEMENTDATA" "[Ljava/lang/Object;" (.ref dc) ∧ own_A Z h dc 0) ({ frames := 5, cells := 1, slots := 10, locals := 69 } : Room).cells ({ frames := 5, cells := 1, slots := 10, locals := 69 } : Room).slots (T102.setTop (mkF m 10 #[.val (.ref u), .val (.ref ms)] [(.int (1 : Int32))]))
  refine own_st (q' := T102.setTop (mkF m 13 #[.val (.ref u), .val (.ref ms)] [(.ref u), (.ref u)])) (fun _ k => XS.pop X102.here hx rfl (hb hby d_rmARF1_10) rfl rfl (XS.aloadN X102.here hx rfl (hb hby d_rmARF1_11) rfl rfl (XS.dup X102.here hx rfl (hb hby d_rmARF1_12) rfl rfl k))) ?_
  have f104 := (U_persistentRemovals.keep KK102 (ninS (ne_exa EU E1 (by decide)) nin0))
  obtain ⟨T105, X105, e105, st105⟩ := getF X102 hx hZ hown (host := "") (Or.inl (wd_44 hw)) Via.refl (rfl : T102.heap = T102.heap) f104 (g := (mkF m 13 #[.val (.ref u), .val (.ref ms)] [(.ref u), (.ref u)])) rfl rfl (hb hby d_rmARF1_13)
  refine own_st (q' := T105.setTop (mkF m 16 #[.val (.ref u), .val (.ref ms)] [(.int (0 : Int32)), (.ref u)])) st105 ?_
  refine own_st (q' := T105.setTop (mkF m 17 #[.val (.ref u), .val (.ref ms)] [(.ref ms), (.int (0 : Int32)), (.ref u)])) (fun _ k => XS.aloadN X105.here hx rfl (hb hby d_rmARF1_16) rfl rfl k) ?_
  have f106 := (F_per.keep KK102 (ninS (Ne.symm (ne_exa E1 Em (by decide))) nin0))
  have f108 := (Em.keep KK102)
  refine own_callV (y := (⟨"com/example/rock_dove/rockdove/store/StoredMessage", "isPersistent", "()Z"⟩ : MethodName)) X105 hx hZ hown (wd_114 hw) (wd_115 hw) (wd_117 hw) (wd_116 hw) (wd_52 hw) (wd_118 hw) (by decide) (rmIP1 l Z a0 hw [] ms T102.heap n0 (Nat.le_trans Z0 KK102.1) f106) e105 f108 (W := 2) (by decide) (by decide) (by decide) (by decide) (g := (mkF m 17 #[.val (.ref u), .val (.ref ms)] [(.ref ms), (.int (0 : Int32)), (.ref u)])) rfl (by rw [hml]; rfl) (argsL := []) (rest := [(.int (0 : Int32)), (.ref u)]) rfl (lenOf pd_8 rfl) rfl (by show 2 * 0 + _ ≤ _; exact Nat.le_of_eq rfl) (hb hby d_rmARF1_17) ?_
  intro v107 T107 L107 hQ107 X107
  obtain ⟨rfl, NN107, e107⟩ := hQ107
  have N107 := Fr.app N102 NN107
  show own_Dn p e below s (fun v h L => ∃ (r : Addr) (w : Int32), v = none ∧ Fr n0 L ∧ Keep h0 h [u, L2] ∧ h0.size ≤ r ∧ Exa Z h u "com/example/rock_dove/rockdove/store/UnitOfWork" ∧ Fld Z h u "com/example/rock_dove/rockdove/store/UnitOfWork" "puts" "Ljava/util/List;" (.ref L1) ∧ Fld Z h u "com/example/rock_dove/rockdove/store/UnitOfWork" "removals" "Ljava/util/List;" (.ref L2) ∧ Fld Z h u "com/example/rock_dove/rockdove/store/UnitOfWork" "persistentPuts" "I" (.int (0 : Int32)) ∧ Fld Z h u "com/example/rock_dove/rockdove/store/UnitOfWork" "persistentRemovals" "I" (.int (1 : Int32)) ∧ Fld Z h u "com/example/rock_dove/rockdove/store/UnitOfWork" "id" "J" (.long (0 : Int64)) ∧ Exa Z h L2 "java/util/ArrayList" ∧ Fld Z h L2 "java/util/AbstractList" "modCount" "I" (.int w) ∧ Fld Z h L2 "java/util/ArrayList" "size" "I" (.int (1 : Int32)) ∧ Fld Z h L2 "java/util/ArrayList" "elementData" "[Ljava/lang/Object;" (.ref r) ∧ own_B Z h r 10 ms ∧ Sta Z h "java/util/ArrayList" "DEFAULTCAPACITY_EMPTY_ELEMENTDATA" "[Ljava/lang/Object;" (.ref dc) ∧ own_A Z h dc 0) ({ frames := 5, cells := 1, slots := 10, locals := 69 } : Room).cells ({ frames := 5, cells := 1, slots := 10, locals := 69 } : Room).slots (T107.setTop (mkF m 20 #[.val (.ref u), .val (.ref ms)] [(.int (1 : Int32)), (.int (0 : Int32)), (.ref u)]))
  refine own_st (q' := T107.setTop (mkF m 29 #[.val (.ref u), .val (.ref ms)] [(.int (1 : Int32)), (.ref u)])) (fun _ k => XS.ifNo X107.here hx rfl (hb hby d_rmARF1_20) rfl ((if0 _ _).trans (feq ((by decide : ¬ ((1 : Int32) = (0 : Int32))) : ¬ ((1 : Int32) = (0 : Int32)))).1) (XS.iconst X107.here hx rfl (hb hby d_rmARF1_23) (XS.goto X107.here hx rfl (pc0 := 24) (pc' := 28) rfl (hb hby d_rmARF1_24) (by decide) (by decide) (XS.iadd X107.here hx rfl (hb hby d_rmARF1_28) rfl k)))) ?_
  have f109 := (EU.keep KK102)
  obtain ⟨T110, h110, X110, e110, W110, st110⟩ := putF X107 hx hZ hown (host := "") (Or.inl (wd_44 hw)) Via.refl e107 f104 f109 (Or.inl (wd_45 hw)) (wd_1 hw) (ty := .int) (by decide) rfl rfl (g := (mkF m 29 #[.val (.ref u), .val (.ref ms)] [(.int (1 : Int32)), (.ref u)])) rfl rfl (hb hby d_rmARF1_29)
  have N110 := Fr.snoc X110 N107 gU
  have K111 : Keep h0 h110 [u, L2] := (K103.wr W110 (Or.inl (List.mem_of_getElem? (i := 0) rfl)))
  have F110 := f104.same W110
  refine own_st (q' := T110.setTop (mkF m 32 #[.val (.ref u), .val (.ref ms)] [])) st110 ?_
  have f112 := (f109.wr W110)
  have f113 := ((U_puts.keep KK102 (ninS (ne_exa EU E1 (by decide)) nin0)).other W110 (Or.inr (sn_36 hw)))
  have f114 := ((U_removals.keep KK102 (ninS (ne_exa EU E1 (by decide)) nin0)).other W110 (Or.inr (sn_37 hw)))
  have f115 := ((U_persistentPuts.keep KK102 (ninS (ne_exa EU E1 (by decide)) nin0)).other W110 (Or.inr (sn_38 hw)))
  have f116 := ((U_id.keep KK102 (ninS (ne_exa EU E1 (by decide)) nin0)).other W110 (Or.inr (sn_39 hw)))
  have f117 := (q102_1.wr W110)
  have f118 := (q102_2.other W110 (Or.inl (Ne.symm (ne_exa EU E1 (by decide)))))
  have f119 := (q102_3.other W110 (Or.inl (Ne.symm (ne_exa EU E1 (by decide)))))
  have f120 := (q102_4.other W110 (Or.inl (Ne.symm (ne_exa EU E1 (by decide)))))
  have f121 := (q102_5.other W110 (Ne.symm (Nat.ne_of_lt (Nat.lt_of_lt_of_le EU.lt q102_0))))
  have f122 := (q102_6.wr W110)
  have f123 := (q102_7.wr W110)
  exact own_retV X110 hx hlk hret (hb hby d_rmARF1_32) e110 (by exact ⟨r102, _, rfl, N110, K111, (Nat.le_trans (Keep.refl h0 [u, L2]).1 q102_0), f112, f113, f114, f115, F110, f116, f117, f118, f119, f120, f121, f122, f123⟩) (by decide) (by decide)
theorem ef_rmEnd (m : MethodId) (x0 : Addr) : entryFrame m #[(.ref x0)] 1 = mkF m 0 #[.val (.ref x0)] [] := by first | (simp [entryFrame, mkF, argsToLocals, Value.category]; done) | rfl
theorem wd_124 {a0 : Array Value} {Z : State} (hw : ∀ d ∈ tables_1, d.before a0 Z = true) : Cond.before (Jvm.Cond.methodLink "com/example/rock_dove/rockdove/store/UnitOfWork" (63 : Nat) ({ cls := "java/util/List", name := "clear", desc := "()V" } : Jvm.MethodName)) a0 Z = true := hw _ (List.mem_of_getElem? (i := 124) rfl)
theorem wd_127 {a0 : Array Value} {Z : State} (hw : ∀ d ∈ tables_1, d.before a0 Z = true) : Cond.before (Jvm.Cond.selects "java/util/ArrayList" ({ cls := "java/util/List", name := "clear", desc := "()V" } : Jvm.MethodName) ({ cls := "java/util/ArrayList", name := "clear", desc := "()V" } : Jvm.MethodName)) a0 Z = true := hw _ (List.mem_of_getElem? (i := 127) rfl)
theorem wd_125 {a0 : Array Value} {Z : State} (hw : ∀ d ∈ tables_1, d.before a0 Z = true) : Cond.before (Jvm.Cond.declares ({ cls := "java/util/List", name := "clear", desc := "()V" } : Jvm.MethodName)) a0 Z = true := hw _ (List.mem_of_getElem? (i := 125) rfl)
theorem wd_126 {a0 : Array Value} {Z : State} (hw : ∀ d ∈ tables_1, d.before a0 Z = true) : Cond.before (Jvm.Cond.interfaceMethod "java/util/List" "java/util/List" "clear" "()V") a0 Z = true := hw _ (List.mem_of_getElem? (i := 126) rfl)
theorem wd_128 {a0 : Array Value} {Z : State} (hw : ∀ d ∈ tables_1, d.before a0 Z = true) : Cond.before (Jvm.Cond.instanceMethod ({ cls := "java/util/ArrayList", name := "clear", desc := "()V" } : Jvm.MethodName)) a0 Z = true := hw _ (List.mem_of_getElem? (i := 128) rfl)
theorem wd_129 {a0 : Array Value} {Z : State} (hw : ∀ d ∈ tables_1, d.before a0 Z = true) : Cond.before (Jvm.Cond.publicMethod ({ cls := "java/util/ArrayList", name := "clear", desc := "()V" } : Jvm.MethodName)) a0 Z = true := hw _ (List.mem_of_getElem? (i := 129) rfl)
theorem wd_130 {a0 : Array Value} {Z : State} (hw : ∀ d ∈ tables_1, d.before a0 Z = true) : Cond.before (Jvm.Cond.unhidden "java/util/ArrayList" "clear" "()V") a0 Z = true := hw _ (List.mem_of_getElem? (i := 130) rfl)
theorem wd_131 {a0 : Array Value} {Z : State} (hw : ∀ d ∈ tables_1, d.before a0 Z = true) : Cond.before (Jvm.Cond.code ({ cls := "java/util/ArrayList", name := "clear", desc := "()V" } : Jvm.MethodName) jdk_38_method_40_code (4 : Nat) (Option.none : Option Jvm.ClassFile.FieldType)) a0 Z = true := hw _ (List.mem_of_getElem? (i := 131) rfl)
theorem wd_132 {a0 : Array Value} {Z : State} (hw : ∀ d ∈ tables_1, d.before a0 Z = true) : Cond.before (Jvm.Cond.fieldLink "com/example/rock_dove/rockdove/store/UnitOfWork" (59 : Nat) "com/example/rock_dove/rockdove/store/UnitOfWork" "id" "J") a0 Z = true := hw _ (List.mem_of_getElem? (i := 132) rfl)
theorem sn_40 {a0 : Array Value} {Z : State} (hw : ∀ d ∈ tables_1, d.before a0 Z = true) : Jvm.RoadKit.slotOf Z "com/example/rock_dove/rockdove/store/UnitOfWork" "puts" "Ljava/util/List;" ≠ Jvm.RoadKit.slotOf Z "com/example/rock_dove/rockdove/store/UnitOfWork" "id" "J" := slot_ne (Or.inr (wd_34 hw)) (Or.inl (wd_133 hw)) (by decide) (t := (.object "java/util/List")) (t' := .long) (by decide) (by decide)
theorem sn_41 {a0 : Array Value} {Z : State} (hw : ∀ d ∈ tables_1, d.before a0 Z = true) : Jvm.RoadKit.slotOf Z "com/example/rock_dove/rockdove/store/UnitOfWork" "removals" "Ljava/util/List;" ≠ Jvm.RoadKit.slotOf Z "com/example/rock_dove/rockdove/store/UnitOfWork" "id" "J" := slot_ne (Or.inr (wd_36 hw)) (Or.inl (wd_133 hw)) (by decide) (t := (.object "java/util/List")) (t' := .long) (by decide) (by decide)
theorem sn_42 {a0 : Array Value} {Z : State} (hw : ∀ d ∈ tables_1, d.before a0 Z = true) : Jvm.RoadKit.slotOf Z "com/example/rock_dove/rockdove/store/UnitOfWork" "persistentPuts" "I" ≠ Jvm.RoadKit.slotOf Z "com/example/rock_dove/rockdove/store/UnitOfWork" "id" "J" := slot_ne (Or.inl (wd_43 hw)) (Or.inl (wd_133 hw)) (by decide) (t := .int) (t' := .long) (by decide) (by decide)
theorem sn_43 {a0 : Array Value} {Z : State} (hw : ∀ d ∈ tables_1, d.before a0 Z = true) : Jvm.RoadKit.slotOf Z "com/example/rock_dove/rockdove/store/UnitOfWork" "persistentRemovals" "I" ≠ Jvm.RoadKit.slotOf Z "com/example/rock_dove/rockdove/store/UnitOfWork" "id" "J" := slot_ne (Or.inl (wd_45 hw)) (Or.inl (wd_133 hw)) (by decide) (t := .int) (t' := .long) (by decide) (by decide)
theorem d_rmEnd_0 : decode prog_78_method_12_code 0 = .ok (.aload_n 0, 1) := by decide +kernel
theorem d_rmEnd_1 : decode prog_78_method_12_code 1 = .ok (.getfield 10, 3) := by decide +kernel
theorem d_rmEnd_4 : decode prog_78_method_12_code 4 = .ok (.invokeinterface 63 1, 5) := by decide +kernel
theorem d_rmEnd_9 : decode prog_78_method_12_code 9 = .ok (.aload_n 0, 1) := by decide +kernel
theorem d_rmEnd_10 : decode prog_78_method_12_code 10 = .ok (.getfield 16, 3) := by decide +kernel
theorem d_rmEnd_13 : decode prog_78_method_12_code 13 = .ok (.invokeinterface 63 1, 5) := by decide +kernel
theorem d_rmEnd_18 : decode prog_78_method_12_code 18 = .ok (.aload_n 0, 1) := by decide +kernel
theorem d_rmEnd_19 : decode prog_78_method_12_code 19 = .ok (.iconst 0, 1) := by decide +kernel
theorem d_rmEnd_20 : decode prog_78_method_12_code 20 = .ok (.putfield 29, 3) := by decide +kernel
theorem d_rmEnd_23 : decode prog_78_method_12_code 23 = .ok (.aload_n 0, 1) := by decide +kernel
theorem d_rmEnd_24 : decode prog_78_method_12_code 24 = .ok (.iconst 0, 1) := by decide +kernel
theorem d_rmEnd_25 : decode prog_78_method_12_code 25 = .ok (.putfield 33, 3) := by decide +kernel
theorem d_rmEnd_28 : decode prog_78_method_12_code 28 = .ok (.aload_n 0, 1) := by decide +kernel
theorem d_rmEnd_29 : decode prog_78_method_12_code 29 = .ok (.lconst 0, 1) := by decide +kernel
theorem d_rmEnd_30 : decode prog_78_method_12_code 30 = .ok (.putfield 59, 3) := by decide +kernel
theorem d_rmEnd_33 : decode prog_78_method_12_code 33 = .ok (.return_, 1) := by decide +kernel
set_option maxRecDepth 65536 in
set_option maxHeartbeats 40000000 in
theorem rmEnd (l : Launch) (Z : State) (a0 : Array Value) (hw : ∀ d ∈ tables_1, d.before a0 Z = true) (ws : List Jvm.Cond) (u L1 L2 dc ea1 ea2 : Addr) (k : Nat) (pp pr : Int32) (iD : Int64) (h0 : Heap) (n0 : Nat) (Z0 : n0 ≤ h0.size) (EU : Exa Z h0 u "com/example/rock_dove/rockdove/store/UnitOfWork") (gU : n0 ≤ u) (U_puts : Fld Z h0 u "com/example/rock_dove/rockdove/store/UnitOfWork" "puts" "Ljava/util/List;" (.ref L1)) (U_removals : Fld Z h0 u "com/example/rock_dove/rockdove/store/UnitOfWork" "removals" "Ljava/util/List;" (.ref L2)) (U_persistentPuts : Fld Z h0 u "com/example/rock_dove/rockdove/store/UnitOfWork" "persistentPuts" "I" (.int pp)) (U_persistentRemovals : Fld Z h0 u "com/example/rock_dove/rockdove/store/UnitOfWork" "persistentRemovals" "I" (.int pr)) (U_id : Fld Z h0 u "com/example/rock_dove/rockdove/store/UnitOfWork" "id" "J" (.long iD)) (HL1 : own_L Z n0 dc h0 L1 k ea1) (HL2 : own_L Z n0 dc h0 L2 k ea2) (ne12 : L1 ≠ L2) (hk : k ≤ 3) (Fs : Sta Z h0 "java/util/ArrayList" "DEFAULTCAPACITY_EMPTY_ELEMENTDATA" "[Ljava/lang/Object;" (.ref dc)) (A0 : own_A Z h0 dc 0) :
    own_Met l Z (⟨"com/example/rock_dove/rockdove/store/UnitOfWork", "end", "()V"⟩ : MethodName) ws prog_78_method_12_code 1 none ({ frames := 1, cells := 0, slots := 0, locals := 15 } : Room) #[(.ref u)] h0 (fun v h L => v = none ∧ Fr n0 L ∧ Keep h0 h [u, L1, ea1, L2, ea2] ∧ Exa Z h u "com/example/rock_dove/rockdove/store/UnitOfWork" ∧ Fld Z h u "com/example/rock_dove/rockdove/store/UnitOfWork" "puts" "Ljava/util/List;" (.ref L1) ∧ Fld Z h u "com/example/rock_dove/rockdove/store/UnitOfWork" "removals" "Ljava/util/List;" (.ref L2) ∧ Fld Z h u "com/example/rock_dove/rockdove/store/UnitOfWork" "persistentPuts" "I" (.int (0 : Int32)) ∧ Fld Z h u "com/example/rock_dove/rockdove/store/UnitOfWork" "persistentRemovals" "I" (.int (0 : Int32)) ∧ Fld Z h u "com/example/rock_dove/rockdove/store/UnitOfWork" "id" "J" (.long (0 : Int64)) ∧ own_L Z n0 dc h L1 0 ea1 ∧ own_L Z n0 dc h L2 0 ea2 ∧ Sta Z h "java/util/ArrayList" "DEFAULTCAPACITY_EMPTY_ELEMENTDATA" "[Ljava/lang/Object;" (.ref dc) ∧ own_A Z h dc 0) := by
  refine own_body (y := (⟨"com/example/rock_dove/rockdove/store/UnitOfWork", "end", "()V"⟩ : MethodName)) (plainFor_of_name pn_4) ?_
  intro p e s m below meth c s₁ hx hby hml hown hnm hret hlk hZ X0 e0
  have hml : c.maxLocals = 1 := hml
  have hown : s.vm.findClass "com/example/rock_dove/rockdove/store/UnitOfWork" = some m.cls := hown
  have N0 := Fr.nil n0
  refine own_entry (ef_rmEnd m u) ?_
  show own_Dn p e below s (fun v h L => v = none ∧ Fr n0 L ∧ Keep h0 h [u, L1, ea1, L2, ea2] ∧ Exa Z h u "com/example/rock_dove/rockdove/store/UnitOfWork" ∧ Fld Z h u "com/example/rock_dove/rockdove/store/UnitOfWork" "puts" "Ljava/util/List;" (.ref L1) ∧ Fld Z h u "com/example/rock_dove/rockdove/store/UnitOfWork" "removals" "Ljava/util/List;" (.ref L2) ∧ Fld Z h u "com/example/rock_dove/rockdove/store/UnitOfWork" "persistentPuts" "I" (.int (0 : Int32)) ∧ Fld Z h u "com/example/rock_dove/rockdove/store/UnitOfWork" "persistentRemovals" "I" (.int (0 : Int32)) ∧ Fld Z h u "com/example/rock_dove/rockdove/store/UnitOfWork" "id" "J" (.long (0 : Int64)) ∧ own_L Z n0 dc h L1 0 ea1 ∧ own_L Z n0 dc h L2 0 ea2 ∧ Sta Z h "java/util/ArrayList" "DEFAULTCAPACITY_EMPTY_ELEMENTDATA" "[Ljava/lang/Object;" (.ref dc) ∧ own_A Z h dc 0) ({ frames := 1, cells := 0, slots := 0, locals := 15 } : Room).cells ({ frames := 1, cells := 0, slots := 0, locals := 15 } : Room).slots (s₁.setTop (mkF m 0 #[.val (.ref u)] []))
  obtain ⟨j1, Q1⟩ := HL1.arr A0
  obtain ⟨j2, Q2⟩ := HL2.arr A0
  refine own_st (q' := s₁.setTop (mkF m 1 #[.val (.ref u)] [(.ref u)])) (fun _ k => XS.aloadN X0.here hx rfl (hb hby d_rmEnd_0) rfl rfl k) ?_
  obtain ⟨T101, X101, e101, st101⟩ := getF X0 hx hZ hown (host := "") (Or.inl (wd_33 hw)) Via.refl e0 U_puts (g := (mkF m 1 #[.val (.ref u)] [(.ref u)])) rfl rfl (hb hby d_rmEnd_1)
  refine own_st (q' := T101.setTop (mkF m 4 #[.val (.ref u)] [(.ref L1)])) st101 ?_
  refine own_callF (xi := (⟨"java/util/List", "clear", "()V"⟩ : MethodName)) (y := (⟨"java/util/ArrayList", "clear", "()V"⟩ : MethodName)) X101 hx hZ hown (wd_124 hw) (wd_125 hw) (wd_126 hw) (wd_127 hw) (wd_128 hw) (wd_129 hw) (wd_130 hw) (wd_86 hw) (wd_11 hw) (wd_131 hw) (by decide) (rmCl l Z a0 hw [] L1 dc ea1 k h0 n0 Z0 HL1 hk Fs A0) e101 HL1.1 (W := 0) (by decide) (by decide) (by decide) (by decide) (g := (mkF m 4 #[.val (.ref u)] [(.ref L1)])) rfl (by rw [hml]; rfl) (argsL := []) (rest := []) rfl (lenOf pd_0 rfl) rfl (by show 2 * 0 + _ ≤ _; exact Nat.le_of_eq rfl) (hb hby d_rmEnd_4) ?_
  intro v102 T102 L102 hQ102 X102
  obtain ⟨rfl, NN102, KK102, q102_0, q102_1, q102_2⟩ := hQ102
  have N102 := Fr.app N0 NN102
  have K103 : Keep h0 T102.heap [u, L1, ea1, L2, ea2] := ((Keep.refl h0 [u, L1, ea1, L2, ea2]).trans KK102 (allS (Or.inl (List.mem_of_getElem? (i := 1) rfl)) (allS (Or.inl (List.mem_of_getElem? (i := 2) rfl)) all0)))
  show own_Dn p e below s (fun v h L => v = none ∧ Fr n0 L ∧ Keep h0 h [u, L1, ea1, L2, ea2] ∧ Exa Z h u "com/example/rock_dove/rockdove/store/UnitOfWork" ∧ Fld Z h u "com/example/rock_dove/rockdove/store/UnitOfWork" "puts" "Ljava/util/List;" (.ref L1) ∧ Fld Z h u "com/example/rock_dove/rockdove/store/UnitOfWork" "removals" "Ljava/util/List;" (.ref L2) ∧ Fld Z h u "com/example/rock_dove/rockdove/store/UnitOfWork" "persistentPuts" "I" (.int (0 : Int32)) ∧ Fld Z h u "com/example/rock_dove/rockdove/store/UnitOfWork" "persistentRemovals" "I" (.int (0 : Int32)) ∧ Fld Z h u "com/example/rock_dove/rockdove/store/UnitOfWork" "id" "J" (.long (0 : Int64)) ∧ own_L Z n0 dc h L1 0 ea1 ∧ own_L Z n0 dc h L2 0 ea2 ∧ Sta Z h "java/util/ArrayList" "DEFAULTCAPACITY_EMPTY_ELEMENTDATA" "[Ljava/lang/Object;" (.ref dc) ∧ own_A Z h dc 0) ({ frames := 1, cells := 0, slots := 0, locals := 15 } : Room).cells ({ frames := 1, cells := 0, slots := 0, locals := 15 } : Room).slots (T102.setTop (mkF m 9 #[.val (.ref u)] []))
  refine own_st (q' := T102.setTop (mkF m 10 #[.val (.ref u)] [(.ref u)])) (fun _ k => XS.aloadN X102.here hx rfl (hb hby d_rmEnd_9) rfl rfl k) ?_
  have f104 := (U_removals.keep KK102 (ninS (ne_exa EU HL1.1 (by decide)) (ninS (Q1.ne EU (wd_1 hw)) nin0)))
  obtain ⟨T105, X105, e105, st105⟩ := getF X102 hx hZ hown (host := "") (Or.inl (wd_35 hw)) Via.refl (rfl : T102.heap = T102.heap) f104 (g := (mkF m 10 #[.val (.ref u)] [(.ref u)])) rfl rfl (hb hby d_rmEnd_10)
  refine own_st (q' := T105.setTop (mkF m 13 #[.val (.ref u)] [(.ref L2)])) st105 ?_
  have f106 := (HL2.keep KK102 (ninS (Ne.symm ne12) (ninS (Q1.ne HL2.1 (wd_10 hw)) nin0)))
  have f108 := (HL2.1.keep KK102)
  refine own_callF (xi := (⟨"java/util/List", "clear", "()V"⟩ : MethodName)) (y := (⟨"java/util/ArrayList", "clear", "()V"⟩ : MethodName)) X105 hx hZ hown (wd_124 hw) (wd_125 hw) (wd_126 hw) (wd_127 hw) (wd_128 hw) (wd_129 hw) (wd_130 hw) (wd_86 hw) (wd_11 hw) (wd_131 hw) (by decide) (rmCl l Z a0 hw [] L2 dc ea2 k T102.heap n0 (Nat.le_trans Z0 KK102.1) f106 hk q102_1 q102_2) e105 f108 (W := 0) (by decide) (by decide) (by decide) (by decide) (g := (mkF m 13 #[.val (.ref u)] [(.ref L2)])) rfl (by rw [hml]; rfl) (argsL := []) (rest := []) rfl (lenOf pd_0 rfl) rfl (by show 2 * 0 + _ ≤ _; exact Nat.le_of_eq rfl) (hb hby d_rmEnd_13) ?_
  intro v107 T107 L107 hQ107 X107
  obtain ⟨rfl, NN107, KK107, q107_0, q107_1, q107_2⟩ := hQ107
  have N107 := Fr.app N102 NN107
  have K109 : Keep h0 T107.heap [u, L1, ea1, L2, ea2] := (K103.trans KK107 (allS (Or.inl (List.mem_of_getElem? (i := 3) rfl)) (allS (Or.inl (List.mem_of_getElem? (i := 4) rfl)) all0)))
  show own_Dn p e below s (fun v h L => v = none ∧ Fr n0 L ∧ Keep h0 h [u, L1, ea1, L2, ea2] ∧ Exa Z h u "com/example/rock_dove/rockdove/store/UnitOfWork" ∧ Fld Z h u "com/example/rock_dove/rockdove/store/UnitOfWork" "puts" "Ljava/util/List;" (.ref L1) ∧ Fld Z h u "com/example/rock_dove/rockdove/store/UnitOfWork" "removals" "Ljava/util/List;" (.ref L2) ∧ Fld Z h u "com/example/rock_dove/rockdove/store/UnitOfWork" "persistentPuts" "I" (.int (0 : Int32)) ∧ Fld Z h u "com/example/rock_dove/rockdove/store/UnitOfWork" "persistentRemovals" "I" (.int (0 : Int32)) ∧ Fld Z h u "com/example/rock_dove/rockdove/store/UnitOfWork" "id" "J" (.long (0 : Int64)) ∧ own_L Z n0 dc h L1 0 ea1 ∧ own_L Z n0 dc h L2 0 ea2 ∧ Sta Z h "java/util/ArrayList" "DEFAULTCAPACITY_EMPTY_ELEMENTDATA" "[Ljava/lang/Object;" (.ref dc) ∧ own_A Z h dc 0) ({ frames := 1, cells := 0, slots := 0, locals := 15 } : Room).cells ({ frames := 1, cells := 0, slots := 0, locals := 15 } : Room).slots (T107.setTop (mkF m 18 #[.val (.ref u)] []))
  refine own_st (q' := T107.setTop (mkF m 20 #[.val (.ref u)] [(.int (0 : Int32)), (.ref u)])) (fun _ k => XS.aloadN X107.here hx rfl (hb hby d_rmEnd_18) rfl rfl (XS.iconst X107.here hx rfl (hb hby d_rmEnd_19) k)) ?_
  have f110 := ((U_persistentPuts.keep KK102 (ninS (ne_exa EU HL1.1 (by decide)) (ninS (Q1.ne EU (wd_1 hw)) nin0))).keep KK107 (ninS (ne_exa EU HL2.1 (by decide)) (ninS (Q2.ne EU (wd_1 hw)) nin0)))
  have f111 := ((EU.keep KK102).keep KK107)
  obtain ⟨T112, h112, X112, e112, W112, st112⟩ := putF X107 hx hZ hown (host := "") (Or.inl (wd_42 hw)) Via.refl (rfl : T107.heap = T107.heap) f110 f111 (Or.inl (wd_43 hw)) (wd_1 hw) (ty := .int) (by decide) rfl rfl (g := (mkF m 20 #[.val (.ref u)] [(.int (0 : Int32)), (.ref u)])) rfl rfl (hb hby d_rmEnd_20)
  have N112 := Fr.snoc X112 N107 gU
  have K113 : Keep h0 h112 [u, L1, ea1, L2, ea2] := (K109.wr W112 (Or.inl (List.mem_of_getElem? (i := 0) rfl)))
  have F112 := f110.same W112
  refine own_st (q' := T112.setTop (mkF m 23 #[.val (.ref u)] [])) st112 ?_
  refine own_st (q' := T112.setTop (mkF m 25 #[.val (.ref u)] [(.int (0 : Int32)), (.ref u)])) (fun _ k => XS.aloadN X112.here hx rfl (hb hby d_rmEnd_23) rfl rfl (XS.iconst X112.here hx rfl (hb hby d_rmEnd_24) k)) ?_
  have f114 := (((U_persistentRemovals.keep KK102 (ninS (ne_exa EU HL1.1 (by decide)) (ninS (Q1.ne EU (wd_1 hw)) nin0))).keep KK107 (ninS (ne_exa EU HL2.1 (by decide)) (ninS (Q2.ne EU (wd_1 hw)) nin0))).other W112 (Or.inr (sn_34 hw)))
  have f115 := (f111.wr W112)
  obtain ⟨T116, h116, X116, e116, W116, st116⟩ := putF X112 hx hZ hown (host := "") (Or.inl (wd_44 hw)) Via.refl e112 f114 f115 (Or.inl (wd_45 hw)) (wd_1 hw) (ty := .int) (by decide) rfl rfl (g := (mkF m 25 #[.val (.ref u)] [(.int (0 : Int32)), (.ref u)])) rfl rfl (hb hby d_rmEnd_25)
  have N116 := Fr.snoc X116 N112 gU
  have K117 : Keep h0 h116 [u, L1, ea1, L2, ea2] := (K113.wr W116 (Or.inl (List.mem_of_getElem? (i := 0) rfl)))
  have F116 := f114.same W116
  refine own_st (q' := T116.setTop (mkF m 28 #[.val (.ref u)] [])) st116 ?_
  refine own_st (q' := T116.setTop (mkF m 30 #[.val (.ref u)] [(.long (0 : Int64)), (.ref u)])) (fun _ k => XS.aloadN X116.here hx rfl (hb hby d_rmEnd_28) rfl rfl (XS.lconst X116.here hx rfl (hb hby d_rmEnd_29) k)) ?_
  have f118 := ((((U_id.keep KK102 (ninS (ne_exa EU HL1.1 (by decide)) (ninS (Q1.ne EU (wd_1 hw)) nin0))).keep KK107 (ninS (ne_exa EU HL2.1 (by decide)) (ninS (Q2.ne EU (wd_1 hw)) nin0))).other W112 (Or.inr (sn_35 hw))).other W116 (Or.inr (sn_39 hw)))
  have f119 := (f115.wr W116)
  obtain ⟨T120, h120, X120, e120, W120, st120⟩ := putF X116 hx hZ hown (host := "") (Or.inl (wd_132 hw)) Via.refl e116 f118 f119 (Or.inl (wd_133 hw)) (wd_1 hw) (ty := .long) (by decide) rfl rfl (g := (mkF m 30 #[.val (.ref u)] [(.long (0 : Int64)), (.ref u)])) rfl rfl (hb hby d_rmEnd_30)
  have N120 := Fr.snoc X120 N116 gU
  have K121 : Keep h0 h120 [u, L1, ea1, L2, ea2] := (K117.wr W120 (Or.inl (List.mem_of_getElem? (i := 0) rfl)))
  have F120 := f118.same W120
  refine own_st (q' := T120.setTop (mkF m 33 #[.val (.ref u)] [])) st120 ?_
  have f122 := (f119.wr W120)
  have f123 := (((((U_puts.keep KK102 (ninS (ne_exa EU HL1.1 (by decide)) (ninS (Q1.ne EU (wd_1 hw)) nin0))).keep KK107 (ninS (ne_exa EU HL2.1 (by decide)) (ninS (Q2.ne EU (wd_1 hw)) nin0))).other W112 (Or.inr (sn_32 hw))).other W116 (Or.inr (sn_36 hw))).other W120 (Or.inr (sn_40 hw)))
  have f124 := ((((f104.keep KK107 (ninS (ne_exa EU HL2.1 (by decide)) (ninS (Q2.ne EU (wd_1 hw)) nin0))).other W112 (Or.inr (sn_33 hw))).other W116 (Or.inr (sn_37 hw))).other W120 (Or.inr (sn_41 hw)))
  have f125 := ((F112.other W116 (Or.inr (sn_38 hw))).other W120 (Or.inr (sn_42 hw)))
  have f126 := (F116.other W120 (Or.inr (sn_43 hw)))
  have f127 := ((((q102_0.keep KK107 (ninS ne12 (ninS (Q2.ne HL1.1 (wd_10 hw)) nin0))).other W112 (Ne.symm (ne_exa EU HL1.1 (by decide)))).other W116 (Ne.symm (ne_exa EU HL1.1 (by decide)))).other W120 (Ne.symm (ne_exa EU HL1.1 (by decide))))
  have f128 := (((q107_0.other W112 (Ne.symm (ne_exa EU HL2.1 (by decide)))).other W116 (Ne.symm (ne_exa EU HL2.1 (by decide)))).other W120 (Ne.symm (ne_exa EU HL2.1 (by decide))))
  have f129 := (((q107_1.wr W112).wr W116).wr W120)
  have f130 := (((q107_2.wr W112).wr W116).wr W120)
  exact own_retV X120 hx hlk hret (hb hby d_rmEnd_33) e120 (by exact ⟨rfl, N120, K121, f122, f123, f124, f125, f126, F120, f127, f128, f129, f130⟩) (by decide) (by decide)
theorem ef_rmAb0 (m : MethodId) (x0 : Addr) (x1 : Addr) : entryFrame m #[(.ref x0), (.ref x1)] 2 = mkF m 0 #[.val (.ref x0), .val (.ref x1)] [] := by first | (simp [entryFrame, mkF, argsToLocals, Value.category]; done) | rfl
theorem wd_144 {a0 : Array Value} {Z : State} (hw : ∀ d ∈ tables_1, d.before a0 Z = true) : Cond.before (Jvm.Cond.methodLink "com/example/rock_dove/rockdove/store/UnitOfWork" (25 : Nat) ({ cls := "java/util/List", name := "isEmpty", desc := "()Z" } : Jvm.MethodName)) a0 Z = true := hw _ (List.mem_of_getElem? (i := 144) rfl)
theorem wd_147 {a0 : Array Value} {Z : State} (hw : ∀ d ∈ tables_1, d.before a0 Z = true) : Cond.before (Jvm.Cond.selects "java/util/ArrayList" ({ cls := "java/util/List", name := "isEmpty", desc := "()Z" } : Jvm.MethodName) ({ cls := "java/util/ArrayList", name := "isEmpty", desc := "()Z" } : Jvm.MethodName)) a0 Z = true := hw _ (List.mem_of_getElem? (i := 147) rfl)
theorem wd_145 {a0 : Array Value} {Z : State} (hw : ∀ d ∈ tables_1, d.before a0 Z = true) : Cond.before (Jvm.Cond.declares ({ cls := "java/util/List", name := "isEmpty", desc := "()Z" } : Jvm.MethodName)) a0 Z = true := hw _ (List.mem_of_getElem? (i := 145) rfl)
theorem wd_146 {a0 : Array Value} {Z : State} (hw : ∀ d ∈ tables_1, d.before a0 Z = true) : Cond.before (Jvm.Cond.interfaceMethod "java/util/List" "java/util/List" "isEmpty" "()Z") a0 Z = true := hw _ (List.mem_of_getElem? (i := 146) rfl)
theorem wd_148 {a0 : Array Value} {Z : State} (hw : ∀ d ∈ tables_1, d.before a0 Z = true) : Cond.before (Jvm.Cond.instanceMethod ({ cls := "java/util/ArrayList", name := "isEmpty", desc := "()Z" } : Jvm.MethodName)) a0 Z = true := hw _ (List.mem_of_getElem? (i := 148) rfl)
theorem wd_149 {a0 : Array Value} {Z : State} (hw : ∀ d ∈ tables_1, d.before a0 Z = true) : Cond.before (Jvm.Cond.publicMethod ({ cls := "java/util/ArrayList", name := "isEmpty", desc := "()Z" } : Jvm.MethodName)) a0 Z = true := hw _ (List.mem_of_getElem? (i := 149) rfl)
theorem wd_150 {a0 : Array Value} {Z : State} (hw : ∀ d ∈ tables_1, d.before a0 Z = true) : Cond.before (Jvm.Cond.unhidden "java/util/ArrayList" "isEmpty" "()Z") a0 Z = true := hw _ (List.mem_of_getElem? (i := 150) rfl)
theorem wd_151 {a0 : Array Value} {Z : State} (hw : ∀ d ∈ tables_1, d.before a0 Z = true) : Cond.before (Jvm.Cond.code ({ cls := "java/util/ArrayList", name := "isEmpty", desc := "()Z" } : Jvm.MethodName) jdk_38_method_9_code (1 : Nat) (Option.some Jvm.ClassFile.FieldType.boolean)) a0 Z = true := hw _ (List.mem_of_getElem? (i := 151) rfl)
theorem wd_152 {a0 : Array Value} {Z : State} (hw : ∀ d ∈ tables_1, d.before a0 Z = true) : Cond.before (Jvm.Cond.methodLink "com/example/rock_dove/rockdove/store/UnitOfWork" (43 : Nat) ({ cls := "java/util/List", name := "addAll", desc := "(Ljava/util/Collection;)Z" } : Jvm.MethodName)) a0 Z = true := hw _ (List.mem_of_getElem? (i := 152) rfl)
theorem pd_9 : parseMethodDescriptor "(Ljava/util/Collection;)Z" = some ⟨[(.object "java/util/Collection")], some .boolean⟩ := by decide +kernel
theorem wd_155 {a0 : Array Value} {Z : State} (hw : ∀ d ∈ tables_1, d.before a0 Z = true) : Cond.before (Jvm.Cond.selects "java/util/ArrayList" ({ cls := "java/util/List", name := "addAll", desc := "(Ljava/util/Collection;)Z" } : Jvm.MethodName) ({ cls := "java/util/ArrayList", name := "addAll", desc := "(Ljava/util/Collection;)Z" } : Jvm.MethodName)) a0 Z = true := hw _ (List.mem_of_getElem? (i := 155) rfl)
theorem wd_153 {a0 : Array Value} {Z : State} (hw : ∀ d ∈ tables_1, d.before a0 Z = true) : Cond.before (Jvm.Cond.declares ({ cls := "java/util/List", name := "addAll", desc := "(Ljava/util/Collection;)Z" } : Jvm.MethodName)) a0 Z = true := hw _ (List.mem_of_getElem? (i := 153) rfl)
theorem wd_154 {a0 : Array Value} {Z : State} (hw : ∀ d ∈ tables_1, d.before a0 Z = true) : Cond.before (Jvm.Cond.interfaceMethod "java/util/List" "java/util/List" "addAll" "(Ljava/util/Collection;)Z") a0 Z = true := hw _ (List.mem_of_getElem? (i := 154) rfl)
theorem wd_156 {a0 : Array Value} {Z : State} (hw : ∀ d ∈ tables_1, d.before a0 Z = true) : Cond.before (Jvm.Cond.instanceMethod ({ cls := "java/util/ArrayList", name := "addAll", desc := "(Ljava/util/Collection;)Z" } : Jvm.MethodName)) a0 Z = true := hw _ (List.mem_of_getElem? (i := 156) rfl)
theorem wd_157 {a0 : Array Value} {Z : State} (hw : ∀ d ∈ tables_1, d.before a0 Z = true) : Cond.before (Jvm.Cond.publicMethod ({ cls := "java/util/ArrayList", name := "addAll", desc := "(Ljava/util/Collection;)Z" } : Jvm.MethodName)) a0 Z = true := hw _ (List.mem_of_getElem? (i := 157) rfl)
theorem wd_158 {a0 : Array Value} {Z : State} (hw : ∀ d ∈ tables_1, d.before a0 Z = true) : Cond.before (Jvm.Cond.unhidden "java/util/ArrayList" "addAll" "(Ljava/util/Collection;)Z") a0 Z = true := hw _ (List.mem_of_getElem? (i := 158) rfl)
theorem wd_159 {a0 : Array Value} {Z : State} (hw : ∀ d ∈ tables_1, d.before a0 Z = true) : Cond.before (Jvm.Cond.code ({ cls := "java/util/ArrayList", name := "addAll", desc := "(Ljava/util/Collection;)Z" } : Jvm.MethodName) jdk_38_method_41_code (6 : Nat) (Option.some Jvm.ClassFile.FieldType.boolean)) a0 Z = true := hw _ (List.mem_of_getElem? (i := 159) rfl)
theorem wd_192 {a0 : Array Value} {Z : State} (hw : ∀ d ∈ tables_1, d.before a0 Z = true) : Cond.before (Jvm.Cond.methodLink "com/example/rock_dove/rockdove/store/UnitOfWork" (47 : Nat) ({ cls := "com/example/rock_dove/rockdove/store/UnitOfWork", name := "end", desc := "()V" } : Jvm.MethodName)) a0 Z = true := hw _ (List.mem_of_getElem? (i := 192) rfl)
theorem wd_122 {a0 : Array Value} {Z : State} (hw : ∀ d ∈ tables_1, d.before a0 Z = true) : Cond.before (Jvm.Cond.selects "com/example/rock_dove/rockdove/store/UnitOfWork" ({ cls := "com/example/rock_dove/rockdove/store/UnitOfWork", name := "end", desc := "()V" } : Jvm.MethodName) ({ cls := "com/example/rock_dove/rockdove/store/UnitOfWork", name := "end", desc := "()V" } : Jvm.MethodName)) a0 Z = true := hw _ (List.mem_of_getElem? (i := 122) rfl)
theorem wd_120 {a0 : Array Value} {Z : State} (hw : ∀ d ∈ tables_1, d.before a0 Z = true) : Cond.before (Jvm.Cond.declares ({ cls := "com/example/rock_dove/rockdove/store/UnitOfWork", name := "end", desc := "()V" } : Jvm.MethodName)) a0 Z = true := hw _ (List.mem_of_getElem? (i := 120) rfl)
theorem wd_121 {a0 : Array Value} {Z : State} (hw : ∀ d ∈ tables_1, d.before a0 Z = true) : Cond.before (Jvm.Cond.instanceMethod ({ cls := "com/example/rock_dove/rockdove/store/UnitOfWork", name := "end", desc := "()V" } : Jvm.MethodName)) a0 Z = true := hw _ (List.mem_of_getElem? (i := 121) rfl)
theorem wd_2 {a0 : Array Value} {Z : State} (hw : ∀ d ∈ tables_1, d.before a0 Z = true) : Cond.before (Jvm.Cond.initialized "com/example/rock_dove/rockdove/store/UnitOfWork") a0 Z = true := hw _ (List.mem_of_getElem? (i := 2) rfl)
theorem wd_123 {a0 : Array Value} {Z : State} (hw : ∀ d ∈ tables_1, d.before a0 Z = true) : Cond.before (Jvm.Cond.code ({ cls := "com/example/rock_dove/rockdove/store/UnitOfWork", name := "end", desc := "()V" } : Jvm.MethodName) prog_78_method_12_code (1 : Nat) (Option.none : Option Jvm.ClassFile.FieldType)) a0 Z = true := hw _ (List.mem_of_getElem? (i := 123) rfl)
theorem d_rmAb0_0 : decode prog_78_method_6_code 0 = .ok (.aload_n 1, 1) := by decide +kernel
theorem d_rmAb0_1 : decode prog_78_method_6_code 1 = .ok (.getfield 10, 3) := by decide +kernel
theorem d_rmAb0_4 : decode prog_78_method_6_code 4 = .ok (.invokeinterface 25 1, 5) := by decide +kernel
theorem d_rmAb0_9 : decode prog_78_method_6_code 9 = .ok (.ifCond .ne 13, 3) := by decide +kernel
theorem d_rmAb0_22 : decode prog_78_method_6_code 22 = .ok (.aload_n 0, 1) := by decide +kernel
theorem d_rmAb0_23 : decode prog_78_method_6_code 23 = .ok (.getfield 16, 3) := by decide +kernel
theorem d_rmAb0_26 : decode prog_78_method_6_code 26 = .ok (.aload_n 1, 1) := by decide +kernel
theorem d_rmAb0_27 : decode prog_78_method_6_code 27 = .ok (.getfield 16, 3) := by decide +kernel
theorem d_rmAb0_30 : decode prog_78_method_6_code 30 = .ok (.invokeinterface 43 2, 5) := by decide +kernel
theorem d_rmAb0_35 : decode prog_78_method_6_code 35 = .ok (.pop, 1) := by decide +kernel
theorem d_rmAb0_36 : decode prog_78_method_6_code 36 = .ok (.aload_n 0, 1) := by decide +kernel
theorem d_rmAb0_37 : decode prog_78_method_6_code 37 = .ok (.dup, 1) := by decide +kernel
theorem d_rmAb0_38 : decode prog_78_method_6_code 38 = .ok (.getfield 33, 3) := by decide +kernel
theorem d_rmAb0_41 : decode prog_78_method_6_code 41 = .ok (.aload_n 1, 1) := by decide +kernel
theorem d_rmAb0_42 : decode prog_78_method_6_code 42 = .ok (.getfield 33, 3) := by decide +kernel
theorem d_rmAb0_45 : decode prog_78_method_6_code 45 = .ok (.iadd, 1) := by decide +kernel
theorem d_rmAb0_46 : decode prog_78_method_6_code 46 = .ok (.putfield 33, 3) := by decide +kernel
theorem d_rmAb0_49 : decode prog_78_method_6_code 49 = .ok (.aload_n 1, 1) := by decide +kernel
theorem d_rmAb0_50 : decode prog_78_method_6_code 50 = .ok (.invokevirtual 47, 3) := by decide +kernel
theorem d_rmAb0_53 : decode prog_78_method_6_code 53 = .ok (.return_, 1) := by decide +kernel
set_option maxRecDepth 65536 in
set_option maxHeartbeats 40000000 in
theorem rmAb0 (l : Launch) (Z : State) (a0 : Array Value) (hw : ∀ d ∈ tables_1, d.before a0 Z = true) (ws : List Jvm.Cond) (u L1 L2 o M1 M2 ms dc mir ea1 ea2 ar : Addr) (k : Nat) (pp pr mc : Int32) (iD : Int64) (h0 : Heap) (n0 : Nat) (Z0 : n0 ≤ h0.size) (EU : Exa Z h0 u "com/example/rock_dove/rockdove/store/UnitOfWork") (gU : n0 ≤ u) (U_puts : Fld Z h0 u "com/example/rock_dove/rockdove/store/UnitOfWork" "puts" "Ljava/util/List;" (.ref L1)) (U_removals : Fld Z h0 u "com/example/rock_dove/rockdove/store/UnitOfWork" "removals" "Ljava/util/List;" (.ref L2)) (U_persistentPuts : Fld Z h0 u "com/example/rock_dove/rockdove/store/UnitOfWork" "persistentPuts" "I" (.int pp)) (U_persistentRemovals : Fld Z h0 u "com/example/rock_dove/rockdove/store/UnitOfWork" "persistentRemovals" "I" (.int pr)) (U_id : Fld Z h0 u "com/example/rock_dove/rockdove/store/UnitOfWork" "id" "J" (.long iD)) (HL1 : own_L Z n0 dc h0 L1 k ea1) (HL2 : own_L Z n0 dc h0 L2 k ea2) (ne12 : L1 ≠ L2) (EO : Exa Z h0 o "com/example/rock_dove/rockdove/store/UnitOfWork") (gO : n0 ≤ o) (O_puts : Fld Z h0 o "com/example/rock_dove/rockdove/store/UnitOfWork" "puts" "Ljava/util/List;" (.ref M1)) (O_removals : Fld Z h0 o "com/example/rock_dove/rockdove/store/UnitOfWork" "removals" "Ljava/util/List;" (.ref M2)) (O_persistentPuts : Fld Z h0 o "com/example/rock_dove/rockdove/store/UnitOfWork" "persistentPuts" "I" (.int (0 : Int32))) (O_persistentRemovals : Fld Z h0 o "com/example/rock_dove/rockdove/store/UnitOfWork" "persistentRemovals" "I" (.int (0 : Int32))) (O_id : Fld Z h0 o "com/example/rock_dove/rockdove/store/UnitOfWork" "id" "J" (.long (0 : Int64))) (HF1 : own_F Z n0 dc h0 M1) (E_M2 : Exa Z h0 M2 "java/util/ArrayList") (g_M2 : n0 ≤ M2) (M_mod : Fld Z h0 M2 "java/util/AbstractList" "modCount" "I" (.int mc)) (M_sz : Fld Z h0 M2 "java/util/ArrayList" "size" "I" (.int (1 : Int32))) (M_ed : Fld Z h0 M2 "java/util/ArrayList" "elementData" "[Ljava/lang/Object;" (.ref ar)) (gar : n0 ≤ ar) (uo : u ≠ o) (n11 : L1 ≠ M1) (n12 : L1 ≠ M2) (n21 : L2 ≠ M1) (n22 : L2 ≠ M2) (m12 : M1 ≠ M2) (hk : k ≤ 2) (Bar : own_B Z h0 ar 10 ms) (Mi : own_Mi Z mir) (Em : Exa Z h0 ms "com/example/rock_dove/rockdove/store/StoredMessage") (Fs : Sta Z h0 "java/util/ArrayList" "DEFAULTCAPACITY_EMPTY_ELEMENTDATA" "[Ljava/lang/Object;" (.ref dc)) (A0 : own_A Z h0 dc 0) :
    own_Met l Z (⟨"com/example/rock_dove/rockdove/store/UnitOfWork", "absorb", "(Lcom/example/rock_dove/rockdove/store/UnitOfWork;)V"⟩ : MethodName) ws prog_78_method_6_code 2 none ({ frames := 5, cells := 2, slots := 11, locals := 75 } : Room) #[(.ref u), (.ref o)] h0 (fun v h L => v = none ∧ Fr n0 L ∧ n0 ≤ h.size ∧ own_U Z n0 dc h u L1 L2 (k + 1) pp (pr + (0 : Int32)) ∧ Fld Z h o "com/example/rock_dove/rockdove/store/UnitOfWork" "persistentPuts" "I" (.int (0 : Int32)) ∧ Fld Z h o "com/example/rock_dove/rockdove/store/UnitOfWork" "persistentRemovals" "I" (.int (0 : Int32)) ∧ Exa Z h o "com/example/rock_dove/rockdove/store/UnitOfWork" ∧ Sta Z h "java/util/ArrayList" "DEFAULTCAPACITY_EMPTY_ELEMENTDATA" "[Ljava/lang/Object;" (.ref dc) ∧ own_A Z h dc 0) := by
  refine own_body (y := (⟨"com/example/rock_dove/rockdove/store/UnitOfWork", "absorb", "(Lcom/example/rock_dove/rockdove/store/UnitOfWork;)V"⟩ : MethodName)) (plainFor_of_name pn_4) ?_
  intro p e s m below meth c s₁ hx hby hml hown hnm hret hlk hZ X0 e0
  have hml : c.maxLocals = 2 := hml
  have hown : s.vm.findClass "com/example/rock_dove/rockdove/store/UnitOfWork" = some m.cls := hown
  have N0 := Fr.nil n0
  refine own_entry (ef_rmAb0 m u o) ?_
  show own_Dn p e below s (fun v h L => v = none ∧ Fr n0 L ∧ n0 ≤ h.size ∧ own_U Z n0 dc h u L1 L2 (k + 1) pp (pr + (0 : Int32)) ∧ Fld Z h o "com/example/rock_dove/rockdove/store/UnitOfWork" "persistentPuts" "I" (.int (0 : Int32)) ∧ Fld Z h o "com/example/rock_dove/rockdove/store/UnitOfWork" "persistentRemovals" "I" (.int (0 : Int32)) ∧ Exa Z h o "com/example/rock_dove/rockdove/store/UnitOfWork" ∧ Sta Z h "java/util/ArrayList" "DEFAULTCAPACITY_EMPTY_ELEMENTDATA" "[Ljava/lang/Object;" (.ref dc) ∧ own_A Z h dc 0) ({ frames := 5, cells := 2, slots := 11, locals := 75 } : Room).cells ({ frames := 5, cells := 2, slots := 11, locals := 75 } : Room).slots (s₁.setTop (mkF m 0 #[.val (.ref u), .val (.ref o)] []))
  obtain ⟨j1, Q1⟩ := HL1.arr A0
  obtain ⟨j2, Q2⟩ := HL2.arr A0
  have HFc := HF1
  obtain ⟨E_M1, g_M1, mcF, F1_mod, F1_sz, F1_ed⟩ := HFc
  have HM1 : own_L Z n0 dc h0 M1 1 dc := HF1.toL
  have HM2 : own_L Z n0 dc h0 M2 1 ar := ⟨E_M2, g_M2, mc, (1 : Int32), (by decide), (by decide), M_mod, M_sz, M_ed, Or.inr ⟨gar, Bar.toA⟩⟩
  refine own_st (q' := s₁.setTop (mkF m 1 #[.val (.ref u), .val (.ref o)] [(.ref o)])) (fun _ k => XS.aloadN X0.here hx rfl (hb hby d_rmAb0_0) rfl rfl k) ?_
  obtain ⟨T101, X101, e101, st101⟩ := getF X0 hx hZ hown (host := "") (Or.inl (wd_33 hw)) Via.refl e0 O_puts (g := (mkF m 1 #[.val (.ref u), .val (.ref o)] [(.ref o)])) rfl rfl (hb hby d_rmAb0_1)
  refine own_st (q' := T101.setTop (mkF m 4 #[.val (.ref u), .val (.ref o)] [(.ref M1)])) st101 ?_
  refine own_callF (xi := (⟨"java/util/List", "isEmpty", "()Z"⟩ : MethodName)) (y := (⟨"java/util/ArrayList", "isEmpty", "()Z"⟩ : MethodName)) X101 hx hZ hown (wd_144 hw) (wd_145 hw) (wd_146 hw) (wd_147 hw) (wd_148 hw) (wd_149 hw) (wd_150 hw) (wd_86 hw) (wd_11 hw) (wd_151 hw) (by decide) (rmIE l Z a0 hw [] M1 h0 n0 Z0 F1_sz) e101 E_M1 (W := 0) (by decide) (by decide) (by decide) (by decide) (g := (mkF m 4 #[.val (.ref u), .val (.ref o)] [(.ref M1)])) rfl (by rw [hml]; rfl) (argsL := []) (rest := []) rfl (lenOf pd_8 rfl) rfl (by show 2 * 0 + _ ≤ _; exact Nat.le_of_eq rfl) (hb hby d_rmAb0_4) ?_
  intro v102 T102 L102 hQ102 X102
  obtain ⟨rfl, NN102, e102⟩ := hQ102
  have N102 := Fr.app N0 NN102
  show own_Dn p e below s (fun v h L => v = none ∧ Fr n0 L ∧ n0 ≤ h.size ∧ own_U Z n0 dc h u L1 L2 (k + 1) pp (pr + (0 : Int32)) ∧ Fld Z h o "com/example/rock_dove/rockdove/store/UnitOfWork" "persistentPuts" "I" (.int (0 : Int32)) ∧ Fld Z h o "com/example/rock_dove/rockdove/store/UnitOfWork" "persistentRemovals" "I" (.int (0 : Int32)) ∧ Exa Z h o "com/example/rock_dove/rockdove/store/UnitOfWork" ∧ Sta Z h "java/util/ArrayList" "DEFAULTCAPACITY_EMPTY_ELEMENTDATA" "[Ljava/lang/Object;" (.ref dc) ∧ own_A Z h dc 0) ({ frames := 5, cells := 2, slots := 11, locals := 75 } : Room).cells ({ frames := 5, cells := 2, slots := 11, locals := 75 } : Room).slots (T102.setTop (mkF m 9 #[.val (.ref u), .val (.ref o)] [(.int (1 : Int32))]))
  refine own_st (q' := T102.setTop (mkF m 23 #[.val (.ref u), .val (.ref o)] [(.ref u)])) (fun _ k => XS.ifYes X102.here hx rfl (pc0 := 9) (pc' := 22) rfl (hb hby d_rmAb0_9) rfl ((if0 _ _).trans (feq ((by decide : ¬ ((1 : Int32) = (0 : Int32))) : ¬ ((1 : Int32) = (0 : Int32)))).2) (by decide) (by decide) (XS.aloadN X102.here hx rfl (hb hby d_rmAb0_22) rfl rfl k)) ?_
  obtain ⟨T103, X103, e103, st103⟩ := getF X102 hx hZ hown (host := "") (Or.inl (wd_35 hw)) Via.refl e102 U_removals (g := (mkF m 23 #[.val (.ref u), .val (.ref o)] [(.ref u)])) rfl rfl (hb hby d_rmAb0_23)
  refine own_st (q' := T103.setTop (mkF m 26 #[.val (.ref u), .val (.ref o)] [(.ref L2)])) st103 ?_
  refine own_st (q' := T103.setTop (mkF m 27 #[.val (.ref u), .val (.ref o)] [(.ref o), (.ref L2)])) (fun _ k => XS.aloadN X103.here hx rfl (hb hby d_rmAb0_26) rfl rfl k) ?_
  obtain ⟨T104, X104, e104, st104⟩ := getF X103 hx hZ hown (host := "") (Or.inl (wd_35 hw)) Via.refl e103 O_removals (g := (mkF m 27 #[.val (.ref u), .val (.ref o)] [(.ref o), (.ref L2)])) rfl rfl (hb hby d_rmAb0_27)
  refine own_st (q' := T104.setTop (mkF m 30 #[.val (.ref u), .val (.ref o)] [(.ref M2), (.ref L2)])) st104 ?_
  refine own_callF (xi := (⟨"java/util/List", "addAll", "(Ljava/util/Collection;)Z"⟩ : MethodName)) (y := (⟨"java/util/ArrayList", "addAll", "(Ljava/util/Collection;)Z"⟩ : MethodName)) X104 hx hZ hown (wd_152 hw) (wd_153 hw) (wd_154 hw) (wd_155 hw) (wd_156 hw) (wd_157 hw) (wd_158 hw) (wd_86 hw) (wd_11 hw) (wd_159 hw) (by decide) (rmAA l Z a0 hw [] L2 M2 ea2 ar ms mir dc k h0 n0 Z0 HL2 hk E_M2 M_sz M_ed Bar Mi Em Fs A0) e104 HL2.1 (W := 0) (by decide) (by decide) (by decide) (by decide) (g := (mkF m 30 #[.val (.ref u), .val (.ref o)] [(.ref M2), (.ref L2)])) rfl (by rw [hml]; rfl) (argsL := [(.ref M2)]) (rest := []) rfl (lenOf pd_9 rfl) rfl (by show 2 * 0 + _ ≤ _; exact Nat.le_of_eq rfl) (hb hby d_rmAb0_30) ?_
  intro v105 T105 L105 hQ105 X105
  obtain ⟨r105, rfl, NN105, KK105, q105_0, q105_1, q105_2⟩ := hQ105
  have N105 := Fr.app N102 NN105
  show own_Dn p e below s (fun v h L => v = none ∧ Fr n0 L ∧ n0 ≤ h.size ∧ own_U Z n0 dc h u L1 L2 (k + 1) pp (pr + (0 : Int32)) ∧ Fld Z h o "com/example/rock_dove/rockdove/store/UnitOfWork" "persistentPuts" "I" (.int (0 : Int32)) ∧ Fld Z h o "com/example/rock_dove/rockdove/store/UnitOfWork" "persistentRemovals" "I" (.int (0 : Int32)) ∧ Exa Z h o "com/example/rock_dove/rockdove/store/UnitOfWork" ∧ Sta Z h "java/util/ArrayList" "DEFAULTCAPACITY_EMPTY_ELEMENTDATA" "[Ljava/lang/Object;" (.ref dc) ∧ own_A Z h dc 0) ({ frames := 5, cells := 2, slots := 11, locals := 75 } : Room).cells ({ frames := 5, cells := 2, slots := 11, locals := 75 } : Room).slots (T105.setTop (mkF m 35 #[.val (.ref u), .val (.ref o)] [(.int (1 : Int32))]))
  refine own_st (q' := T105.setTop (mkF m 38 #[.val (.ref u), .val (.ref o)] [(.ref u), (.ref u)])) (fun _ k => XS.pop X105.here hx rfl (hb hby d_rmAb0_35) rfl rfl (XS.aloadN X105.here hx rfl (hb hby d_rmAb0_36) rfl rfl (XS.dup X105.here hx rfl (hb hby d_rmAb0_37) rfl rfl k))) ?_
  have f106 := (U_persistentRemovals.keep KK105 (ninS (ne_exa EU HL2.1 (by decide)) (ninS (Q2.ne EU (wd_1 hw)) nin0)))
  obtain ⟨T107, X107, e107, st107⟩ := getF X105 hx hZ hown (host := "") (Or.inl (wd_44 hw)) Via.refl (rfl : T105.heap = T105.heap) f106 (g := (mkF m 38 #[.val (.ref u), .val (.ref o)] [(.ref u), (.ref u)])) rfl rfl (hb hby d_rmAb0_38)
  refine own_st (q' := T107.setTop (mkF m 41 #[.val (.ref u), .val (.ref o)] [(.int pr), (.ref u)])) st107 ?_
  refine own_st (q' := T107.setTop (mkF m 42 #[.val (.ref u), .val (.ref o)] [(.ref o), (.int pr), (.ref u)])) (fun _ k => XS.aloadN X107.here hx rfl (hb hby d_rmAb0_41) rfl rfl k) ?_
  have f108 := (O_persistentRemovals.keep KK105 (ninS (ne_exa EO HL2.1 (by decide)) (ninS (Q2.ne EO (wd_1 hw)) nin0)))
  obtain ⟨T109, X109, e109, st109⟩ := getF X107 hx hZ hown (host := "") (Or.inl (wd_44 hw)) Via.refl e107 f108 (g := (mkF m 42 #[.val (.ref u), .val (.ref o)] [(.ref o), (.int pr), (.ref u)])) rfl rfl (hb hby d_rmAb0_42)
  refine own_st (q' := T109.setTop (mkF m 45 #[.val (.ref u), .val (.ref o)] [(.int (0 : Int32)), (.int pr), (.ref u)])) st109 ?_
  refine own_st (q' := T109.setTop (mkF m 46 #[.val (.ref u), .val (.ref o)] [(.int (pr + (0 : Int32))), (.ref u)])) (fun _ k => XS.iadd X109.here hx rfl (hb hby d_rmAb0_45) rfl k) ?_
  have f110 := (EU.keep KK105)
  obtain ⟨T111, h111, X111, e111, W111, st111⟩ := putF X109 hx hZ hown (host := "") (Or.inl (wd_44 hw)) Via.refl e109 f106 f110 (Or.inl (wd_45 hw)) (wd_1 hw) (ty := .int) (by decide) rfl rfl (g := (mkF m 46 #[.val (.ref u), .val (.ref o)] [(.int (pr + (0 : Int32))), (.ref u)])) rfl rfl (hb hby d_rmAb0_46)
  have N111 := Fr.snoc X111 N105 gU
  have F111 := f106.same W111
  refine own_st (q' := T111.setTop (mkF m 49 #[.val (.ref u), .val (.ref o)] [])) st111 ?_
  refine own_st (q' := T111.setTop (mkF m 50 #[.val (.ref u), .val (.ref o)] [(.ref o)])) (fun _ k => XS.aloadN X111.here hx rfl (hb hby d_rmAb0_49) rfl rfl k) ?_
  have f112 := ((EO.keep KK105).wr W111)
  have f113 := ((O_puts.keep KK105 (ninS (ne_exa EO HL2.1 (by decide)) (ninS (Q2.ne EO (wd_1 hw)) nin0))).other W111 (Or.inl (Ne.symm uo)))
  have f114 := ((O_removals.keep KK105 (ninS (ne_exa EO HL2.1 (by decide)) (ninS (Q2.ne EO (wd_1 hw)) nin0))).other W111 (Or.inl (Ne.symm uo)))
  have f115 := ((O_persistentPuts.keep KK105 (ninS (ne_exa EO HL2.1 (by decide)) (ninS (Q2.ne EO (wd_1 hw)) nin0))).other W111 (Or.inl (Ne.symm uo)))
  have f116 := (f108.other W111 (Or.inl (Ne.symm uo)))
  have f117 := ((O_id.keep KK105 (ninS (ne_exa EO HL2.1 (by decide)) (ninS (Q2.ne EO (wd_1 hw)) nin0))).other W111 (Or.inl (Ne.symm uo)))
  have f118 := ((HM1.keep KK105 (ninS (Ne.symm n21) (ninS (Q2.ne E_M1 (wd_10 hw)) nin0))).other W111 (Ne.symm (ne_exa EU E_M1 (by decide))))
  have f119 := ((HM2.keep KK105 (ninS (Ne.symm n22) (ninS (Q2.ne E_M2 (wd_10 hw)) nin0))).other W111 (Ne.symm (ne_exa EU E_M2 (by decide))))
  have f120 := (q105_1.wr W111)
  have f121 := (q105_2.wr W111)
  refine own_callV (y := (⟨"com/example/rock_dove/rockdove/store/UnitOfWork", "end", "()V"⟩ : MethodName)) X111 hx hZ hown (wd_192 hw) (wd_120 hw) (wd_122 hw) (wd_121 hw) (wd_2 hw) (wd_123 hw) (by decide) (rmEnd l Z a0 hw [] o M1 M2 dc dc ar 1 (0 : Int32) (0 : Int32) (0 : Int64) h111 n0 (Nat.le_trans (Nat.le_trans Z0 KK105.1) (Keep.of_wr W111).1) f112 gO f113 f114 f115 f116 f117 f118 f119 m12 (by decide) f120 f121) e111 f112 (W := 0) (by decide) (by decide) (by decide) (by decide) (g := (mkF m 50 #[.val (.ref u), .val (.ref o)] [(.ref o)])) rfl (by rw [hml]; rfl) (argsL := []) (rest := []) rfl (lenOf pd_0 rfl) rfl (by show 2 * 0 + _ ≤ _; exact Nat.le_of_eq rfl) (hb hby d_rmAb0_50) ?_
  intro v122 T122 L122 hQ122 X122
  obtain ⟨rfl, NN122, KK122, q122_0, q122_1, q122_2, q122_3, q122_4, q122_5, q122_6, q122_7, q122_8, q122_9⟩ := hQ122
  have N122 := Fr.app N111 NN122
  show own_Dn p e below s (fun v h L => v = none ∧ Fr n0 L ∧ n0 ≤ h.size ∧ own_U Z n0 dc h u L1 L2 (k + 1) pp (pr + (0 : Int32)) ∧ Fld Z h o "com/example/rock_dove/rockdove/store/UnitOfWork" "persistentPuts" "I" (.int (0 : Int32)) ∧ Fld Z h o "com/example/rock_dove/rockdove/store/UnitOfWork" "persistentRemovals" "I" (.int (0 : Int32)) ∧ Exa Z h o "com/example/rock_dove/rockdove/store/UnitOfWork" ∧ Sta Z h "java/util/ArrayList" "DEFAULTCAPACITY_EMPTY_ELEMENTDATA" "[Ljava/lang/Object;" (.ref dc) ∧ own_A Z h dc 0) ({ frames := 5, cells := 2, slots := 11, locals := 75 } : Room).cells ({ frames := 5, cells := 2, slots := 11, locals := 75 } : Room).slots (T122.setTop (mkF m 53 #[.val (.ref u), .val (.ref o)] []))
  have f123 := ((f110.wr W111).keep KK122)
  have f124 := (((U_puts.keep KK105 (ninS (ne_exa EU HL2.1 (by decide)) (ninS (Q2.ne EU (wd_1 hw)) nin0))).other W111 (Or.inr (sn_36 hw))).keep KK122 (ninS uo (ninS (ne_exa EU E_M1 (by decide)) (ninS (A0.ne EU (wd_1 hw)) (ninS (ne_exa EU E_M2 (by decide)) (ninS (Bar.toA.ne EU (wd_1 hw)) nin0))))))
  have f125 := (((U_removals.keep KK105 (ninS (ne_exa EU HL2.1 (by decide)) (ninS (Q2.ne EU (wd_1 hw)) nin0))).other W111 (Or.inr (sn_37 hw))).keep KK122 (ninS uo (ninS (ne_exa EU E_M1 (by decide)) (ninS (A0.ne EU (wd_1 hw)) (ninS (ne_exa EU E_M2 (by decide)) (ninS (Bar.toA.ne EU (wd_1 hw)) nin0))))))
  have f126 := (((U_persistentPuts.keep KK105 (ninS (ne_exa EU HL2.1 (by decide)) (ninS (Q2.ne EU (wd_1 hw)) nin0))).other W111 (Or.inr (sn_38 hw))).keep KK122 (ninS uo (ninS (ne_exa EU E_M1 (by decide)) (ninS (A0.ne EU (wd_1 hw)) (ninS (ne_exa EU E_M2 (by decide)) (ninS (Bar.toA.ne EU (wd_1 hw)) nin0))))))
  have f127 := (F111.keep KK122 (ninS uo (ninS (ne_exa EU E_M1 (by decide)) (ninS (A0.ne EU (wd_1 hw)) (ninS (ne_exa EU E_M2 (by decide)) (ninS (Bar.toA.ne EU (wd_1 hw)) nin0))))))
  have f128 := (((U_id.keep KK105 (ninS (ne_exa EU HL2.1 (by decide)) (ninS (Q2.ne EU (wd_1 hw)) nin0))).other W111 (Or.inr (sn_39 hw))).keep KK122 (ninS uo (ninS (ne_exa EU E_M1 (by decide)) (ninS (A0.ne EU (wd_1 hw)) (ninS (ne_exa EU E_M2 (by decide)) (ninS (Bar.toA.ne EU (wd_1 hw)) nin0))))))
  have f129 := (((HL1.keep KK105 (ninS ne12 (ninS (Q2.ne HL1.1 (wd_10 hw)) nin0))).other W111 (Ne.symm (ne_exa EU HL1.1 (by decide)))).keep KK122 (ninS (Ne.symm (ne_exa EO HL1.1 (by decide))) (ninS n11 (ninS (A0.ne HL1.1 (wd_10 hw)) (ninS n12 (ninS (Bar.toA.ne HL1.1 (wd_10 hw)) nin0))))))
  have f130 := ((q105_0.other W111 (Ne.symm (ne_exa EU HL2.1 (by decide)))).keep KK122 (ninS (Ne.symm (ne_exa EO HL2.1 (by decide))) (ninS n21 (ninS (A0.ne HL2.1 (wd_10 hw)) (ninS n22 (ninS (Bar.toA.ne HL2.1 (wd_10 hw)) nin0))))))
  exact own_retV X122 hx hlk hret (hb hby d_rmAb0_53) (rfl : T122.heap = T122.heap) (by exact ⟨rfl, N122, (Nat.le_trans (Nat.le_trans (Nat.le_trans Z0 KK105.1) (Keep.of_wr W111).1) KK122.1), (⟨f123, gU, f124, f125, f126, f127, ⟨_, f128⟩, ⟨_, f129.mono (by omega)⟩, ⟨_, f130⟩⟩), q122_3, q122_4, q122_0, q122_8, q122_9⟩) (by decide) (by decide)
theorem ef_rmAb1 (m : MethodId) (x0 : Addr) (x1 : Addr) : entryFrame m #[(.ref x0), (.ref x1)] 2 = mkF m 0 #[.val (.ref x0), .val (.ref x1)] [] := by first | (simp [entryFrame, mkF, argsToLocals, Value.category]; done) | rfl
theorem d_rmAb1_0 : decode prog_78_method_6_code 0 = .ok (.aload_n 1, 1) := by decide +kernel
theorem d_rmAb1_1 : decode prog_78_method_6_code 1 = .ok (.getfield 10, 3) := by decide +kernel
theorem d_rmAb1_4 : decode prog_78_method_6_code 4 = .ok (.invokeinterface 25 1, 5) := by decide +kernel
theorem d_rmAb1_9 : decode prog_78_method_6_code 9 = .ok (.ifCond .ne 13, 3) := by decide +kernel
theorem d_rmAb1_22 : decode prog_78_method_6_code 22 = .ok (.aload_n 0, 1) := by decide +kernel
theorem d_rmAb1_23 : decode prog_78_method_6_code 23 = .ok (.getfield 16, 3) := by decide +kernel
theorem d_rmAb1_26 : decode prog_78_method_6_code 26 = .ok (.aload_n 1, 1) := by decide +kernel
theorem d_rmAb1_27 : decode prog_78_method_6_code 27 = .ok (.getfield 16, 3) := by decide +kernel
theorem d_rmAb1_30 : decode prog_78_method_6_code 30 = .ok (.invokeinterface 43 2, 5) := by decide +kernel
theorem d_rmAb1_35 : decode prog_78_method_6_code 35 = .ok (.pop, 1) := by decide +kernel
theorem d_rmAb1_36 : decode prog_78_method_6_code 36 = .ok (.aload_n 0, 1) := by decide +kernel
theorem d_rmAb1_37 : decode prog_78_method_6_code 37 = .ok (.dup, 1) := by decide +kernel
theorem d_rmAb1_38 : decode prog_78_method_6_code 38 = .ok (.getfield 33, 3) := by decide +kernel
theorem d_rmAb1_41 : decode prog_78_method_6_code 41 = .ok (.aload_n 1, 1) := by decide +kernel
theorem d_rmAb1_42 : decode prog_78_method_6_code 42 = .ok (.getfield 33, 3) := by decide +kernel
theorem d_rmAb1_45 : decode prog_78_method_6_code 45 = .ok (.iadd, 1) := by decide +kernel
theorem d_rmAb1_46 : decode prog_78_method_6_code 46 = .ok (.putfield 33, 3) := by decide +kernel
theorem d_rmAb1_49 : decode prog_78_method_6_code 49 = .ok (.aload_n 1, 1) := by decide +kernel
theorem d_rmAb1_50 : decode prog_78_method_6_code 50 = .ok (.invokevirtual 47, 3) := by decide +kernel
theorem d_rmAb1_53 : decode prog_78_method_6_code 53 = .ok (.return_, 1) := by decide +kernel
set_option maxRecDepth 65536 in
set_option maxHeartbeats 40000000 in
theorem rmAb1 (l : Launch) (Z : State) (a0 : Array Value) (hw : ∀ d ∈ tables_1, d.before a0 Z = true) (ws : List Jvm.Cond) (u L1 L2 o M1 M2 ms dc mir ea1 ea2 ar : Addr) (k : Nat) (pp pr mc : Int32) (iD : Int64) (h0 : Heap) (n0 : Nat) (Z0 : n0 ≤ h0.size) (EU : Exa Z h0 u "com/example/rock_dove/rockdove/store/UnitOfWork") (gU : n0 ≤ u) (U_puts : Fld Z h0 u "com/example/rock_dove/rockdove/store/UnitOfWork" "puts" "Ljava/util/List;" (.ref L1)) (U_removals : Fld Z h0 u "com/example/rock_dove/rockdove/store/UnitOfWork" "removals" "Ljava/util/List;" (.ref L2)) (U_persistentPuts : Fld Z h0 u "com/example/rock_dove/rockdove/store/UnitOfWork" "persistentPuts" "I" (.int pp)) (U_persistentRemovals : Fld Z h0 u "com/example/rock_dove/rockdove/store/UnitOfWork" "persistentRemovals" "I" (.int pr)) (U_id : Fld Z h0 u "com/example/rock_dove/rockdove/store/UnitOfWork" "id" "J" (.long iD)) (HL1 : own_L Z n0 dc h0 L1 k ea1) (HL2 : own_L Z n0 dc h0 L2 k ea2) (ne12 : L1 ≠ L2) (EO : Exa Z h0 o "com/example/rock_dove/rockdove/store/UnitOfWork") (gO : n0 ≤ o) (O_puts : Fld Z h0 o "com/example/rock_dove/rockdove/store/UnitOfWork" "puts" "Ljava/util/List;" (.ref M1)) (O_removals : Fld Z h0 o "com/example/rock_dove/rockdove/store/UnitOfWork" "removals" "Ljava/util/List;" (.ref M2)) (O_persistentPuts : Fld Z h0 o "com/example/rock_dove/rockdove/store/UnitOfWork" "persistentPuts" "I" (.int (0 : Int32))) (O_persistentRemovals : Fld Z h0 o "com/example/rock_dove/rockdove/store/UnitOfWork" "persistentRemovals" "I" (.int (1 : Int32))) (O_id : Fld Z h0 o "com/example/rock_dove/rockdove/store/UnitOfWork" "id" "J" (.long (0 : Int64))) (HF1 : own_F Z n0 dc h0 M1) (E_M2 : Exa Z h0 M2 "java/util/ArrayList") (g_M2 : n0 ≤ M2) (M_mod : Fld Z h0 M2 "java/util/AbstractList" "modCount" "I" (.int mc)) (M_sz : Fld Z h0 M2 "java/util/ArrayList" "size" "I" (.int (1 : Int32))) (M_ed : Fld Z h0 M2 "java/util/ArrayList" "elementData" "[Ljava/lang/Object;" (.ref ar)) (gar : n0 ≤ ar) (uo : u ≠ o) (n11 : L1 ≠ M1) (n12 : L1 ≠ M2) (n21 : L2 ≠ M1) (n22 : L2 ≠ M2) (m12 : M1 ≠ M2) (hk : k ≤ 2) (Bar : own_B Z h0 ar 10 ms) (Mi : own_Mi Z mir) (Em : Exa Z h0 ms "com/example/rock_dove/rockdove/store/StoredMessage") (Fs : Sta Z h0 "java/util/ArrayList" "DEFAULTCAPACITY_EMPTY_ELEMENTDATA" "[Ljava/lang/Object;" (.ref dc)) (A0 : own_A Z h0 dc 0) :
    own_Met l Z (⟨"com/example/rock_dove/rockdove/store/UnitOfWork", "absorb", "(Lcom/example/rock_dove/rockdove/store/UnitOfWork;)V"⟩ : MethodName) ws prog_78_method_6_code 2 none ({ frames := 5, cells := 2, slots := 11, locals := 75 } : Room) #[(.ref u), (.ref o)] h0 (fun v h L => v = none ∧ Fr n0 L ∧ n0 ≤ h.size ∧ own_U Z n0 dc h u L1 L2 (k + 1) pp (pr + (1 : Int32)) ∧ Fld Z h o "com/example/rock_dove/rockdove/store/UnitOfWork" "persistentPuts" "I" (.int (0 : Int32)) ∧ Fld Z h o "com/example/rock_dove/rockdove/store/UnitOfWork" "persistentRemovals" "I" (.int (0 : Int32)) ∧ Exa Z h o "com/example/rock_dove/rockdove/store/UnitOfWork" ∧ Sta Z h "java/util/ArrayList" "DEFAULTCAPACITY_EMPTY_ELEMENTDATA" "[Ljava/lang/Object;" (.ref dc) ∧ own_A Z h dc 0) := by
  refine own_body (y := (⟨"com/example/rock_dove/rockdove/store/UnitOfWork", "absorb", "(Lcom/example/rock_dove/rockdove/store/UnitOfWork;)V"⟩ : MethodName)) (plainFor_of_name pn_4) ?_
  intro p e s m below meth c s₁ hx hby hml hown hnm hret hlk hZ X0 e0
  have hml : c.maxLocals = 2 := hml
  have hown : s.vm.findClass "com/example/rock_dove/rockdove/store/UnitOfWork" = some m.cls := hown
  have N0 := Fr.nil n0
  refine own_entry (ef_rmAb1 m u o) ?_
  show own_Dn p e below s (fun v h L => v = none ∧ Fr n0 L ∧ n0 ≤ h.size ∧ own_U Z n0 dc h u L1 L2 (k + 1) pp (pr + (1 : Int32)) ∧ Fld Z h o "com/example/rock_dove/rockdove/store/UnitOfWork" "persistentPuts" "I" (.int (0 : Int32)) ∧ Fld Z h o "com/example/rock_dove/rockdove/store/UnitOfWork" "persistentRemovals" "I" (.int (0 : Int32)) ∧ Exa Z h o "com/example/rock_dove/rockdove/store/UnitOfWork" ∧ Sta Z h "java/util/ArrayList" "DEFAULTCAPACITY_EMPTY_ELEMENTDATA" "[Ljava/lang/Object;" (.ref dc) ∧ own_A Z h dc 0) ({ frames := 5, cells := 2, slots := 11, locals := 75 } : Room).cells ({ frames := 5, cells := 2, slots := 11, locals := 75 } : Room).slots (s₁.setTop (mkF m 0 #[.val (.ref u), .val (.ref o)] []))
  obtain ⟨j1, Q1⟩ := HL1.arr A0
  obtain ⟨j2, Q2⟩ := HL2.arr A0
  have HFc := HF1
  obtain ⟨E_M1, g_M1, mcF, F1_mod, F1_sz, F1_ed⟩ := HFc
  have HM1 : own_L Z n0 dc h0 M1 1 dc := HF1.toL
  have HM2 : own_L Z n0 dc h0 M2 1 ar := ⟨E_M2, g_M2, mc, (1 : Int32), (by decide), (by decide), M_mod, M_sz, M_ed, Or.inr ⟨gar, Bar.toA⟩⟩
  refine own_st (q' := s₁.setTop (mkF m 1 #[.val (.ref u), .val (.ref o)] [(.ref o)])) (fun _ k => XS.aloadN X0.here hx rfl (hb hby d_rmAb1_0) rfl rfl k) ?_
  obtain ⟨T101, X101, e101, st101⟩ := getF X0 hx hZ hown (host := "") (Or.inl (wd_33 hw)) Via.refl e0 O_puts (g := (mkF m 1 #[.val (.ref u), .val (.ref o)] [(.ref o)])) rfl rfl (hb hby d_rmAb1_1)
  refine own_st (q' := T101.setTop (mkF m 4 #[.val (.ref u), .val (.ref o)] [(.ref M1)])) st101 ?_
  refine own_callF (xi := (⟨"java/util/List", "isEmpty", "()Z"⟩ : MethodName)) (y := (⟨"java/util/ArrayList", "isEmpty", "()Z"⟩ : MethodName)) X101 hx hZ hown (wd_144 hw) (wd_145 hw) (wd_146 hw) (wd_147 hw) (wd_148 hw) (wd_149 hw) (wd_150 hw) (wd_86 hw) (wd_11 hw) (wd_151 hw) (by decide) (rmIE l Z a0 hw [] M1 h0 n0 Z0 F1_sz) e101 E_M1 (W := 0) (by decide) (by decide) (by decide) (by decide) (g := (mkF m 4 #[.val (.ref u), .val (.ref o)] [(.ref M1)])) rfl (by rw [hml]; rfl) (argsL := []) (rest := []) rfl (lenOf pd_8 rfl) rfl (by show 2 * 0 + _ ≤ _; exact Nat.le_of_eq rfl) (hb hby d_rmAb1_4) ?_
  intro v102 T102 L102 hQ102 X102
  obtain ⟨rfl, NN102, e102⟩ := hQ102
  have N102 := Fr.app N0 NN102
  show own_Dn p e below s (fun v h L => v = none ∧ Fr n0 L ∧ n0 ≤ h.size ∧ own_U Z n0 dc h u L1 L2 (k + 1) pp (pr + (1 : Int32)) ∧ Fld Z h o "com/example/rock_dove/rockdove/store/UnitOfWork" "persistentPuts" "I" (.int (0 : Int32)) ∧ Fld Z h o "com/example/rock_dove/rockdove/store/UnitOfWork" "persistentRemovals" "I" (.int (0 : Int32)) ∧ Exa Z h o "com/example/rock_dove/rockdove/store/UnitOfWork" ∧ Sta Z h "java/util/ArrayList" "DEFAULTCAPACITY_EMPTY_ELEMENTDATA" "[Ljava/lang/Object;" (.ref dc) ∧ own_A Z h dc 0) ({ frames := 5, cells := 2, slots := 11, locals := 75 } : Room).cells ({ frames := 5, cells := 2, slots := 11, locals := 75 } : Room).slots (T102.setTop (mkF m 9 #[.val (.ref u), .val (.ref o)] [(.int (1 : Int32))]))
  refine own_st (q' := T102.setTop (mkF m 23 #[.val (.ref u), .val (.ref o)] [(.ref u)])) (fun _ k => XS.ifYes X102.here hx rfl (pc0 := 9) (pc' := 22) rfl (hb hby d_rmAb1_9) rfl ((if0 _ _).trans (feq ((by decide : ¬ ((1 : Int32) = (0 : Int32))) : ¬ ((1 : Int32) = (0 : Int32)))).2) (by decide) (by decide) (XS.aloadN X102.here hx rfl (hb hby d_rmAb1_22) rfl rfl k)) ?_
  obtain ⟨T103, X103, e103, st103⟩ := getF X102 hx hZ hown (host := "") (Or.inl (wd_35 hw)) Via.refl e102 U_removals (g := (mkF m 23 #[.val (.ref u), .val (.ref o)] [(.ref u)])) rfl rfl (hb hby d_rmAb1_23)
  refine own_st (q' := T103.setTop (mkF m 26 #[.val (.ref u), .val (.ref o)] [(.ref L2)])) st103 ?_
  refine own_st (q' := T103.setTop (mkF m 27 #[.val (.ref u), .val (.ref o)] [(.ref o), (.ref L2)])) (fun _ k => XS.aloadN X103.here hx rfl (hb hby d_rmAb1_26) rfl rfl k) ?_
  obtain ⟨T104, X104, e104, st104⟩ := getF X103 hx hZ hown (host := "") (Or.inl (wd_35 hw)) Via.refl e103 O_removals (g := (mkF m 27 #[.val (.ref u), .val (.ref o)] [(.ref o), (.ref L2)])) rfl rfl (hb hby d_rmAb1_27)
  refine own_st (q' := T104.setTop (mkF m 30 #[.val (.ref u), .val (.ref o)] [(.ref M2), (.ref L2)])) st104 ?_
  refine own_callF (xi := (⟨"java/util/List", "addAll", "(Ljava/util/Collection;)Z"⟩ : MethodName)) (y := (⟨"java/util/ArrayList", "addAll", "(Ljava/util/Collection;)Z"⟩ : MethodName)) X104 hx hZ hown (wd_152 hw) (wd_153 hw) (wd_154 hw) (wd_155 hw) (wd_156 hw) (wd_157 hw) (wd_158 hw) (wd_86 hw) (wd_11 hw) (wd_159 hw) (by decide) (rmAA l Z a0 hw [] L2 M2 ea2 ar ms mir dc k h0 n0 Z0 HL2 hk E_M2 M_sz M_ed Bar Mi Em Fs A0) e104 HL2.1 (W := 0) (by decide) (by decide) (by decide) (by decide) (g := (mkF m 30 #[.val (.ref u), .val (.ref o)] [(.ref M2), (.ref L2)])) rfl (by rw [hml]; rfl) (argsL := [(.ref M2)]) (rest := []) rfl (lenOf pd_9 rfl) rfl (by show 2 * 0 + _ ≤ _; exact Nat.le_of_eq rfl) (hb hby d_rmAb1_30) ?_
  intro v105 T105 L105 hQ105 X105
  obtain ⟨r105, rfl, NN105, KK105, q105_0, q105_1, q105_2⟩ := hQ105
  have N105 := Fr.app N102 NN105
  show own_Dn p e below s (fun v h L => v = none ∧ Fr n0 L ∧ n0 ≤ h.size ∧ own_U Z n0 dc h u L1 L2 (k + 1) pp (pr + (1 : Int32)) ∧ Fld Z h o "com/example/rock_dove/rockdove/store/UnitOfWork" "persistentPuts" "I" (.int (0 : Int32)) ∧ Fld Z h o "com/example/rock_dove/rockdove/store/UnitOfWork" "persistentRemovals" "I" (.int (0 : Int32)) ∧ Exa Z h o "com/example/rock_dove/rockdove/store/UnitOfWork" ∧ Sta Z h "java/util/ArrayList" "DEFAULTCAPACITY_EMPTY_ELEMENTDATA" "[Ljava/lang/Object;" (.ref dc) ∧ own_A Z h dc 0) ({ frames := 5, cells := 2, slots := 11, locals := 75 } : Room).cells ({ frames := 5, cells := 2, slots := 11, locals := 75 } : Room).slots (T105.setTop (mkF m 35 #[.val (.ref u), .val (.ref o)] [(.int (1 : Int32))]))
  refine own_st (q' := T105.setTop (mkF m 38 #[.val (.ref u), .val (.ref o)] [(.ref u), (.ref u)])) (fun _ k => XS.pop X105.here hx rfl (hb hby d_rmAb1_35) rfl rfl (XS.aloadN X105.here hx rfl (hb hby d_rmAb1_36) rfl rfl (XS.dup X105.here hx rfl (hb hby d_rmAb1_37) rfl rfl k))) ?_
  have f106 := (U_persistentRemovals.keep KK105 (ninS (ne_exa EU HL2.1 (by decide)) (ninS (Q2.ne EU (wd_1 hw)) nin0)))
  obtain ⟨T107, X107, e107, st107⟩ := getF X105 hx hZ hown (host := "") (Or.inl (wd_44 hw)) Via.refl (rfl : T105.heap = T105.heap) f106 (g := (mkF m 38 #[.val (.ref u), .val (.ref o)] [(.ref u), (.ref u)])) rfl rfl (hb hby d_rmAb1_38)
  refine own_st (q' := T107.setTop (mkF m 41 #[.val (.ref u), .val (.ref o)] [(.int pr), (.ref u)])) st107 ?_
  refine own_st (q' := T107.setTop (mkF m 42 #[.val (.ref u), .val (.ref o)] [(.ref o), (.int pr), (.ref u)])) (fun _ k => XS.aloadN X107.here hx rfl (hb hby d_rmAb1_41) rfl rfl k) ?_
  have f108 := (O_persistentRemovals.keep KK105 (ninS (ne_exa EO HL2.1 (by decide)) (ninS (Q2.ne EO (wd_1 hw)) nin0)))
  obtain ⟨T109, X109, e109, st109⟩ := getF X107 hx hZ hown (host := "") (Or.inl (wd_44 hw)) Via.refl e107 f108 (g := (mkF m 42 #[.val (.ref u), .val (.ref o)] [(.ref o), (.int pr), (.ref u)])) rfl rfl (hb hby d_rmAb1_42)
  refine own_st (q' := T109.setTop (mkF m 45 #[.val (.ref u), .val (.ref o)] [(.int (1 : Int32)), (.int pr), (.ref u)])) st109 ?_
  refine own_st (q' := T109.setTop (mkF m 46 #[.val (.ref u), .val (.ref o)] [(.int (pr + (1 : Int32))), (.ref u)])) (fun _ k => XS.iadd X109.here hx rfl (hb hby d_rmAb1_45) rfl k) ?_
  have f110 := (EU.keep KK105)
  obtain ⟨T111, h111, X111, e111, W111, st111⟩ := putF X109 hx hZ hown (host := "") (Or.inl (wd_44 hw)) Via.refl e109 f106 f110 (Or.inl (wd_45 hw)) (wd_1 hw) (ty := .int) (by decide) rfl rfl (g := (mkF m 46 #[.val (.ref u), .val (.ref o)] [(.int (pr + (1 : Int32))), (.ref u)])) rfl rfl (hb hby d_rmAb1_46)
  have N111 := Fr.snoc X111 N105 gU
  have F111 := f106.same W111
  refine own_st (q' := T111.setTop (mkF m 49 #[.val (.ref u), .val (.ref o)] [])) st111 ?_
  refine own_st (q' := T111.setTop (mkF m 50 #[.val (.ref u), .val (.ref o)] [(.ref o)])) (fun _ k => XS.aloadN X111.here hx rfl (hb hby d_rmAb1_49) rfl rfl k) ?_
  have f112 := ((EO.keep KK105).wr W111)
  have f113 := ((O_puts.keep KK105 (ninS (ne_exa EO HL2.1 (by decide)) (ninS (Q2.ne EO (wd_1 hw)) nin0))).other W111 (Or.inl (Ne.symm uo)))
  have f114 := ((O_removals.keep KK105 (ninS (ne_exa EO HL2.1 (by decide)) (ninS (Q2.ne EO (wd_1 hw)) nin0))).other W111 (Or.inl (Ne.symm uo)))
  have f115 := ((O_persistentPuts.keep KK105 (ninS (ne_exa EO HL2.1 (by decide)) (ninS (Q2.ne EO (wd_1 hw)) nin0))).other W111 (Or.inl (Ne.symm uo)))
  have f116 := (f108.other W111 (Or.inl (Ne.symm uo)))
  have f117 := ((O_id.keep KK105 (ninS (ne_exa EO HL2.1 (by decide)) (ninS (Q2.ne EO (wd_1 hw)) nin0))).other W111 (Or.inl (Ne.symm uo)))
  have f118 := ((HM1.keep KK105 (ninS (Ne.symm n21) (ninS (Q2.ne E_M1 (wd_10 hw)) nin0))).other W111 (Ne.symm (ne_exa EU E_M1 (by decide))))
  have f119 := ((HM2.keep KK105 (ninS (Ne.symm n22) (ninS (Q2.ne E_M2 (wd_10 hw)) nin0))).other W111 (Ne.symm (ne_exa EU E_M2 (by decide))))
  have f120 := (q105_1.wr W111)
  have f121 := (q105_2.wr W111)
  refine own_callV (y := (⟨"com/example/rock_dove/rockdove/store/UnitOfWork", "end", "()V"⟩ : MethodName)) X111 hx hZ hown (wd_192 hw) (wd_120 hw) (wd_122 hw) (wd_121 hw) (wd_2 hw) (wd_123 hw) (by decide) (rmEnd l Z a0 hw [] o M1 M2 dc dc ar 1 (0 : Int32) (1 : Int32) (0 : Int64) h111 n0 (Nat.le_trans (Nat.le_trans Z0 KK105.1) (Keep.of_wr W111).1) f112 gO f113 f114 f115 f116 f117 f118 f119 m12 (by decide) f120 f121) e111 f112 (W := 0) (by decide) (by decide) (by decide) (by decide) (g := (mkF m 50 #[.val (.ref u), .val (.ref o)] [(.ref o)])) rfl (by rw [hml]; rfl) (argsL := []) (rest := []) rfl (lenOf pd_0 rfl) rfl (by show 2 * 0 + _ ≤ _; exact Nat.le_of_eq rfl) (hb hby d_rmAb1_50) ?_
  intro v122 T122 L122 hQ122 X122
  obtain ⟨rfl, NN122, KK122, q122_0, q122_1, q122_2, q122_3, q122_4, q122_5, q122_6, q122_7, q122_8, q122_9⟩ := hQ122
  have N122 := Fr.app N111 NN122
  show own_Dn p e below s (fun v h L => v = none ∧ Fr n0 L ∧ n0 ≤ h.size ∧ own_U Z n0 dc h u L1 L2 (k + 1) pp (pr + (1 : Int32)) ∧ Fld Z h o "com/example/rock_dove/rockdove/store/UnitOfWork" "persistentPuts" "I" (.int (0 : Int32)) ∧ Fld Z h o "com/example/rock_dove/rockdove/store/UnitOfWork" "persistentRemovals" "I" (.int (0 : Int32)) ∧ Exa Z h o "com/example/rock_dove/rockdove/store/UnitOfWork" ∧ Sta Z h "java/util/ArrayList" "DEFAULTCAPACITY_EMPTY_ELEMENTDATA" "[Ljava/lang/Object;" (.ref dc) ∧ own_A Z h dc 0) ({ frames := 5, cells := 2, slots := 11, locals := 75 } : Room).cells ({ frames := 5, cells := 2, slots := 11, locals := 75 } : Room).slots (T122.setTop (mkF m 53 #[.val (.ref u), .val (.ref o)] []))
  have f123 := ((f110.wr W111).keep KK122)
  have f124 := (((U_puts.keep KK105 (ninS (ne_exa EU HL2.1 (by decide)) (ninS (Q2.ne EU (wd_1 hw)) nin0))).other W111 (Or.inr (sn_36 hw))).keep KK122 (ninS uo (ninS (ne_exa EU E_M1 (by decide)) (ninS (A0.ne EU (wd_1 hw)) (ninS (ne_exa EU E_M2 (by decide)) (ninS (Bar.toA.ne EU (wd_1 hw)) nin0))))))
  have f125 := (((U_removals.keep KK105 (ninS (ne_exa EU HL2.1 (by decide)) (ninS (Q2.ne EU (wd_1 hw)) nin0))).other W111 (Or.inr (sn_37 hw))).keep KK122 (ninS uo (ninS (ne_exa EU E_M1 (by decide)) (ninS (A0.ne EU (wd_1 hw)) (ninS (ne_exa EU E_M2 (by decide)) (ninS (Bar.toA.ne EU (wd_1 hw)) nin0))))))
  have f126 := (((U_persistentPuts.keep KK105 (ninS (ne_exa EU HL2.1 (by decide)) (ninS (Q2.ne EU (wd_1 hw)) nin0))).other W111 (Or.inr (sn_38 hw))).keep KK122 (ninS uo (ninS (ne_exa EU E_M1 (by decide)) (ninS (A0.ne EU (wd_1 hw)) (ninS (ne_exa EU E_M2 (by decide)) (ninS (Bar.toA.ne EU (wd_1 hw)) nin0))))))
  have f127 := (F111.keep KK122 (ninS uo (ninS (ne_exa EU E_M1 (by decide)) (ninS (A0.ne EU (wd_1 hw)) (ninS (ne_exa EU E_M2 (by decide)) (ninS (Bar.toA.ne EU (wd_1 hw)) nin0))))))
  have f128 := (((U_id.keep KK105 (ninS (ne_exa EU HL2.1 (by decide)) (ninS (Q2.ne EU (wd_1 hw)) nin0))).other W111 (Or.inr (sn_39 hw))).keep KK122 (ninS uo (ninS (ne_exa EU E_M1 (by decide)) (ninS (A0.ne EU (wd_1 hw)) (ninS (ne_exa EU E_M2 (by decide)) (ninS (Bar.toA.ne EU (wd_1 hw)) nin0))))))
  have f129 := (((HL1.keep KK105 (ninS ne12 (ninS (Q2.ne HL1.1 (wd_10 hw)) nin0))).other W111 (Ne.symm (ne_exa EU HL1.1 (by decide)))).keep KK122 (ninS (Ne.symm (ne_exa EO HL1.1 (by decide))) (ninS n11 (ninS (A0.ne HL1.1 (wd_10 hw)) (ninS n12 (ninS (Bar.toA.ne HL1.1 (wd_10 hw)) nin0))))))
  have f130 := ((q105_0.other W111 (Ne.symm (ne_exa EU HL2.1 (by decide)))).keep KK122 (ninS (Ne.symm (ne_exa EO HL2.1 (by decide))) (ninS n21 (ninS (A0.ne HL2.1 (wd_10 hw)) (ninS n22 (ninS (Bar.toA.ne HL2.1 (wd_10 hw)) nin0))))))
  exact own_retV X122 hx hlk hret (hb hby d_rmAb1_53) (rfl : T122.heap = T122.heap) (by exact ⟨rfl, N122, (Nat.le_trans (Nat.le_trans (Nat.le_trans Z0 KK105.1) (Keep.of_wr W111).1) KK122.1), (⟨f123, gU, f124, f125, f126, f127, ⟨_, f128⟩, ⟨_, f129.mono (by omega)⟩, ⟨_, f130⟩⟩), q122_3, q122_4, q122_0, q122_8, q122_9⟩) (by decide) (by decide)
theorem own_hpn {x y : Int32} (h : ¬ own_hp x y = 1) : own_hp x y = 0 := own_hp0 (own_hpN h).1 (own_hpN h).2
theorem own_add0 (x : Int32) : x + (0 : Int32) = x := by simp
theorem own_hpA {x y : Int32} {k : Nat} (h0 : 0 ≤ x.toInt) (h1 : x.toInt ≤ (k : Int)) (hk : k ≤ 3) : own_hp (x + (1 : Int32)) y = 1 := by
  have e1 := c_iadd x 1
  have r1 := rng32 (x + 1)
  have l1 : (1 : Int32).toInt = 1 := rfl
  exact own_hp1 (Or.inl (by omega))
theorem own_hpB {x y : Int32} {k : Nat} (h0 : 0 ≤ y.toInt) (h1 : y.toInt ≤ (k : Int)) (hk : k ≤ 3) : own_hp x (y + (1 : Int32)) = 1 := by
  have e1 := c_iadd y 1
  have r1 := rng32 (y + 1)
  have l1 : (1 : Int32).toInt = 1 := rfl
  exact own_hp1 (Or.inr (by omega))
theorem own_up {x : Int32} {k : Nat} (h0 : 0 ≤ x.toInt) (h1 : x.toInt ≤ (k : Int)) : 0 ≤ x.toInt ∧ x.toInt ≤ ((k + 1 : Nat) : Int) := ⟨h0, by omega⟩
theorem own_zu (k : Nat) : 0 ≤ (0 : Int32).toInt ∧ (0 : Int32).toInt ≤ ((k : Nat) : Int) := ⟨by decide, by have : (0 : Int32).toInt = 0 := rfl; omega⟩
theorem own_i0 {x : Int32} {k : Nat} (h0 : 0 ≤ x.toInt) (h1 : x.toInt ≤ (k : Int)) : 0 ≤ (x + (0 : Int32)).toInt ∧ (x + (0 : Int32)).toInt ≤ ((k + 1 : Nat) : Int) := by rw [own_add0]; exact own_up h0 h1
theorem pn_7 : plainName "com/example/rock_dove/rockdove/store/UnitOfWorkHoldsPersistentPinLaw" = true := by first | (simp [plainName, overriddenIn]; done) | decide +kernel
theorem ef_rmT (m : MethodId) (x0 : Addr) (x1 : Int32) (x2 : Int32) : entryFrame m #[(.ref x0), (.int x1), (.int x2)] 8 = mkF m 0 #[.val (.ref x0), .val (.int x1), .val (.int x2), .unset, .unset, .unset, .unset, .unset] [] := by first | (simp [entryFrame, mkF, argsToLocals, Value.category]; done) | rfl
theorem wd_50 {a0 : Array Value} {Z : State} (hw : ∀ d ∈ tables_1, d.before a0 Z = true) : Cond.before (Jvm.Cond.classLink "com/example/rock_dove/rockdove/store/UnitOfWorkHoldsPersistentPinLaw" (20 : Nat) "com/example/rock_dove/rockdove/store/StoredMessage") a0 Z = true := hw _ (List.mem_of_getElem? (i := 50) rfl)
theorem wd_53 {a0 : Array Value} {Z : State} (hw : ∀ d ∈ tables_1, d.before a0 Z = true) : Cond.before (Jvm.Cond.methodLink "com/example/rock_dove/rockdove/store/UnitOfWorkHoldsPersistentPinLaw" (22 : Nat) ({ cls := "com/example/rock_dove/rockdove/store/StoredMessage", name := "<init>", desc := "(JIZJII)V" } : Jvm.MethodName)) a0 Z = true := hw _ (List.mem_of_getElem? (i := 53) rfl)
theorem pd_10 : parseMethodDescriptor "(JIZJII)V" = some ⟨[.long, .int, .boolean, .long, .int, .int], none⟩ := by decide +kernel
theorem wd_54 {a0 : Array Value} {Z : State} (hw : ∀ d ∈ tables_1, d.before a0 Z = true) : Cond.before (Jvm.Cond.instanceMethod ({ cls := "com/example/rock_dove/rockdove/store/StoredMessage", name := "<init>", desc := "(JIZJII)V" } : Jvm.MethodName)) a0 Z = true := hw _ (List.mem_of_getElem? (i := 54) rfl)
theorem wd_55 {a0 : Array Value} {Z : State} (hw : ∀ d ∈ tables_1, d.before a0 Z = true) : Cond.before (Jvm.Cond.code ({ cls := "com/example/rock_dove/rockdove/store/StoredMessage", name := "<init>", desc := "(JIZJII)V" } : Jvm.MethodName) prog_76_method_1_code (9 : Nat) (Option.none : Option Jvm.ClassFile.FieldType)) a0 Z = true := hw _ (List.mem_of_getElem? (i := 55) rfl)
theorem wd_74 {a0 : Array Value} {Z : State} (hw : ∀ d ∈ tables_1, d.before a0 Z = true) : Cond.before (Jvm.Cond.methodLink "com/example/rock_dove/rockdove/store/UnitOfWorkHoldsPersistentPinLaw" (25 : Nat) ({ cls := "com/example/rock_dove/rockdove/store/UnitOfWork", name := "addPut", desc := "(Lcom/example/rock_dove/rockdove/store/StoredMessage;)V" } : Jvm.MethodName)) a0 Z = true := hw _ (List.mem_of_getElem? (i := 74) rfl)
theorem pd_11 : parseMethodDescriptor "(Lcom/example/rock_dove/rockdove/store/StoredMessage;)V" = some ⟨[(.object "com/example/rock_dove/rockdove/store/StoredMessage")], none⟩ := by decide +kernel
theorem wd_77 {a0 : Array Value} {Z : State} (hw : ∀ d ∈ tables_1, d.before a0 Z = true) : Cond.before (Jvm.Cond.selects "com/example/rock_dove/rockdove/store/UnitOfWork" ({ cls := "com/example/rock_dove/rockdove/store/UnitOfWork", name := "addPut", desc := "(Lcom/example/rock_dove/rockdove/store/StoredMessage;)V" } : Jvm.MethodName) ({ cls := "com/example/rock_dove/rockdove/store/UnitOfWork", name := "addPut", desc := "(Lcom/example/rock_dove/rockdove/store/StoredMessage;)V" } : Jvm.MethodName)) a0 Z = true := hw _ (List.mem_of_getElem? (i := 77) rfl)
theorem wd_75 {a0 : Array Value} {Z : State} (hw : ∀ d ∈ tables_1, d.before a0 Z = true) : Cond.before (Jvm.Cond.declares ({ cls := "com/example/rock_dove/rockdove/store/UnitOfWork", name := "addPut", desc := "(Lcom/example/rock_dove/rockdove/store/StoredMessage;)V" } : Jvm.MethodName)) a0 Z = true := hw _ (List.mem_of_getElem? (i := 75) rfl)
theorem wd_76 {a0 : Array Value} {Z : State} (hw : ∀ d ∈ tables_1, d.before a0 Z = true) : Cond.before (Jvm.Cond.instanceMethod ({ cls := "com/example/rock_dove/rockdove/store/UnitOfWork", name := "addPut", desc := "(Lcom/example/rock_dove/rockdove/store/StoredMessage;)V" } : Jvm.MethodName)) a0 Z = true := hw _ (List.mem_of_getElem? (i := 76) rfl)
theorem wd_78 {a0 : Array Value} {Z : State} (hw : ∀ d ∈ tables_1, d.before a0 Z = true) : Cond.before (Jvm.Cond.code ({ cls := "com/example/rock_dove/rockdove/store/UnitOfWork", name := "addPut", desc := "(Lcom/example/rock_dove/rockdove/store/StoredMessage;)V" } : Jvm.MethodName) prog_78_method_7_code (2 : Nat) (Option.none : Option Jvm.ClassFile.FieldType)) a0 Z = true := hw _ (List.mem_of_getElem? (i := 78) rfl)
theorem wd_37 {a0 : Array Value} {Z : State} (hw : ∀ d ∈ tables_1, d.before a0 Z = true) : Cond.before (Jvm.Cond.methodLink "com/example/rock_dove/rockdove/store/UnitOfWorkHoldsPersistentPinLaw" (10 : Nat) ({ cls := "com/example/rock_dove/rockdove/store/UnitOfWork", name := "holdsPersistent", desc := "()Z" } : Jvm.MethodName)) a0 Z = true := hw _ (List.mem_of_getElem? (i := 37) rfl)
theorem wd_40 {a0 : Array Value} {Z : State} (hw : ∀ d ∈ tables_1, d.before a0 Z = true) : Cond.before (Jvm.Cond.selects "com/example/rock_dove/rockdove/store/UnitOfWork" ({ cls := "com/example/rock_dove/rockdove/store/UnitOfWork", name := "holdsPersistent", desc := "()Z" } : Jvm.MethodName) ({ cls := "com/example/rock_dove/rockdove/store/UnitOfWork", name := "holdsPersistent", desc := "()Z" } : Jvm.MethodName)) a0 Z = true := hw _ (List.mem_of_getElem? (i := 40) rfl)
theorem wd_38 {a0 : Array Value} {Z : State} (hw : ∀ d ∈ tables_1, d.before a0 Z = true) : Cond.before (Jvm.Cond.declares ({ cls := "com/example/rock_dove/rockdove/store/UnitOfWork", name := "holdsPersistent", desc := "()Z" } : Jvm.MethodName)) a0 Z = true := hw _ (List.mem_of_getElem? (i := 38) rfl)
theorem wd_39 {a0 : Array Value} {Z : State} (hw : ∀ d ∈ tables_1, d.before a0 Z = true) : Cond.before (Jvm.Cond.instanceMethod ({ cls := "com/example/rock_dove/rockdove/store/UnitOfWork", name := "holdsPersistent", desc := "()Z" } : Jvm.MethodName)) a0 Z = true := hw _ (List.mem_of_getElem? (i := 39) rfl)
theorem wd_41 {a0 : Array Value} {Z : State} (hw : ∀ d ∈ tables_1, d.before a0 Z = true) : Cond.before (Jvm.Cond.code ({ cls := "com/example/rock_dove/rockdove/store/UnitOfWork", name := "holdsPersistent", desc := "()Z" } : Jvm.MethodName) prog_78_method_5_code (1 : Nat) (Option.some Jvm.ClassFile.FieldType.boolean)) a0 Z = true := hw _ (List.mem_of_getElem? (i := 41) rfl)
theorem wd_134 {a0 : Array Value} {Z : State} (hw : ∀ d ∈ tables_1, d.before a0 Z = true) : Cond.before (Jvm.Cond.methodLink "com/example/rock_dove/rockdove/store/UnitOfWorkHoldsPersistentPinLaw" (29 : Nat) ({ cls := "com/example/rock_dove/rockdove/store/UnitOfWork", name := "addRemoval", desc := "(Lcom/example/rock_dove/rockdove/store/StoredMessage;)V" } : Jvm.MethodName)) a0 Z = true := hw _ (List.mem_of_getElem? (i := 134) rfl)
theorem wd_137 {a0 : Array Value} {Z : State} (hw : ∀ d ∈ tables_1, d.before a0 Z = true) : Cond.before (Jvm.Cond.selects "com/example/rock_dove/rockdove/store/UnitOfWork" ({ cls := "com/example/rock_dove/rockdove/store/UnitOfWork", name := "addRemoval", desc := "(Lcom/example/rock_dove/rockdove/store/StoredMessage;)V" } : Jvm.MethodName) ({ cls := "com/example/rock_dove/rockdove/store/UnitOfWork", name := "addRemoval", desc := "(Lcom/example/rock_dove/rockdove/store/StoredMessage;)V" } : Jvm.MethodName)) a0 Z = true := hw _ (List.mem_of_getElem? (i := 137) rfl)
theorem wd_135 {a0 : Array Value} {Z : State} (hw : ∀ d ∈ tables_1, d.before a0 Z = true) : Cond.before (Jvm.Cond.declares ({ cls := "com/example/rock_dove/rockdove/store/UnitOfWork", name := "addRemoval", desc := "(Lcom/example/rock_dove/rockdove/store/StoredMessage;)V" } : Jvm.MethodName)) a0 Z = true := hw _ (List.mem_of_getElem? (i := 135) rfl)
theorem wd_136 {a0 : Array Value} {Z : State} (hw : ∀ d ∈ tables_1, d.before a0 Z = true) : Cond.before (Jvm.Cond.instanceMethod ({ cls := "com/example/rock_dove/rockdove/store/UnitOfWork", name := "addRemoval", desc := "(Lcom/example/rock_dove/rockdove/store/StoredMessage;)V" } : Jvm.MethodName)) a0 Z = true := hw _ (List.mem_of_getElem? (i := 136) rfl)
theorem wd_138 {a0 : Array Value} {Z : State} (hw : ∀ d ∈ tables_1, d.before a0 Z = true) : Cond.before (Jvm.Cond.code ({ cls := "com/example/rock_dove/rockdove/store/UnitOfWork", name := "addRemoval", desc := "(Lcom/example/rock_dove/rockdove/store/StoredMessage;)V" } : Jvm.MethodName) prog_78_method_8_code (2 : Nat) (Option.none : Option Jvm.ClassFile.FieldType)) a0 Z = true := hw _ (List.mem_of_getElem? (i := 138) rfl)
theorem wd_0 {a0 : Array Value} {Z : State} (hw : ∀ d ∈ tables_1, d.before a0 Z = true) : Cond.before (Jvm.Cond.classLink "com/example/rock_dove/rockdove/store/UnitOfWorkHoldsPersistentPinLaw" (7 : Nat) "com/example/rock_dove/rockdove/store/UnitOfWork") a0 Z = true := hw _ (List.mem_of_getElem? (i := 0) rfl)
theorem wd_3 {a0 : Array Value} {Z : State} (hw : ∀ d ∈ tables_1, d.before a0 Z = true) : Cond.before (Jvm.Cond.methodLink "com/example/rock_dove/rockdove/store/UnitOfWorkHoldsPersistentPinLaw" (9 : Nat) ({ cls := "com/example/rock_dove/rockdove/store/UnitOfWork", name := "<init>", desc := "()V" } : Jvm.MethodName)) a0 Z = true := hw _ (List.mem_of_getElem? (i := 3) rfl)
theorem wd_4 {a0 : Array Value} {Z : State} (hw : ∀ d ∈ tables_1, d.before a0 Z = true) : Cond.before (Jvm.Cond.instanceMethod ({ cls := "com/example/rock_dove/rockdove/store/UnitOfWork", name := "<init>", desc := "()V" } : Jvm.MethodName)) a0 Z = true := hw _ (List.mem_of_getElem? (i := 4) rfl)
theorem wd_5 {a0 : Array Value} {Z : State} (hw : ∀ d ∈ tables_1, d.before a0 Z = true) : Cond.before (Jvm.Cond.code ({ cls := "com/example/rock_dove/rockdove/store/UnitOfWork", name := "<init>", desc := "()V" } : Jvm.MethodName) prog_78_method_1_code (1 : Nat) (Option.none : Option Jvm.ClassFile.FieldType)) a0 Z = true := hw _ (List.mem_of_getElem? (i := 5) rfl)
theorem wd_139 {a0 : Array Value} {Z : State} (hw : ∀ d ∈ tables_1, d.before a0 Z = true) : Cond.before (Jvm.Cond.methodLink "com/example/rock_dove/rockdove/store/UnitOfWorkHoldsPersistentPinLaw" (32 : Nat) ({ cls := "com/example/rock_dove/rockdove/store/UnitOfWork", name := "absorb", desc := "(Lcom/example/rock_dove/rockdove/store/UnitOfWork;)V" } : Jvm.MethodName)) a0 Z = true := hw _ (List.mem_of_getElem? (i := 139) rfl)
theorem pd_12 : parseMethodDescriptor "(Lcom/example/rock_dove/rockdove/store/UnitOfWork;)V" = some ⟨[(.object "com/example/rock_dove/rockdove/store/UnitOfWork")], none⟩ := by decide +kernel
theorem wd_142 {a0 : Array Value} {Z : State} (hw : ∀ d ∈ tables_1, d.before a0 Z = true) : Cond.before (Jvm.Cond.selects "com/example/rock_dove/rockdove/store/UnitOfWork" ({ cls := "com/example/rock_dove/rockdove/store/UnitOfWork", name := "absorb", desc := "(Lcom/example/rock_dove/rockdove/store/UnitOfWork;)V" } : Jvm.MethodName) ({ cls := "com/example/rock_dove/rockdove/store/UnitOfWork", name := "absorb", desc := "(Lcom/example/rock_dove/rockdove/store/UnitOfWork;)V" } : Jvm.MethodName)) a0 Z = true := hw _ (List.mem_of_getElem? (i := 142) rfl)
theorem wd_140 {a0 : Array Value} {Z : State} (hw : ∀ d ∈ tables_1, d.before a0 Z = true) : Cond.before (Jvm.Cond.declares ({ cls := "com/example/rock_dove/rockdove/store/UnitOfWork", name := "absorb", desc := "(Lcom/example/rock_dove/rockdove/store/UnitOfWork;)V" } : Jvm.MethodName)) a0 Z = true := hw _ (List.mem_of_getElem? (i := 140) rfl)
theorem wd_141 {a0 : Array Value} {Z : State} (hw : ∀ d ∈ tables_1, d.before a0 Z = true) : Cond.before (Jvm.Cond.instanceMethod ({ cls := "com/example/rock_dove/rockdove/store/UnitOfWork", name := "absorb", desc := "(Lcom/example/rock_dove/rockdove/store/UnitOfWork;)V" } : Jvm.MethodName)) a0 Z = true := hw _ (List.mem_of_getElem? (i := 141) rfl)
theorem wd_143 {a0 : Array Value} {Z : State} (hw : ∀ d ∈ tables_1, d.before a0 Z = true) : Cond.before (Jvm.Cond.code ({ cls := "com/example/rock_dove/rockdove/store/UnitOfWork", name := "absorb", desc := "(Lcom/example/rock_dove/rockdove/store/UnitOfWork;)V" } : Jvm.MethodName) prog_78_method_6_code (2 : Nat) (Option.none : Option Jvm.ClassFile.FieldType)) a0 Z = true := hw _ (List.mem_of_getElem? (i := 143) rfl)
theorem wd_119 {a0 : Array Value} {Z : State} (hw : ∀ d ∈ tables_1, d.before a0 Z = true) : Cond.before (Jvm.Cond.methodLink "com/example/rock_dove/rockdove/store/UnitOfWorkHoldsPersistentPinLaw" (36 : Nat) ({ cls := "com/example/rock_dove/rockdove/store/UnitOfWork", name := "end", desc := "()V" } : Jvm.MethodName)) a0 Z = true := hw _ (List.mem_of_getElem? (i := 119) rfl)
theorem d_rmT_0 : decode method_3_code 0 = .ok (.iload_n 1, 1) := by decide +kernel
theorem d_rmT_1 : decode method_3_code 1 = .ok (.iconst 3, 1) := by decide +kernel
theorem d_rmT_2 : decode method_3_code 2 = .ok (.iand, 1) := by decide +kernel
theorem d_rmT_3 : decode method_3_code 3 = .ok (.istore_n 3, 1) := by decide +kernel
theorem d_rmT_4 : decode method_3_code 4 = .ok (.iload_n 1, 1) := by decide +kernel
theorem d_rmT_5 : decode method_3_code 5 = .ok (.iconst 2, 1) := by decide +kernel
theorem d_rmT_6 : decode method_3_code 6 = .ok (.iushr, 1) := by decide +kernel
theorem d_rmT_7 : decode method_3_code 7 = .ok (.iconst 1, 1) := by decide +kernel
theorem d_rmT_8 : decode method_3_code 8 = .ok (.iand, 1) := by decide +kernel
theorem d_rmT_9 : decode method_3_code 9 = .ok (.ifCond .eq 7, 3) := by decide +kernel
theorem d_rmT_12 : decode method_3_code 12 = .ok (.iconst 1, 1) := by decide +kernel
theorem d_rmT_13 : decode method_3_code 13 = .ok (.goto 4, 3) := by decide +kernel
theorem d_rmT_16 : decode method_3_code 16 = .ok (.iconst 0, 1) := by decide +kernel
theorem d_rmT_17 : decode method_3_code 17 = .ok (.istore 4, 2) := by decide +kernel
theorem d_rmT_19 : decode method_3_code 19 = .ok (.iload_n 2, 1) := by decide +kernel
theorem d_rmT_20 : decode method_3_code 20 = .ok (.iconst 1, 1) := by decide +kernel
theorem d_rmT_21 : decode method_3_code 21 = .ok (.if_icmp .ne 7, 3) := by decide +kernel
theorem d_rmT_24 : decode method_3_code 24 = .ok (.iconst 1, 1) := by decide +kernel
theorem d_rmT_25 : decode method_3_code 25 = .ok (.goto 4, 3) := by decide +kernel
theorem d_rmT_28 : decode method_3_code 28 = .ok (.iconst 0, 1) := by decide +kernel
theorem d_rmT_29 : decode method_3_code 29 = .ok (.istore 5, 2) := by decide +kernel
theorem d_rmT_31 : decode method_3_code 31 = .ok (.new 20, 3) := by decide +kernel
theorem d_rmT_34 : decode method_3_code 34 = .ok (.dup, 1) := by decide +kernel
theorem d_rmT_35 : decode method_3_code 35 = .ok (.lconst 1, 1) := by decide +kernel
theorem d_rmT_36 : decode method_3_code 36 = .ok (.iconst 0, 1) := by decide +kernel
theorem d_rmT_37 : decode method_3_code 37 = .ok (.iload 4, 2) := by decide +kernel
theorem d_rmT_39 : decode method_3_code 39 = .ok (.lconst 0, 1) := by decide +kernel
theorem d_rmT_40 : decode method_3_code 40 = .ok (.iconst 0, 1) := by decide +kernel
theorem d_rmT_41 : decode method_3_code 41 = .ok (.iconst 0, 1) := by decide +kernel
theorem d_rmT_42 : decode method_3_code 42 = .ok (.invokespecial 22, 3) := by decide +kernel
theorem d_rmT_45 : decode method_3_code 45 = .ok (.astore 6, 2) := by decide +kernel
theorem d_rmT_47 : decode method_3_code 47 = .ok (.iload_n 3, 1) := by decide +kernel
theorem d_rmT_48 : decode method_3_code 48 = .ok (.ifCond .ne 29, 3) := by decide +kernel
theorem d_rmT_51 : decode method_3_code 51 = .ok (.aload_n 0, 1) := by decide +kernel
theorem d_rmT_52 : decode method_3_code 52 = .ok (.aload 6, 2) := by decide +kernel
theorem d_rmT_54 : decode method_3_code 54 = .ok (.invokevirtual 25, 3) := by decide +kernel
theorem d_rmT_57 : decode method_3_code 57 = .ok (.iload 5, 2) := by decide +kernel
theorem d_rmT_59 : decode method_3_code 59 = .ok (.ifCond .ne 8, 3) := by decide +kernel
theorem d_rmT_62 : decode method_3_code 62 = .ok (.iload 4, 2) := by decide +kernel
theorem d_rmT_64 : decode method_3_code 64 = .ok (.ifCond .eq 7, 3) := by decide +kernel
theorem d_rmT_67 : decode method_3_code 67 = .ok (.iconst 1, 1) := by decide +kernel
theorem d_rmT_68 : decode method_3_code 68 = .ok (.goto 4, 3) := by decide +kernel
theorem d_rmT_71 : decode method_3_code 71 = .ok (.iconst 0, 1) := by decide +kernel
theorem d_rmT_72 : decode method_3_code 72 = .ok (.istore 5, 2) := by decide +kernel
theorem d_rmT_74 : decode method_3_code 74 = .ok (.goto 110, 3) := by decide +kernel
theorem d_rmT_77 : decode method_3_code 77 = .ok (.iload_n 3, 1) := by decide +kernel
theorem d_rmT_78 : decode method_3_code 78 = .ok (.iconst 1, 1) := by decide +kernel
theorem d_rmT_79 : decode method_3_code 79 = .ok (.if_icmp .ne 29, 3) := by decide +kernel
theorem d_rmT_82 : decode method_3_code 82 = .ok (.aload_n 0, 1) := by decide +kernel
theorem d_rmT_83 : decode method_3_code 83 = .ok (.aload 6, 2) := by decide +kernel
theorem d_rmT_85 : decode method_3_code 85 = .ok (.invokevirtual 29, 3) := by decide +kernel
theorem d_rmT_88 : decode method_3_code 88 = .ok (.iload 5, 2) := by decide +kernel
theorem d_rmT_90 : decode method_3_code 90 = .ok (.ifCond .ne 8, 3) := by decide +kernel
theorem d_rmT_93 : decode method_3_code 93 = .ok (.iload 4, 2) := by decide +kernel
theorem d_rmT_95 : decode method_3_code 95 = .ok (.ifCond .eq 7, 3) := by decide +kernel
theorem d_rmT_98 : decode method_3_code 98 = .ok (.iconst 1, 1) := by decide +kernel
theorem d_rmT_99 : decode method_3_code 99 = .ok (.goto 4, 3) := by decide +kernel
theorem d_rmT_102 : decode method_3_code 102 = .ok (.iconst 0, 1) := by decide +kernel
theorem d_rmT_103 : decode method_3_code 103 = .ok (.istore 5, 2) := by decide +kernel
theorem d_rmT_105 : decode method_3_code 105 = .ok (.goto 79, 3) := by decide +kernel
theorem d_rmT_108 : decode method_3_code 108 = .ok (.iload_n 3, 1) := by decide +kernel
theorem d_rmT_109 : decode method_3_code 109 = .ok (.iconst 2, 1) := by decide +kernel
theorem d_rmT_110 : decode method_3_code 110 = .ok (.if_icmp .ne 67, 3) := by decide +kernel
theorem d_rmT_113 : decode method_3_code 113 = .ok (.new 7, 3) := by decide +kernel
theorem d_rmT_116 : decode method_3_code 116 = .ok (.dup, 1) := by decide +kernel
theorem d_rmT_117 : decode method_3_code 117 = .ok (.invokespecial 9, 3) := by decide +kernel
theorem d_rmT_120 : decode method_3_code 120 = .ok (.astore 7, 2) := by decide +kernel
theorem d_rmT_122 : decode method_3_code 122 = .ok (.aload 7, 2) := by decide +kernel
theorem d_rmT_124 : decode method_3_code 124 = .ok (.aload 6, 2) := by decide +kernel
theorem d_rmT_126 : decode method_3_code 126 = .ok (.invokevirtual 29, 3) := by decide +kernel
theorem d_rmT_129 : decode method_3_code 129 = .ok (.aload 7, 2) := by decide +kernel
theorem d_rmT_131 : decode method_3_code 131 = .ok (.invokevirtual 10, 3) := by decide +kernel
theorem d_rmT_134 : decode method_3_code 134 = .ok (.iload 4, 2) := by decide +kernel
theorem d_rmT_136 : decode method_3_code 136 = .ok (.if_icmp .eq 5, 3) := by decide +kernel
theorem d_rmT_141 : decode method_3_code 141 = .ok (.aload_n 0, 1) := by decide +kernel
theorem d_rmT_142 : decode method_3_code 142 = .ok (.aload 7, 2) := by decide +kernel
theorem d_rmT_144 : decode method_3_code 144 = .ok (.invokevirtual 32, 3) := by decide +kernel
theorem d_rmT_147 : decode method_3_code 147 = .ok (.aload 7, 2) := by decide +kernel
theorem d_rmT_149 : decode method_3_code 149 = .ok (.invokevirtual 10, 3) := by decide +kernel
theorem d_rmT_152 : decode method_3_code 152 = .ok (.ifCond .eq 5, 3) := by decide +kernel
theorem d_rmT_157 : decode method_3_code 157 = .ok (.iload 5, 2) := by decide +kernel
theorem d_rmT_159 : decode method_3_code 159 = .ok (.ifCond .ne 8, 3) := by decide +kernel
theorem d_rmT_162 : decode method_3_code 162 = .ok (.iload 4, 2) := by decide +kernel
theorem d_rmT_164 : decode method_3_code 164 = .ok (.ifCond .eq 7, 3) := by decide +kernel
theorem d_rmT_167 : decode method_3_code 167 = .ok (.iconst 1, 1) := by decide +kernel
theorem d_rmT_168 : decode method_3_code 168 = .ok (.goto 4, 3) := by decide +kernel
theorem d_rmT_171 : decode method_3_code 171 = .ok (.iconst 0, 1) := by decide +kernel
theorem d_rmT_172 : decode method_3_code 172 = .ok (.istore 5, 2) := by decide +kernel
theorem d_rmT_174 : decode method_3_code 174 = .ok (.goto 10, 3) := by decide +kernel
theorem d_rmT_177 : decode method_3_code 177 = .ok (.aload_n 0, 1) := by decide +kernel
theorem d_rmT_178 : decode method_3_code 178 = .ok (.invokevirtual 36, 3) := by decide +kernel
theorem d_rmT_181 : decode method_3_code 181 = .ok (.iconst 0, 1) := by decide +kernel
theorem d_rmT_182 : decode method_3_code 182 = .ok (.istore 5, 2) := by decide +kernel
theorem d_rmT_184 : decode method_3_code 184 = .ok (.aload_n 0, 1) := by decide +kernel
theorem d_rmT_185 : decode method_3_code 185 = .ok (.invokevirtual 10, 3) := by decide +kernel
theorem d_rmT_188 : decode method_3_code 188 = .ok (.iload 5, 2) := by decide +kernel
theorem d_rmT_190 : decode method_3_code 190 = .ok (.if_icmp .eq 5, 3) := by decide +kernel
theorem d_rmT_195 : decode method_3_code 195 = .ok (.iload 5, 2) := by decide +kernel
theorem d_rmT_197 : decode method_3_code 197 = .ok (.ifCond .eq 7, 3) := by decide +kernel
theorem d_rmT_200 : decode method_3_code 200 = .ok (.iconst 1, 1) := by decide +kernel
theorem d_rmT_201 : decode method_3_code 201 = .ok (.goto 4, 3) := by decide +kernel
theorem d_rmT_204 : decode method_3_code 204 = .ok (.iconst 0, 1) := by decide +kernel
theorem d_rmT_205 : decode method_3_code 205 = .ok (.ireturn, 1) := by decide +kernel
set_option maxRecDepth 65536 in
set_option maxHeartbeats 40000000 in
theorem rmT (l : Launch) (Z : State) (a0 : Array Value) (hw : ∀ d ∈ tables_1, d.before a0 Z = true) (ws : List Jvm.Cond) (u L1 L2 dc mir : Addr) (k : Nat) (x e1 pp pr : Int32) (h0 : Heap) (n0 : Nat) (Z0 : n0 ≤ h0.size) (HU : own_U Z n0 dc h0 u L1 L2 k pp pr) (ne12 : L1 ≠ L2) (hk : k ≤ 2) (he : e1 = own_hp pp pr) (b1 : 0 ≤ pp.toInt) (b2 : pp.toInt ≤ (k : Int)) (b3 : 0 ≤ pr.toInt) (b4 : pr.toInt ≤ (k : Int)) (Mi : own_Mi Z mir) (Fs : Sta Z h0 "java/util/ArrayList" "DEFAULTCAPACITY_EMPTY_ELEMENTDATA" "[Ljava/lang/Object;" (.ref dc)) (A0 : own_A Z h0 dc 0) :
    own_Met l Z (⟨"com/example/rock_dove/rockdove/store/UnitOfWorkHoldsPersistentPinLaw", "step", "(Lcom/example/rock_dove/rockdove/store/UnitOfWork;II)I"⟩ : MethodName) ws method_3_code 8 (some .int) ({ frames := 6, cells := 7, slots := 44, locals := 88 } : Room) #[(.ref u), (.int x), (.int e1)] h0 (fun v h L => ∃ x y : Int32, v = some (.int (own_hp x y)) ∧ Fr n0 L ∧ n0 ≤ h.size ∧ own_U Z n0 dc h u L1 L2 (k + 1) x y ∧ 0 ≤ x.toInt ∧ x.toInt ≤ ((k + 1 : Nat) : Int) ∧ 0 ≤ y.toInt ∧ y.toInt ≤ ((k + 1 : Nat) : Int) ∧ Sta Z h "java/util/ArrayList" "DEFAULTCAPACITY_EMPTY_ELEMENTDATA" "[Ljava/lang/Object;" (.ref dc) ∧ own_A Z h dc 0) := by
  refine own_body (y := (⟨"com/example/rock_dove/rockdove/store/UnitOfWorkHoldsPersistentPinLaw", "step", "(Lcom/example/rock_dove/rockdove/store/UnitOfWork;II)I"⟩ : MethodName)) (plainFor_of_name pn_7) ?_
  intro p e s m below meth c s₁ hx hby hml hown hnm hret hlk hZ X0 e0
  have hml : c.maxLocals = 8 := hml
  have hown : s.vm.findClass "com/example/rock_dove/rockdove/store/UnitOfWorkHoldsPersistentPinLaw" = some m.cls := hown
  have N0 := Fr.nil n0
  refine own_entry (ef_rmT m u x e1) ?_
  show own_Dn p e below s (fun v h L => ∃ x y : Int32, v = some (.int (own_hp x y)) ∧ Fr n0 L ∧ n0 ≤ h.size ∧ own_U Z n0 dc h u L1 L2 (k + 1) x y ∧ 0 ≤ x.toInt ∧ x.toInt ≤ ((k + 1 : Nat) : Int) ∧ 0 ≤ y.toInt ∧ y.toInt ≤ ((k + 1 : Nat) : Int) ∧ Sta Z h "java/util/ArrayList" "DEFAULTCAPACITY_EMPTY_ELEMENTDATA" "[Ljava/lang/Object;" (.ref dc) ∧ own_A Z h dc 0) ({ frames := 6, cells := 7, slots := 44, locals := 88 } : Room).cells ({ frames := 6, cells := 7, slots := 44, locals := 88 } : Room).slots (s₁.setTop (mkF m 0 #[.val (.ref u), .val (.int x), .val (.int e1), .unset, .unset, .unset, .unset, .unset] []))
  obtain ⟨EU, gU, U_pu, U_re, U_pp, U_pr, ⟨iD, U_id⟩, ⟨ea1, HL1⟩, ⟨ea2, HL2⟩⟩ := HU
  obtain ⟨j1, Q1⟩ := HL1.arr A0
  obtain ⟨j2, Q2⟩ := HL2.arr A0
  refine own_st (q' := s₁.setTop (mkF m 5 #[.val (.ref u), .val (.int x), .val (.int e1), .val (.int (x &&& (3 : Int32))), .unset, .unset, .unset, .unset] [(.int x)])) (fun _ k => XS.iloadN X0.here hx rfl (hb hby d_rmT_0) rfl (XS.iconst X0.here hx rfl (hb hby d_rmT_1) (XS.iand X0.here hx rfl (hb hby d_rmT_2) rfl (XS.istoreN X0.here hx rfl (hb hby d_rmT_3) rfl (l' := #[.val (.ref u), .val (.int x), .val (.int e1), .val (.int (x &&& (3 : Int32))), .unset, .unset, .unset, .unset]) rfl (XS.iloadN X0.here hx rfl (hb hby d_rmT_4) rfl k))))) ?_
  refine own_st (q' := s₁.setTop (mkF m 9 #[.val (.ref u), .val (.int x), .val (.int e1), .val (.int (x &&& (3 : Int32))), .unset, .unset, .unset, .unset] [(.int (((x.toUInt32 >>> ((2 : Int32) &&& 31).toUInt32).toInt32) &&& (1 : Int32)))])) (fun _ k => XS.iconst X0.here hx rfl (hb hby d_rmT_5) (XS.iushr X0.here hx rfl (hb hby d_rmT_6) rfl (XS.iconst X0.here hx rfl (hb hby d_rmT_7) (XS.iand X0.here hx rfl (hb hby d_rmT_8) rfl k)))) ?_
  by_cases hc9_101 : (((x.toUInt32 >>> ((2 : Int32) &&& 31).toUInt32).toInt32) &&& (1 : Int32)) = (0 : Int32)
  · skip
    have hc9_101I : ((((x.toUInt32 >>> ((2 : Int32) &&& 31).toUInt32).toInt32) &&& (1 : Int32))).toInt = (0 : Int) := own_eqT hc9_101
    refine own_st (q' := s₁.setTop (mkF m 21 #[.val (.ref u), .val (.int x), .val (.int e1), .val (.int (x &&& (3 : Int32))), .val (.int (0 : Int32)), .unset, .unset, .unset] [(.int (1 : Int32)), (.int e1)])) (fun _ k => XS.ifYes X0.here hx rfl (pc0 := 9) (pc' := 16) rfl (hb hby d_rmT_9) rfl ((if0 _ _).trans (teq hc9_101).1) (by decide) (by decide) (XS.iconst X0.here hx rfl (hb hby d_rmT_16) (XS.istore X0.here hx rfl (hb hby d_rmT_17) rfl (l' := #[.val (.ref u), .val (.int x), .val (.int e1), .val (.int (x &&& (3 : Int32))), .val (.int (0 : Int32)), .unset, .unset, .unset]) rfl (XS.iloadN X0.here hx rfl (hb hby d_rmT_19) rfl (XS.iconst X0.here hx rfl (hb hby d_rmT_20) k))))) ?_
    by_cases hc21_102 : e1 = (1 : Int32)
    · skip
      have hc21_102I : (e1).toInt = (1 : Int) := own_eqT hc21_102
      refine own_st (q' := s₁.setTop (mkF m 31 #[.val (.ref u), .val (.int x), .val (.int e1), .val (.int (x &&& (3 : Int32))), .val (.int (0 : Int32)), .val (.int (1 : Int32)), .unset, .unset] [])) (fun _ k => XS.icmpNo X0.here hx rfl (hb hby d_rmT_21) rfl (teq hc21_102).2 (XS.iconst X0.here hx rfl (hb hby d_rmT_24) (XS.goto X0.here hx rfl (pc0 := 25) (pc' := 29) rfl (hb hby d_rmT_25) (by decide) (by decide) (XS.istore X0.here hx rfl (hb hby d_rmT_29) rfl (l' := #[.val (.ref u), .val (.int x), .val (.int e1), .val (.int (x &&& (3 : Int32))), .val (.int (0 : Int32)), .val (.int (1 : Int32)), .unset, .unset]) rfl k)))) ?_
      obtain ⟨T103, h103, X103, e103, E103, A103, D103, -, st103⟩ := newO X0 hx hZ hown (wd_50 hw) (wd_51 hw) (wd_52 hw) e0 (g := (mkF m 31 #[.val (.ref u), .val (.int x), .val (.int e1), .val (.int (x &&& (3 : Int32))), .val (.int (0 : Int32)), .val (.int (1 : Int32)), .unset, .unset] [])) rfl (hb hby d_rmT_31) (by decide) (by decide)
      obtain ⟨b103, g103⟩ : ∃ z, z = h0.size := ⟨_, rfl⟩
      rw [← g103] at A103 D103 st103
      have lt_u_b103 : u < b103 := Nat.lt_of_lt_of_le EU.lt (Nat.le_of_eq g103.symm)
      have lt_L1_b103 : L1 < b103 := Nat.lt_of_lt_of_le HL1.1.lt (Nat.le_of_eq g103.symm)
      have lt_L2_b103 : L2 < b103 := Nat.lt_of_lt_of_le HL2.1.lt (Nat.le_of_eq g103.symm)
      have lt_dc_b103 : dc < b103 := Nat.lt_of_lt_of_le A0.lt (Nat.le_of_eq g103.symm)
      have ge_b103 : n0 ≤ b103 := Nat.le_trans Z0 (Nat.le_of_eq g103.symm)
      have F_sequence_b103 : Fld Z h103 b103 "com/example/rock_dove/rockdove/store/StoredMessage" "sequence" "J" (.long (0 : Int64)) := D103 (Or.inr (wd_63 hw)) (ty := .long) (by decide)
      have F_objectId_b103 : Fld Z h103 b103 "com/example/rock_dove/rockdove/store/StoredMessage" "objectId" "I" (.int (0 : Int32)) := D103 (Or.inr (wd_65 hw)) (ty := .int) (by decide)
      have F_persistent_b103 : Fld Z h103 b103 "com/example/rock_dove/rockdove/store/StoredMessage" "persistent" "Z" (.int (0 : Int32)) := D103 (Or.inr (wd_67 hw)) (ty := .boolean) (by decide)
      have F_unit_b103 : Fld Z h103 b103 "com/example/rock_dove/rockdove/store/StoredMessage" "unit" "J" (.long (0 : Int64)) := D103 (Or.inr (wd_69 hw)) (ty := .long) (by decide)
      have F_descriptorLength_b103 : Fld Z h103 b103 "com/example/rock_dove/rockdove/store/StoredMessage" "descriptorLength" "I" (.int (0 : Int32)) := D103 (Or.inr (wd_71 hw)) (ty := .int) (by decide)
      have F_dataLength_b103 : Fld Z h103 b103 "com/example/rock_dove/rockdove/store/StoredMessage" "dataLength" "I" (.int (0 : Int32)) := D103 (Or.inr (wd_73 hw)) (ty := .int) (by decide)
      refine own_st (q' := T103.setTop (mkF m 34 #[.val (.ref u), .val (.int x), .val (.int e1), .val (.int (x &&& (3 : Int32))), .val (.int (0 : Int32)), .val (.int (1 : Int32)), .unset, .unset] [(.ref b103)])) st103 ?_
      refine own_st (q' := T103.setTop (mkF m 40 #[.val (.ref u), .val (.int x), .val (.int e1), .val (.int (x &&& (3 : Int32))), .val (.int (0 : Int32)), .val (.int (1 : Int32)), .unset, .unset] [(.long (0 : Int64)), (.int (0 : Int32)), (.int (0 : Int32)), (.long (1 : Int64)), (.ref b103), (.ref b103)])) (fun _ k => XS.dup X103.here hx rfl (hb hby d_rmT_34) rfl rfl (XS.lconst X103.here hx rfl (hb hby d_rmT_35) (XS.iconst X103.here hx rfl (hb hby d_rmT_36) (XS.iload X103.here hx rfl (hb hby d_rmT_37) rfl (XS.lconst X103.here hx rfl (hb hby d_rmT_39) k))))) ?_
      refine own_st (q' := T103.setTop (mkF m 42 #[.val (.ref u), .val (.int x), .val (.int e1), .val (.int (x &&& (3 : Int32))), .val (.int (0 : Int32)), .val (.int (1 : Int32)), .unset, .unset] [(.int (0 : Int32)), (.int (0 : Int32)), (.long (0 : Int64)), (.int (0 : Int32)), (.int (0 : Int32)), (.long (1 : Int64)), (.ref b103), (.ref b103)])) (fun _ k => XS.iconst X103.here hx rfl (hb hby d_rmT_40) (XS.iconst X103.here hx rfl (hb hby d_rmT_41) k)) ?_
      have f104 := (Fs.ext E103)
      have f105 := (A0.ext E103)
      refine own_callI (y := (⟨"com/example/rock_dove/rockdove/store/StoredMessage", "<init>", "(JIZJII)V"⟩ : MethodName)) X103 hx hZ hown rfl (wd_53 hw) (wd_54 hw) (wd_52 hw) (wd_55 hw) (by decide) (rmSI0 l Z a0 hw [] b103 dc h103 n0 (Nat.le_trans Z0 E103.1) A103 ge_b103 F_sequence_b103 F_objectId_b103 F_persistent_b103 F_unit_b103 F_descriptorLength_b103 F_dataLength_b103 f104 f105) e103 (W := 1) (by decide) (by decide) (by decide) (by decide) (g := (mkF m 42 #[.val (.ref u), .val (.int x), .val (.int e1), .val (.int (x &&& (3 : Int32))), .val (.int (0 : Int32)), .val (.int (1 : Int32)), .unset, .unset] [(.int (0 : Int32)), (.int (0 : Int32)), (.long (0 : Int64)), (.int (0 : Int32)), (.int (0 : Int32)), (.long (1 : Int64)), (.ref b103), (.ref b103)])) rfl (by rw [hml]; rfl) (a := b103) (argsL := [(.long (1 : Int64)), (.int (0 : Int32)), (.int (0 : Int32)), (.long (0 : Int64)), (.int (0 : Int32)), (.int (0 : Int32))]) (rest := [(.ref b103)]) rfl (lenOf pd_10 rfl) rfl (by show 2 * 0 + _ ≤ _; exact Nat.le_of_eq rfl) (hb hby d_rmT_42) ?_
      intro v106 T106 L106 hQ106 X106
      obtain ⟨rfl, NN106, KK106, q106_0, q106_1, q106_2, q106_3⟩ := hQ106
      have N106 := Fr.app N0 NN106
      show own_Dn p e below s (fun v h L => ∃ x y : Int32, v = some (.int (own_hp x y)) ∧ Fr n0 L ∧ n0 ≤ h.size ∧ own_U Z n0 dc h u L1 L2 (k + 1) x y ∧ 0 ≤ x.toInt ∧ x.toInt ≤ ((k + 1 : Nat) : Int) ∧ 0 ≤ y.toInt ∧ y.toInt ≤ ((k + 1 : Nat) : Int) ∧ Sta Z h "java/util/ArrayList" "DEFAULTCAPACITY_EMPTY_ELEMENTDATA" "[Ljava/lang/Object;" (.ref dc) ∧ own_A Z h dc 0) ({ frames := 6, cells := 7, slots := 44, locals := 88 } : Room).cells ({ frames := 6, cells := 7, slots := 44, locals := 88 } : Room).slots (T106.setTop (mkF m 45 #[.val (.ref u), .val (.int x), .val (.int e1), .val (.int (x &&& (3 : Int32))), .val (.int (0 : Int32)), .val (.int (1 : Int32)), .unset, .unset] [(.ref b103)]))
      refine own_st (q' := T106.setTop (mkF m 48 #[.val (.ref u), .val (.int x), .val (.int e1), .val (.int (x &&& (3 : Int32))), .val (.int (0 : Int32)), .val (.int (1 : Int32)), .val (.ref b103), .unset] [(.int (x &&& (3 : Int32)))])) (fun _ k => XS.astore X106.here hx rfl (hb hby d_rmT_45) rfl rfl (l' := #[.val (.ref u), .val (.int x), .val (.int e1), .val (.int (x &&& (3 : Int32))), .val (.int (0 : Int32)), .val (.int (1 : Int32)), .val (.ref b103), .unset]) rfl (XS.iloadN X106.here hx rfl (hb hby d_rmT_47) rfl k)) ?_
      by_cases hc48_107 : (x &&& (3 : Int32)) = (0 : Int32)
      · skip
        have hc48_107I : ((x &&& (3 : Int32))).toInt = (0 : Int) := own_eqT hc48_107
        refine own_st (q' := T106.setTop (mkF m 54 #[.val (.ref u), .val (.int x), .val (.int e1), .val (.int (x &&& (3 : Int32))), .val (.int (0 : Int32)), .val (.int (1 : Int32)), .val (.ref b103), .unset] [(.ref b103), (.ref u)])) (fun _ k => XS.ifNo X106.here hx rfl (hb hby d_rmT_48) rfl ((if0 _ _).trans (teq hc48_107).2) (XS.aloadN X106.here hx rfl (hb hby d_rmT_51) rfl rfl (XS.aload X106.here hx rfl (hb hby d_rmT_52) rfl rfl k))) ?_
        have f108 := ((EU.ext E103).keep KK106)
        have f109 := ((U_pu.ext E103).keep KK106 (ninS (Nat.ne_of_lt lt_u_b103) nin0))
        have f110 := ((U_re.ext E103).keep KK106 (ninS (Nat.ne_of_lt lt_u_b103) nin0))
        have f111 := ((U_pp.ext E103).keep KK106 (ninS (Nat.ne_of_lt lt_u_b103) nin0))
        have f112 := ((U_pr.ext E103).keep KK106 (ninS (Nat.ne_of_lt lt_u_b103) nin0))
        have f113 := ((U_id.ext E103).keep KK106 (ninS (Nat.ne_of_lt lt_u_b103) nin0))
        have f114 := ((HL1.ext E103).keep KK106 (ninS (Nat.ne_of_lt lt_L1_b103) nin0))
        have f115 := ((HL2.ext E103).keep KK106 (ninS (Nat.ne_of_lt lt_L2_b103) nin0))
        refine own_callV (y := (⟨"com/example/rock_dove/rockdove/store/UnitOfWork", "addPut", "(Lcom/example/rock_dove/rockdove/store/StoredMessage;)V"⟩ : MethodName)) X106 hx hZ hown (wd_74 hw) (wd_75 hw) (wd_77 hw) (wd_76 hw) (wd_2 hw) (wd_78 hw) (by decide) (rmAP0 l Z a0 hw [] u L1 L2 b103 dc ea1 ea2 k pp pr iD T106.heap n0 (Nat.le_trans (Nat.le_trans Z0 E103.1) KK106.1) f108 gU f109 f110 f111 f112 f113 f114 f115 ne12 (by omega) q106_0 q106_1 q106_2 q106_3) (rfl : T106.heap = T106.heap) f108 (W := 0) (by decide) (by decide) (by decide) (by decide) (g := (mkF m 54 #[.val (.ref u), .val (.int x), .val (.int e1), .val (.int (x &&& (3 : Int32))), .val (.int (0 : Int32)), .val (.int (1 : Int32)), .val (.ref b103), .unset] [(.ref b103), (.ref u)])) rfl (by rw [hml]; rfl) (argsL := [(.ref b103)]) (rest := []) rfl (lenOf pd_11 rfl) rfl (by show 2 * 0 + _ ≤ _; exact Nat.le_of_eq rfl) (hb hby d_rmT_54) ?_
        intro v116 T116 L116 hQ116 X116
        obtain ⟨rfl, NN116, ZZ116, UU116, SS116, AA116⟩ := hQ116
        have N116 := Fr.app N106 NN116
        have UC116 := UU116
        obtain ⟨EU116, -, pu116, re116, pp116, pr116, -⟩ := UC116
        show own_Dn p e below s (fun v h L => ∃ x y : Int32, v = some (.int (own_hp x y)) ∧ Fr n0 L ∧ n0 ≤ h.size ∧ own_U Z n0 dc h u L1 L2 (k + 1) x y ∧ 0 ≤ x.toInt ∧ x.toInt ≤ ((k + 1 : Nat) : Int) ∧ 0 ≤ y.toInt ∧ y.toInt ≤ ((k + 1 : Nat) : Int) ∧ Sta Z h "java/util/ArrayList" "DEFAULTCAPACITY_EMPTY_ELEMENTDATA" "[Ljava/lang/Object;" (.ref dc) ∧ own_A Z h dc 0) ({ frames := 6, cells := 7, slots := 44, locals := 88 } : Room).cells ({ frames := 6, cells := 7, slots := 44, locals := 88 } : Room).slots (T116.setTop (mkF m 57 #[.val (.ref u), .val (.int x), .val (.int e1), .val (.int (x &&& (3 : Int32))), .val (.int (0 : Int32)), .val (.int (1 : Int32)), .val (.ref b103), .unset] []))
        refine own_st (q' := T116.setTop (mkF m 74 #[.val (.ref u), .val (.int x), .val (.int e1), .val (.int (x &&& (3 : Int32))), .val (.int (0 : Int32)), .val (.int (1 : Int32)), .val (.ref b103), .unset] [])) (fun _ k => XS.iload X116.here hx rfl (hb hby d_rmT_57) rfl (XS.ifYes X116.here hx rfl (pc0 := 59) (pc' := 67) rfl (hb hby d_rmT_59) rfl ((if0 _ _).trans (feq ((by decide : ¬ ((1 : Int32) = (0 : Int32))) : ¬ ((1 : Int32) = (0 : Int32)))).2) (by decide) (by decide) (XS.iconst X116.here hx rfl (hb hby d_rmT_67) (XS.goto X116.here hx rfl (pc0 := 68) (pc' := 72) rfl (hb hby d_rmT_68) (by decide) (by decide) (XS.istore X116.here hx rfl (hb hby d_rmT_72) rfl (l' := #[.val (.ref u), .val (.int x), .val (.int e1), .val (.int (x &&& (3 : Int32))), .val (.int (0 : Int32)), .val (.int (1 : Int32)), .val (.ref b103), .unset]) rfl k))))) ?_
        refine own_st (q' := T116.setTop (mkF m 185 #[.val (.ref u), .val (.int x), .val (.int e1), .val (.int (x &&& (3 : Int32))), .val (.int (0 : Int32)), .val (.int (1 : Int32)), .val (.ref b103), .unset] [(.ref u)])) (fun _ k => XS.goto X116.here hx rfl (pc0 := 74) (pc' := 184) rfl (hb hby d_rmT_74) (by decide) (by decide) (XS.aloadN X116.here hx rfl (hb hby d_rmT_184) rfl rfl k)) ?_
        refine own_callV (y := (⟨"com/example/rock_dove/rockdove/store/UnitOfWork", "holdsPersistent", "()Z"⟩ : MethodName)) X116 hx hZ hown (wd_37 hw) (wd_38 hw) (wd_40 hw) (wd_39 hw) (wd_2 hw) (wd_41 hw) (by decide) (rmHP l Z a0 hw [] u (pp + (0 : Int32)) pr T116.heap n0 ZZ116 pp116 pr116) (rfl : T116.heap = T116.heap) EU116 (W := 0) (by decide) (by decide) (by decide) (by decide) (g := (mkF m 185 #[.val (.ref u), .val (.int x), .val (.int e1), .val (.int (x &&& (3 : Int32))), .val (.int (0 : Int32)), .val (.int (1 : Int32)), .val (.ref b103), .unset] [(.ref u)])) rfl (by rw [hml]; rfl) (argsL := []) (rest := []) rfl (lenOf pd_8 rfl) rfl (by show 2 * 0 + _ ≤ _; exact Nat.le_of_eq rfl) (hb hby d_rmT_185) ?_
        intro v117 T117 L117 hQ117 X117
        obtain ⟨rfl, NN117, e117⟩ := hQ117
        have N117 := Fr.app N116 NN117
        show own_Dn p e below s (fun v h L => ∃ x y : Int32, v = some (.int (own_hp x y)) ∧ Fr n0 L ∧ n0 ≤ h.size ∧ own_U Z n0 dc h u L1 L2 (k + 1) x y ∧ 0 ≤ x.toInt ∧ x.toInt ≤ ((k + 1 : Nat) : Int) ∧ 0 ≤ y.toInt ∧ y.toInt ≤ ((k + 1 : Nat) : Int) ∧ Sta Z h "java/util/ArrayList" "DEFAULTCAPACITY_EMPTY_ELEMENTDATA" "[Ljava/lang/Object;" (.ref dc) ∧ own_A Z h dc 0) ({ frames := 6, cells := 7, slots := 44, locals := 88 } : Room).cells ({ frames := 6, cells := 7, slots := 44, locals := 88 } : Room).slots (T117.setTop (mkF m 188 #[.val (.ref u), .val (.int x), .val (.int e1), .val (.int (x &&& (3 : Int32))), .val (.int (0 : Int32)), .val (.int (1 : Int32)), .val (.ref b103), .unset] [(.int (own_hp (pp + (0 : Int32)) pr))]))
        refine own_st (q' := T117.setTop (mkF m 190 #[.val (.ref u), .val (.int x), .val (.int e1), .val (.int (x &&& (3 : Int32))), .val (.int (0 : Int32)), .val (.int (1 : Int32)), .val (.ref b103), .unset] [(.int (1 : Int32)), (.int (own_hp (pp + (0 : Int32)) pr))])) (fun _ k => XS.iload X117.here hx rfl (hb hby d_rmT_188) rfl k) ?_
        have HPF : (own_hp (pp + (0 : Int32)) pr) = (1 : Int32) := (by rw [own_add0, ← he]; exact hc21_102)
        refine own_st (q' := T117.setTop (mkF m 205 #[.val (.ref u), .val (.int x), .val (.int e1), .val (.int (x &&& (3 : Int32))), .val (.int (0 : Int32)), .val (.int (1 : Int32)), .val (.ref b103), .unset] [(.int (1 : Int32))])) (fun _ k => XS.icmpYes X117.here hx rfl (pc0 := 190) (pc' := 195) rfl (hb hby d_rmT_190) rfl (teq (HPF : (own_hp (pp + (0 : Int32)) pr) = (1 : Int32))).1 (by decide) (by decide) (XS.iload X117.here hx rfl (hb hby d_rmT_195) rfl (XS.ifNo X117.here hx rfl (hb hby d_rmT_197) rfl ((if0 _ _).trans (feq ((by decide : ¬ ((1 : Int32) = (0 : Int32))) : ¬ ((1 : Int32) = (0 : Int32)))).1) (XS.iconst X117.here hx rfl (hb hby d_rmT_200) (XS.goto X117.here hx rfl (pc0 := 201) (pc' := 205) rfl (hb hby d_rmT_201) (by decide) (by decide) k))))) ?_
        exact own_retI X117 hx hlk hret (hb hby d_rmT_205) e117 (by exact ⟨(pp + (0 : Int32)), pr, congrArg (fun z => some (Value.int z)) HPF.symm, N117, ZZ116, UU116, (own_i0 b1 b2).1, (own_i0 b1 b2).2, (own_up b3 b4).1, (own_up b3 b4).2, SS116, AA116⟩) (by decide) (by decide)
      · skip
        have hc48_107I : ¬ ((x &&& (3 : Int32))).toInt = (0 : Int) := own_eqF hc48_107
        refine own_st (q' := T106.setTop (mkF m 79 #[.val (.ref u), .val (.int x), .val (.int e1), .val (.int (x &&& (3 : Int32))), .val (.int (0 : Int32)), .val (.int (1 : Int32)), .val (.ref b103), .unset] [(.int (1 : Int32)), (.int (x &&& (3 : Int32)))])) (fun _ k => XS.ifYes X106.here hx rfl (pc0 := 48) (pc' := 77) rfl (hb hby d_rmT_48) rfl ((if0 _ _).trans (feq hc48_107).2) (by decide) (by decide) (XS.iloadN X106.here hx rfl (hb hby d_rmT_77) rfl (XS.iconst X106.here hx rfl (hb hby d_rmT_78) k))) ?_
        by_cases hc79_118 : (x &&& (3 : Int32)) = (1 : Int32)
        · skip
          have hc79_118I : ((x &&& (3 : Int32))).toInt = (1 : Int) := own_eqT hc79_118
          refine own_st (q' := T106.setTop (mkF m 85 #[.val (.ref u), .val (.int x), .val (.int e1), .val (.int (x &&& (3 : Int32))), .val (.int (0 : Int32)), .val (.int (1 : Int32)), .val (.ref b103), .unset] [(.ref b103), (.ref u)])) (fun _ k => XS.icmpNo X106.here hx rfl (hb hby d_rmT_79) rfl (teq hc79_118).2 (XS.aloadN X106.here hx rfl (hb hby d_rmT_82) rfl rfl (XS.aload X106.here hx rfl (hb hby d_rmT_83) rfl rfl k))) ?_
          have f119 := ((EU.ext E103).keep KK106)
          have f120 := ((U_pu.ext E103).keep KK106 (ninS (Nat.ne_of_lt lt_u_b103) nin0))
          have f121 := ((U_re.ext E103).keep KK106 (ninS (Nat.ne_of_lt lt_u_b103) nin0))
          have f122 := ((U_pp.ext E103).keep KK106 (ninS (Nat.ne_of_lt lt_u_b103) nin0))
          have f123 := ((U_pr.ext E103).keep KK106 (ninS (Nat.ne_of_lt lt_u_b103) nin0))
          have f124 := ((U_id.ext E103).keep KK106 (ninS (Nat.ne_of_lt lt_u_b103) nin0))
          have f125 := ((HL1.ext E103).keep KK106 (ninS (Nat.ne_of_lt lt_L1_b103) nin0))
          have f126 := ((HL2.ext E103).keep KK106 (ninS (Nat.ne_of_lt lt_L2_b103) nin0))
          refine own_callV (y := (⟨"com/example/rock_dove/rockdove/store/UnitOfWork", "addRemoval", "(Lcom/example/rock_dove/rockdove/store/StoredMessage;)V"⟩ : MethodName)) X106 hx hZ hown (wd_134 hw) (wd_135 hw) (wd_137 hw) (wd_136 hw) (wd_2 hw) (wd_138 hw) (by decide) (rmAR0 l Z a0 hw [] u L1 L2 b103 dc ea1 ea2 k pp pr iD T106.heap n0 (Nat.le_trans (Nat.le_trans Z0 E103.1) KK106.1) f119 gU f120 f121 f122 f123 f124 f125 f126 ne12 (by omega) q106_0 q106_1 q106_2 q106_3) (rfl : T106.heap = T106.heap) f119 (W := 0) (by decide) (by decide) (by decide) (by decide) (g := (mkF m 85 #[.val (.ref u), .val (.int x), .val (.int e1), .val (.int (x &&& (3 : Int32))), .val (.int (0 : Int32)), .val (.int (1 : Int32)), .val (.ref b103), .unset] [(.ref b103), (.ref u)])) rfl (by rw [hml]; rfl) (argsL := [(.ref b103)]) (rest := []) rfl (lenOf pd_11 rfl) rfl (by show 2 * 0 + _ ≤ _; exact Nat.le_of_eq rfl) (hb hby d_rmT_85) ?_
          intro v127 T127 L127 hQ127 X127
          obtain ⟨rfl, NN127, ZZ127, UU127, SS127, AA127⟩ := hQ127
          have N127 := Fr.app N106 NN127
          have UC127 := UU127
          obtain ⟨EU127, -, pu127, re127, pp127, pr127, -⟩ := UC127
          show own_Dn p e below s (fun v h L => ∃ x y : Int32, v = some (.int (own_hp x y)) ∧ Fr n0 L ∧ n0 ≤ h.size ∧ own_U Z n0 dc h u L1 L2 (k + 1) x y ∧ 0 ≤ x.toInt ∧ x.toInt ≤ ((k + 1 : Nat) : Int) ∧ 0 ≤ y.toInt ∧ y.toInt ≤ ((k + 1 : Nat) : Int) ∧ Sta Z h "java/util/ArrayList" "DEFAULTCAPACITY_EMPTY_ELEMENTDATA" "[Ljava/lang/Object;" (.ref dc) ∧ own_A Z h dc 0) ({ frames := 6, cells := 7, slots := 44, locals := 88 } : Room).cells ({ frames := 6, cells := 7, slots := 44, locals := 88 } : Room).slots (T127.setTop (mkF m 88 #[.val (.ref u), .val (.int x), .val (.int e1), .val (.int (x &&& (3 : Int32))), .val (.int (0 : Int32)), .val (.int (1 : Int32)), .val (.ref b103), .unset] []))
          refine own_st (q' := T127.setTop (mkF m 105 #[.val (.ref u), .val (.int x), .val (.int e1), .val (.int (x &&& (3 : Int32))), .val (.int (0 : Int32)), .val (.int (1 : Int32)), .val (.ref b103), .unset] [])) (fun _ k => XS.iload X127.here hx rfl (hb hby d_rmT_88) rfl (XS.ifYes X127.here hx rfl (pc0 := 90) (pc' := 98) rfl (hb hby d_rmT_90) rfl ((if0 _ _).trans (feq ((by decide : ¬ ((1 : Int32) = (0 : Int32))) : ¬ ((1 : Int32) = (0 : Int32)))).2) (by decide) (by decide) (XS.iconst X127.here hx rfl (hb hby d_rmT_98) (XS.goto X127.here hx rfl (pc0 := 99) (pc' := 103) rfl (hb hby d_rmT_99) (by decide) (by decide) (XS.istore X127.here hx rfl (hb hby d_rmT_103) rfl (l' := #[.val (.ref u), .val (.int x), .val (.int e1), .val (.int (x &&& (3 : Int32))), .val (.int (0 : Int32)), .val (.int (1 : Int32)), .val (.ref b103), .unset]) rfl k))))) ?_
          refine own_st (q' := T127.setTop (mkF m 185 #[.val (.ref u), .val (.int x), .val (.int e1), .val (.int (x &&& (3 : Int32))), .val (.int (0 : Int32)), .val (.int (1 : Int32)), .val (.ref b103), .unset] [(.ref u)])) (fun _ k => XS.goto X127.here hx rfl (pc0 := 105) (pc' := 184) rfl (hb hby d_rmT_105) (by decide) (by decide) (XS.aloadN X127.here hx rfl (hb hby d_rmT_184) rfl rfl k)) ?_
          refine own_callV (y := (⟨"com/example/rock_dove/rockdove/store/UnitOfWork", "holdsPersistent", "()Z"⟩ : MethodName)) X127 hx hZ hown (wd_37 hw) (wd_38 hw) (wd_40 hw) (wd_39 hw) (wd_2 hw) (wd_41 hw) (by decide) (rmHP l Z a0 hw [] u pp (pr + (0 : Int32)) T127.heap n0 ZZ127 pp127 pr127) (rfl : T127.heap = T127.heap) EU127 (W := 0) (by decide) (by decide) (by decide) (by decide) (g := (mkF m 185 #[.val (.ref u), .val (.int x), .val (.int e1), .val (.int (x &&& (3 : Int32))), .val (.int (0 : Int32)), .val (.int (1 : Int32)), .val (.ref b103), .unset] [(.ref u)])) rfl (by rw [hml]; rfl) (argsL := []) (rest := []) rfl (lenOf pd_8 rfl) rfl (by show 2 * 0 + _ ≤ _; exact Nat.le_of_eq rfl) (hb hby d_rmT_185) ?_
          intro v128 T128 L128 hQ128 X128
          obtain ⟨rfl, NN128, e128⟩ := hQ128
          have N128 := Fr.app N127 NN128
          show own_Dn p e below s (fun v h L => ∃ x y : Int32, v = some (.int (own_hp x y)) ∧ Fr n0 L ∧ n0 ≤ h.size ∧ own_U Z n0 dc h u L1 L2 (k + 1) x y ∧ 0 ≤ x.toInt ∧ x.toInt ≤ ((k + 1 : Nat) : Int) ∧ 0 ≤ y.toInt ∧ y.toInt ≤ ((k + 1 : Nat) : Int) ∧ Sta Z h "java/util/ArrayList" "DEFAULTCAPACITY_EMPTY_ELEMENTDATA" "[Ljava/lang/Object;" (.ref dc) ∧ own_A Z h dc 0) ({ frames := 6, cells := 7, slots := 44, locals := 88 } : Room).cells ({ frames := 6, cells := 7, slots := 44, locals := 88 } : Room).slots (T128.setTop (mkF m 188 #[.val (.ref u), .val (.int x), .val (.int e1), .val (.int (x &&& (3 : Int32))), .val (.int (0 : Int32)), .val (.int (1 : Int32)), .val (.ref b103), .unset] [(.int (own_hp pp (pr + (0 : Int32))))]))
          refine own_st (q' := T128.setTop (mkF m 190 #[.val (.ref u), .val (.int x), .val (.int e1), .val (.int (x &&& (3 : Int32))), .val (.int (0 : Int32)), .val (.int (1 : Int32)), .val (.ref b103), .unset] [(.int (1 : Int32)), (.int (own_hp pp (pr + (0 : Int32))))])) (fun _ k => XS.iload X128.here hx rfl (hb hby d_rmT_188) rfl k) ?_
          have HPF : (own_hp pp (pr + (0 : Int32))) = (1 : Int32) := (by rw [own_add0, ← he]; exact hc21_102)
          refine own_st (q' := T128.setTop (mkF m 205 #[.val (.ref u), .val (.int x), .val (.int e1), .val (.int (x &&& (3 : Int32))), .val (.int (0 : Int32)), .val (.int (1 : Int32)), .val (.ref b103), .unset] [(.int (1 : Int32))])) (fun _ k => XS.icmpYes X128.here hx rfl (pc0 := 190) (pc' := 195) rfl (hb hby d_rmT_190) rfl (teq (HPF : (own_hp pp (pr + (0 : Int32))) = (1 : Int32))).1 (by decide) (by decide) (XS.iload X128.here hx rfl (hb hby d_rmT_195) rfl (XS.ifNo X128.here hx rfl (hb hby d_rmT_197) rfl ((if0 _ _).trans (feq ((by decide : ¬ ((1 : Int32) = (0 : Int32))) : ¬ ((1 : Int32) = (0 : Int32)))).1) (XS.iconst X128.here hx rfl (hb hby d_rmT_200) (XS.goto X128.here hx rfl (pc0 := 201) (pc' := 205) rfl (hb hby d_rmT_201) (by decide) (by decide) k))))) ?_
          exact own_retI X128 hx hlk hret (hb hby d_rmT_205) e128 (by exact ⟨pp, (pr + (0 : Int32)), congrArg (fun z => some (Value.int z)) HPF.symm, N128, ZZ127, UU127, (own_up b1 b2).1, (own_up b1 b2).2, (own_i0 b3 b4).1, (own_i0 b3 b4).2, SS127, AA127⟩) (by decide) (by decide)
        · skip
          have hc79_118I : ¬ ((x &&& (3 : Int32))).toInt = (1 : Int) := own_eqF hc79_118
          refine own_st (q' := T106.setTop (mkF m 110 #[.val (.ref u), .val (.int x), .val (.int e1), .val (.int (x &&& (3 : Int32))), .val (.int (0 : Int32)), .val (.int (1 : Int32)), .val (.ref b103), .unset] [(.int (2 : Int32)), (.int (x &&& (3 : Int32)))])) (fun _ k => XS.icmpYes X106.here hx rfl (pc0 := 79) (pc' := 108) rfl (hb hby d_rmT_79) rfl (feq hc79_118).2 (by decide) (by decide) (XS.iloadN X106.here hx rfl (hb hby d_rmT_108) rfl (XS.iconst X106.here hx rfl (hb hby d_rmT_109) k))) ?_
          by_cases hc110_129 : (x &&& (3 : Int32)) = (2 : Int32)
          · skip
            have hc110_129I : ((x &&& (3 : Int32))).toInt = (2 : Int) := own_eqT hc110_129
            refine own_st (q' := T106.setTop (mkF m 113 #[.val (.ref u), .val (.int x), .val (.int e1), .val (.int (x &&& (3 : Int32))), .val (.int (0 : Int32)), .val (.int (1 : Int32)), .val (.ref b103), .unset] [])) (fun _ k => XS.icmpNo X106.here hx rfl (hb hby d_rmT_110) rfl (teq hc110_129).2 k) ?_
            obtain ⟨T130, h130, X130, e130, E130, A130, D130, -, st130⟩ := newO X106 hx hZ hown (wd_0 hw) (wd_1 hw) (wd_2 hw) (rfl : T106.heap = T106.heap) (g := (mkF m 113 #[.val (.ref u), .val (.int x), .val (.int e1), .val (.int (x &&& (3 : Int32))), .val (.int (0 : Int32)), .val (.int (1 : Int32)), .val (.ref b103), .unset] [])) rfl (hb hby d_rmT_113) (by decide) (by decide)
            obtain ⟨b130, g130⟩ : ∃ z, z = T106.heap.size := ⟨_, rfl⟩
            rw [← g130] at A130 D130 st130
            have f131 := ((EU.ext E103).keep KK106)
            have lt_u_b130 : u < b130 := Nat.lt_of_lt_of_le f131.lt (Nat.le_of_eq g130.symm)
            have f132 := ((HL1.1.ext E103).keep KK106)
            have lt_L1_b130 : L1 < b130 := Nat.lt_of_lt_of_le f132.lt (Nat.le_of_eq g130.symm)
            have f133 := ((HL2.1.ext E103).keep KK106)
            have lt_L2_b130 : L2 < b130 := Nat.lt_of_lt_of_le f133.lt (Nat.le_of_eq g130.symm)
            have lt_dc_b130 : dc < b130 := Nat.lt_of_lt_of_le q106_3.lt (Nat.le_of_eq g130.symm)
            have lt_b103_b130 : b103 < b130 := Nat.lt_of_lt_of_le q106_0.lt (Nat.le_of_eq g130.symm)
            have ge_b130 : n0 ≤ b130 := Nat.le_trans (Nat.le_trans (Nat.le_trans Z0 E103.1) KK106.1) (Nat.le_of_eq g130.symm)
            have F_puts_b130 : Fld Z h130 b130 "com/example/rock_dove/rockdove/store/UnitOfWork" "puts" "Ljava/util/List;" .null := D130 (Or.inr (wd_34 hw)) (ty := (.object "java/util/List")) (by decide)
            have F_removals_b130 : Fld Z h130 b130 "com/example/rock_dove/rockdove/store/UnitOfWork" "removals" "Ljava/util/List;" .null := D130 (Or.inr (wd_36 hw)) (ty := (.object "java/util/List")) (by decide)
            have F_persistentPuts_b130 : Fld Z h130 b130 "com/example/rock_dove/rockdove/store/UnitOfWork" "persistentPuts" "I" (.int (0 : Int32)) := D130 (Or.inl (wd_43 hw)) (ty := .int) (by decide)
            have F_persistentRemovals_b130 : Fld Z h130 b130 "com/example/rock_dove/rockdove/store/UnitOfWork" "persistentRemovals" "I" (.int (0 : Int32)) := D130 (Or.inl (wd_45 hw)) (ty := .int) (by decide)
            have F_id_b130 : Fld Z h130 b130 "com/example/rock_dove/rockdove/store/UnitOfWork" "id" "J" (.long (0 : Int64)) := D130 (Or.inl (wd_133 hw)) (ty := .long) (by decide)
            refine own_st (q' := T130.setTop (mkF m 116 #[.val (.ref u), .val (.int x), .val (.int e1), .val (.int (x &&& (3 : Int32))), .val (.int (0 : Int32)), .val (.int (1 : Int32)), .val (.ref b103), .unset] [(.ref b130)])) st130 ?_
            refine own_st (q' := T130.setTop (mkF m 117 #[.val (.ref u), .val (.int x), .val (.int e1), .val (.int (x &&& (3 : Int32))), .val (.int (0 : Int32)), .val (.int (1 : Int32)), .val (.ref b103), .unset] [(.ref b130), (.ref b130)])) (fun _ k => XS.dup X130.here hx rfl (hb hby d_rmT_116) rfl rfl k) ?_
            have f134 := (q106_2.ext E130)
            have f135 := (q106_3.ext E130)
            refine own_callI (y := (⟨"com/example/rock_dove/rockdove/store/UnitOfWork", "<init>", "()V"⟩ : MethodName)) X130 hx hZ hown rfl (wd_3 hw) (wd_4 hw) (wd_2 hw) (wd_5 hw) (by decide) (rmUI l Z a0 hw [] b130 dc h130 n0 (Nat.le_trans (Nat.le_trans (Nat.le_trans Z0 E103.1) KK106.1) E130.1) A130 ge_b130 F_puts_b130 F_removals_b130 F_persistentPuts_b130 F_persistentRemovals_b130 F_id_b130 f134 f135) e130 (W := 1) (by decide) (by decide) (by decide) (by decide) (g := (mkF m 117 #[.val (.ref u), .val (.int x), .val (.int e1), .val (.int (x &&& (3 : Int32))), .val (.int (0 : Int32)), .val (.int (1 : Int32)), .val (.ref b103), .unset] [(.ref b130), (.ref b130)])) rfl (by rw [hml]; rfl) (a := b130) (argsL := []) (rest := [(.ref b130)]) rfl (lenOf pd_0 rfl) rfl (by show 2 * 0 + _ ≤ _; exact Nat.le_of_eq rfl) (hb hby d_rmT_117) ?_
            intro v136 T136 L136 hQ136 X136
            obtain ⟨x1136, x2136, rfl, NN136, KK136, q136_0, q136_1, q136_2, q136_3, q136_4, q136_5, q136_6, q136_7, q136_8, q136_9, q136_10, q136_11, q136_12⟩ := hQ136
            have f137 := (f132.ext E130)
            have f138 := (f133.ext E130)
            have f139 := (q106_0.ext E130)
            have f140 := (f131.ext E130)
            have N136 := Fr.app N106 NN136
            have FC136 := q136_10
            obtain ⟨EF136, gF136, mF136, fF136, sF136, dF136⟩ := FC136
            show own_Dn p e below s (fun v h L => ∃ x y : Int32, v = some (.int (own_hp x y)) ∧ Fr n0 L ∧ n0 ≤ h.size ∧ own_U Z n0 dc h u L1 L2 (k + 1) x y ∧ 0 ≤ x.toInt ∧ x.toInt ≤ ((k + 1 : Nat) : Int) ∧ 0 ≤ y.toInt ∧ y.toInt ≤ ((k + 1 : Nat) : Int) ∧ Sta Z h "java/util/ArrayList" "DEFAULTCAPACITY_EMPTY_ELEMENTDATA" "[Ljava/lang/Object;" (.ref dc) ∧ own_A Z h dc 0) ({ frames := 6, cells := 7, slots := 44, locals := 88 } : Room).cells ({ frames := 6, cells := 7, slots := 44, locals := 88 } : Room).slots (T136.setTop (mkF m 120 #[.val (.ref u), .val (.int x), .val (.int e1), .val (.int (x &&& (3 : Int32))), .val (.int (0 : Int32)), .val (.int (1 : Int32)), .val (.ref b103), .unset] [(.ref b130)]))
            refine own_st (q' := T136.setTop (mkF m 126 #[.val (.ref u), .val (.int x), .val (.int e1), .val (.int (x &&& (3 : Int32))), .val (.int (0 : Int32)), .val (.int (1 : Int32)), .val (.ref b103), .val (.ref b130)] [(.ref b103), (.ref b130)])) (fun _ k => XS.astore X136.here hx rfl (hb hby d_rmT_120) rfl rfl (l' := #[.val (.ref u), .val (.int x), .val (.int e1), .val (.int (x &&& (3 : Int32))), .val (.int (0 : Int32)), .val (.int (1 : Int32)), .val (.ref b103), .val (.ref b130)]) rfl (XS.aload X136.here hx rfl (hb hby d_rmT_122) rfl rfl (XS.aload X136.here hx rfl (hb hby d_rmT_124) rfl rfl k))) ?_
            have f141 := (f139.keep KK136)
            have f142 := ((q106_1.ext E130).keep KK136 (ninS (Nat.ne_of_lt lt_b103_b130) nin0))
            refine own_callV (y := (⟨"com/example/rock_dove/rockdove/store/UnitOfWork", "addRemoval", "(Lcom/example/rock_dove/rockdove/store/StoredMessage;)V"⟩ : MethodName)) X136 hx hZ hown (wd_134 hw) (wd_135 hw) (wd_137 hw) (wd_136 hw) (wd_2 hw) (wd_138 hw) (by decide) (rmARF0 l Z a0 hw [] b130 x1136 x2136 b103 dc mF136 T136.heap n0 (Nat.le_trans (Nat.le_trans (Nat.le_trans (Nat.le_trans Z0 E103.1) KK106.1) E130.1) KK136.1) q136_3 ge_b130 q136_4 q136_5 q136_6 q136_7 q136_8 EF136 gF136 fF136 sF136 dF136 f141 f142 q136_11 q136_12) (rfl : T136.heap = T136.heap) q136_3 (W := 0) (by decide) (by decide) (by decide) (by decide) (g := (mkF m 126 #[.val (.ref u), .val (.int x), .val (.int e1), .val (.int (x &&& (3 : Int32))), .val (.int (0 : Int32)), .val (.int (1 : Int32)), .val (.ref b103), .val (.ref b130)] [(.ref b103), (.ref b130)])) rfl (by rw [hml]; rfl) (argsL := [(.ref b103)]) (rest := []) rfl (lenOf pd_11 rfl) rfl (by show 2 * 0 + _ ≤ _; exact Nat.le_of_eq rfl) (hb hby d_rmT_126) ?_
            intro v143 T143 L143 hQ143 X143
            obtain ⟨r143, w143, rfl, NN143, KK143, q143_0, q143_1, q143_2, q143_3, q143_4, q143_5, q143_6, q143_7, q143_8, q143_9, q143_10, q143_11, q143_12, q143_13⟩ := hQ143
            have f144 := (f137.keep KK136)
            have f145 := (f138.keep KK136)
            have f146 := (f140.keep KK136)
            have N143 := Fr.app N136 NN143
            show own_Dn p e below s (fun v h L => ∃ x y : Int32, v = some (.int (own_hp x y)) ∧ Fr n0 L ∧ n0 ≤ h.size ∧ own_U Z n0 dc h u L1 L2 (k + 1) x y ∧ 0 ≤ x.toInt ∧ x.toInt ≤ ((k + 1 : Nat) : Int) ∧ 0 ≤ y.toInt ∧ y.toInt ≤ ((k + 1 : Nat) : Int) ∧ Sta Z h "java/util/ArrayList" "DEFAULTCAPACITY_EMPTY_ELEMENTDATA" "[Ljava/lang/Object;" (.ref dc) ∧ own_A Z h dc 0) ({ frames := 6, cells := 7, slots := 44, locals := 88 } : Room).cells ({ frames := 6, cells := 7, slots := 44, locals := 88 } : Room).slots (T143.setTop (mkF m 129 #[.val (.ref u), .val (.int x), .val (.int e1), .val (.int (x &&& (3 : Int32))), .val (.int (0 : Int32)), .val (.int (1 : Int32)), .val (.ref b103), .val (.ref b130)] []))
            refine own_st (q' := T143.setTop (mkF m 131 #[.val (.ref u), .val (.int x), .val (.int e1), .val (.int (x &&& (3 : Int32))), .val (.int (0 : Int32)), .val (.int (1 : Int32)), .val (.ref b103), .val (.ref b130)] [(.ref b130)])) (fun _ k => XS.aload X143.here hx rfl (hb hby d_rmT_129) rfl rfl k) ?_
            refine own_callV (y := (⟨"com/example/rock_dove/rockdove/store/UnitOfWork", "holdsPersistent", "()Z"⟩ : MethodName)) X143 hx hZ hown (wd_37 hw) (wd_38 hw) (wd_40 hw) (wd_39 hw) (wd_2 hw) (wd_41 hw) (by decide) (rmHP l Z a0 hw [] b130 (0 : Int32) (0 : Int32) T143.heap n0 (Nat.le_trans (Nat.le_trans (Nat.le_trans (Nat.le_trans (Nat.le_trans Z0 E103.1) KK106.1) E130.1) KK136.1) KK143.1) q143_4 q143_5) (rfl : T143.heap = T143.heap) q143_1 (W := 0) (by decide) (by decide) (by decide) (by decide) (g := (mkF m 131 #[.val (.ref u), .val (.int x), .val (.int e1), .val (.int (x &&& (3 : Int32))), .val (.int (0 : Int32)), .val (.int (1 : Int32)), .val (.ref b103), .val (.ref b130)] [(.ref b130)])) rfl (by rw [hml]; rfl) (argsL := []) (rest := []) rfl (lenOf pd_8 rfl) rfl (by show 2 * 0 + _ ≤ _; exact Nat.le_of_eq rfl) (hb hby d_rmT_131) ?_
            intro v147 T147 L147 hQ147 X147
            obtain ⟨rfl, NN147, e147⟩ := hQ147
            have N147 := Fr.app N143 NN147
            show own_Dn p e below s (fun v h L => ∃ x y : Int32, v = some (.int (own_hp x y)) ∧ Fr n0 L ∧ n0 ≤ h.size ∧ own_U Z n0 dc h u L1 L2 (k + 1) x y ∧ 0 ≤ x.toInt ∧ x.toInt ≤ ((k + 1 : Nat) : Int) ∧ 0 ≤ y.toInt ∧ y.toInt ≤ ((k + 1 : Nat) : Int) ∧ Sta Z h "java/util/ArrayList" "DEFAULTCAPACITY_EMPTY_ELEMENTDATA" "[Ljava/lang/Object;" (.ref dc) ∧ own_A Z h dc 0) ({ frames := 6, cells := 7, slots := 44, locals := 88 } : Room).cells ({ frames := 6, cells := 7, slots := 44, locals := 88 } : Room).slots (T147.setTop (mkF m 134 #[.val (.ref u), .val (.int x), .val (.int e1), .val (.int (x &&& (3 : Int32))), .val (.int (0 : Int32)), .val (.int (1 : Int32)), .val (.ref b103), .val (.ref b130)] [(.int (own_hp (0 : Int32) (0 : Int32)))]))
            refine own_st (q' := T147.setTop (mkF m 144 #[.val (.ref u), .val (.int x), .val (.int e1), .val (.int (x &&& (3 : Int32))), .val (.int (0 : Int32)), .val (.int (1 : Int32)), .val (.ref b103), .val (.ref b130)] [(.ref b130), (.ref u)])) (fun _ k => XS.iload X147.here hx rfl (hb hby d_rmT_134) rfl (XS.icmpYes X147.here hx rfl (pc0 := 136) (pc' := 141) rfl (hb hby d_rmT_136) rfl (teq (by decide : (own_hp (0 : Int32) (0 : Int32)) = (0 : Int32))).1 (by decide) (by decide) (XS.aloadN X147.here hx rfl (hb hby d_rmT_141) rfl rfl (XS.aload X147.here hx rfl (hb hby d_rmT_142) rfl rfl k)))) ?_
            have f148 := (f146.keep KK143)
            have f149 := (((((U_pu.ext E103).keep KK106 (ninS (Nat.ne_of_lt lt_u_b103) nin0)).ext E130).keep KK136 (ninS (Nat.ne_of_lt lt_u_b130) nin0)).keep KK143 (ninS (Nat.ne_of_lt lt_u_b130) (ninS (Nat.ne_of_lt (Nat.lt_of_lt_of_le f140.lt q136_1)) nin0)))
            have f150 := (((((U_re.ext E103).keep KK106 (ninS (Nat.ne_of_lt lt_u_b103) nin0)).ext E130).keep KK136 (ninS (Nat.ne_of_lt lt_u_b130) nin0)).keep KK143 (ninS (Nat.ne_of_lt lt_u_b130) (ninS (Nat.ne_of_lt (Nat.lt_of_lt_of_le f140.lt q136_1)) nin0)))
            have f151 := (((((U_pp.ext E103).keep KK106 (ninS (Nat.ne_of_lt lt_u_b103) nin0)).ext E130).keep KK136 (ninS (Nat.ne_of_lt lt_u_b130) nin0)).keep KK143 (ninS (Nat.ne_of_lt lt_u_b130) (ninS (Nat.ne_of_lt (Nat.lt_of_lt_of_le f140.lt q136_1)) nin0)))
            have f152 := (((((U_pr.ext E103).keep KK106 (ninS (Nat.ne_of_lt lt_u_b103) nin0)).ext E130).keep KK136 (ninS (Nat.ne_of_lt lt_u_b130) nin0)).keep KK143 (ninS (Nat.ne_of_lt lt_u_b130) (ninS (Nat.ne_of_lt (Nat.lt_of_lt_of_le f140.lt q136_1)) nin0)))
            have f153 := (((((U_id.ext E103).keep KK106 (ninS (Nat.ne_of_lt lt_u_b103) nin0)).ext E130).keep KK136 (ninS (Nat.ne_of_lt lt_u_b130) nin0)).keep KK143 (ninS (Nat.ne_of_lt lt_u_b130) (ninS (Nat.ne_of_lt (Nat.lt_of_lt_of_le f140.lt q136_1)) nin0)))
            have f154 := (((((HL1.ext E103).keep KK106 (ninS (Nat.ne_of_lt lt_L1_b103) nin0)).ext E130).keep KK136 (ninS (Nat.ne_of_lt lt_L1_b130) nin0)).keep KK143 (ninS (Nat.ne_of_lt lt_L1_b130) (ninS (Nat.ne_of_lt (Nat.lt_of_lt_of_le f137.lt q136_1)) nin0)))
            have f155 := (((((HL2.ext E103).keep KK106 (ninS (Nat.ne_of_lt lt_L2_b103) nin0)).ext E130).keep KK136 (ninS (Nat.ne_of_lt lt_L2_b130) nin0)).keep KK143 (ninS (Nat.ne_of_lt lt_L2_b130) (ninS (Nat.ne_of_lt (Nat.lt_of_lt_of_le f138.lt q136_1)) nin0)))
            have f156 := (q136_9.keep KK143 (ninS (Ne.symm (Nat.ne_of_lt (Nat.lt_of_lt_of_le A130.lt q136_0))) (ninS q136_2 nin0)))
            have f157 := (f141.keep KK143)
            refine own_callV (y := (⟨"com/example/rock_dove/rockdove/store/UnitOfWork", "absorb", "(Lcom/example/rock_dove/rockdove/store/UnitOfWork;)V"⟩ : MethodName)) X147 hx hZ hown (wd_139 hw) (wd_140 hw) (wd_142 hw) (wd_141 hw) (wd_2 hw) (wd_143 hw) (by decide) (rmAb0 l Z a0 hw [] u L1 L2 b130 x1136 x2136 b103 dc mir ea1 ea2 r143 k pp pr w143 iD T143.heap n0 (Nat.le_trans (Nat.le_trans (Nat.le_trans (Nat.le_trans (Nat.le_trans Z0 E103.1) KK106.1) E130.1) KK136.1) KK143.1) f148 gU f149 f150 f151 f152 f153 f154 f155 ne12 q143_1 ge_b130 q143_2 q143_3 q143_4 q143_5 q143_6 f156 q143_7 gF136 q143_8 q143_9 q143_10 (Nat.le_trans (Nat.le_trans (Nat.le_trans (Nat.le_trans (Nat.le_trans Z0 E103.1) KK106.1) E130.1) KK136.1) q143_0) (Nat.ne_of_lt lt_u_b130) (Nat.ne_of_lt (Nat.lt_of_lt_of_le f137.lt q136_0)) (Nat.ne_of_lt (Nat.lt_of_lt_of_le f137.lt q136_1)) (Nat.ne_of_lt (Nat.lt_of_lt_of_le f138.lt q136_0)) (Nat.ne_of_lt (Nat.lt_of_lt_of_le f138.lt q136_1)) q136_2 hk q143_11 Mi f157 q143_12 q143_13) e147 f148 (W := 0) (by decide) (by decide) (by decide) (by decide) (g := (mkF m 144 #[.val (.ref u), .val (.int x), .val (.int e1), .val (.int (x &&& (3 : Int32))), .val (.int (0 : Int32)), .val (.int (1 : Int32)), .val (.ref b103), .val (.ref b130)] [(.ref b130), (.ref u)])) rfl (by rw [hml]; rfl) (argsL := [(.ref b130)]) (rest := []) rfl (lenOf pd_12 rfl) rfl (by show 2 * 0 + _ ≤ _; exact Nat.le_of_eq rfl) (hb hby d_rmT_144) ?_
            intro v158 T158 L158 hQ158 X158
            obtain ⟨rfl, NN158, ZZ158, UU158, y158_0, y158_1, y158_2, SS158, AA158⟩ := hQ158
            have N158 := Fr.app N147 NN158
            have UC158 := UU158
            obtain ⟨EU158, -, pu158, re158, pp158, pr158, -⟩ := UC158
            show own_Dn p e below s (fun v h L => ∃ x y : Int32, v = some (.int (own_hp x y)) ∧ Fr n0 L ∧ n0 ≤ h.size ∧ own_U Z n0 dc h u L1 L2 (k + 1) x y ∧ 0 ≤ x.toInt ∧ x.toInt ≤ ((k + 1 : Nat) : Int) ∧ 0 ≤ y.toInt ∧ y.toInt ≤ ((k + 1 : Nat) : Int) ∧ Sta Z h "java/util/ArrayList" "DEFAULTCAPACITY_EMPTY_ELEMENTDATA" "[Ljava/lang/Object;" (.ref dc) ∧ own_A Z h dc 0) ({ frames := 6, cells := 7, slots := 44, locals := 88 } : Room).cells ({ frames := 6, cells := 7, slots := 44, locals := 88 } : Room).slots (T158.setTop (mkF m 147 #[.val (.ref u), .val (.int x), .val (.int e1), .val (.int (x &&& (3 : Int32))), .val (.int (0 : Int32)), .val (.int (1 : Int32)), .val (.ref b103), .val (.ref b130)] []))
            refine own_st (q' := T158.setTop (mkF m 149 #[.val (.ref u), .val (.int x), .val (.int e1), .val (.int (x &&& (3 : Int32))), .val (.int (0 : Int32)), .val (.int (1 : Int32)), .val (.ref b103), .val (.ref b130)] [(.ref b130)])) (fun _ k => XS.aload X158.here hx rfl (hb hby d_rmT_147) rfl rfl k) ?_
            refine own_callV (y := (⟨"com/example/rock_dove/rockdove/store/UnitOfWork", "holdsPersistent", "()Z"⟩ : MethodName)) X158 hx hZ hown (wd_37 hw) (wd_38 hw) (wd_40 hw) (wd_39 hw) (wd_2 hw) (wd_41 hw) (by decide) (rmHP l Z a0 hw [] b130 (0 : Int32) (0 : Int32) T158.heap n0 ZZ158 y158_0 y158_1) (rfl : T158.heap = T158.heap) y158_2 (W := 0) (by decide) (by decide) (by decide) (by decide) (g := (mkF m 149 #[.val (.ref u), .val (.int x), .val (.int e1), .val (.int (x &&& (3 : Int32))), .val (.int (0 : Int32)), .val (.int (1 : Int32)), .val (.ref b103), .val (.ref b130)] [(.ref b130)])) rfl (by rw [hml]; rfl) (argsL := []) (rest := []) rfl (lenOf pd_8 rfl) rfl (by show 2 * 0 + _ ≤ _; exact Nat.le_of_eq rfl) (hb hby d_rmT_149) ?_
            intro v159 T159 L159 hQ159 X159
            obtain ⟨rfl, NN159, e159⟩ := hQ159
            have N159 := Fr.app N158 NN159
            show own_Dn p e below s (fun v h L => ∃ x y : Int32, v = some (.int (own_hp x y)) ∧ Fr n0 L ∧ n0 ≤ h.size ∧ own_U Z n0 dc h u L1 L2 (k + 1) x y ∧ 0 ≤ x.toInt ∧ x.toInt ≤ ((k + 1 : Nat) : Int) ∧ 0 ≤ y.toInt ∧ y.toInt ≤ ((k + 1 : Nat) : Int) ∧ Sta Z h "java/util/ArrayList" "DEFAULTCAPACITY_EMPTY_ELEMENTDATA" "[Ljava/lang/Object;" (.ref dc) ∧ own_A Z h dc 0) ({ frames := 6, cells := 7, slots := 44, locals := 88 } : Room).cells ({ frames := 6, cells := 7, slots := 44, locals := 88 } : Room).slots (T159.setTop (mkF m 152 #[.val (.ref u), .val (.int x), .val (.int e1), .val (.int (x &&& (3 : Int32))), .val (.int (0 : Int32)), .val (.int (1 : Int32)), .val (.ref b103), .val (.ref b130)] [(.int (own_hp (0 : Int32) (0 : Int32)))]))
            refine own_st (q' := T159.setTop (mkF m 172 #[.val (.ref u), .val (.int x), .val (.int e1), .val (.int (x &&& (3 : Int32))), .val (.int (0 : Int32)), .val (.int (1 : Int32)), .val (.ref b103), .val (.ref b130)] [(.int (1 : Int32))])) (fun _ k => XS.ifYes X159.here hx rfl (pc0 := 152) (pc' := 157) rfl (hb hby d_rmT_152) rfl ((if0 _ _).trans (teq (by decide : (own_hp (0 : Int32) (0 : Int32)) = (0 : Int32))).1) (by decide) (by decide) (XS.iload X159.here hx rfl (hb hby d_rmT_157) rfl (XS.ifYes X159.here hx rfl (pc0 := 159) (pc' := 167) rfl (hb hby d_rmT_159) rfl ((if0 _ _).trans (feq ((by decide : ¬ ((1 : Int32) = (0 : Int32))) : ¬ ((1 : Int32) = (0 : Int32)))).2) (by decide) (by decide) (XS.iconst X159.here hx rfl (hb hby d_rmT_167) (XS.goto X159.here hx rfl (pc0 := 168) (pc' := 172) rfl (hb hby d_rmT_168) (by decide) (by decide) k))))) ?_
            refine own_st (q' := T159.setTop (mkF m 185 #[.val (.ref u), .val (.int x), .val (.int e1), .val (.int (x &&& (3 : Int32))), .val (.int (0 : Int32)), .val (.int (1 : Int32)), .val (.ref b103), .val (.ref b130)] [(.ref u)])) (fun _ k => XS.istore X159.here hx rfl (hb hby d_rmT_172) rfl (l' := #[.val (.ref u), .val (.int x), .val (.int e1), .val (.int (x &&& (3 : Int32))), .val (.int (0 : Int32)), .val (.int (1 : Int32)), .val (.ref b103), .val (.ref b130)]) rfl (XS.goto X159.here hx rfl (pc0 := 174) (pc' := 184) rfl (hb hby d_rmT_174) (by decide) (by decide) (XS.aloadN X159.here hx rfl (hb hby d_rmT_184) rfl rfl k))) ?_
            refine own_callV (y := (⟨"com/example/rock_dove/rockdove/store/UnitOfWork", "holdsPersistent", "()Z"⟩ : MethodName)) X159 hx hZ hown (wd_37 hw) (wd_38 hw) (wd_40 hw) (wd_39 hw) (wd_2 hw) (wd_41 hw) (by decide) (rmHP l Z a0 hw [] u pp (pr + (0 : Int32)) T158.heap n0 ZZ158 pp158 pr158) e159 EU158 (W := 0) (by decide) (by decide) (by decide) (by decide) (g := (mkF m 185 #[.val (.ref u), .val (.int x), .val (.int e1), .val (.int (x &&& (3 : Int32))), .val (.int (0 : Int32)), .val (.int (1 : Int32)), .val (.ref b103), .val (.ref b130)] [(.ref u)])) rfl (by rw [hml]; rfl) (argsL := []) (rest := []) rfl (lenOf pd_8 rfl) rfl (by show 2 * 0 + _ ≤ _; exact Nat.le_of_eq rfl) (hb hby d_rmT_185) ?_
            intro v160 T160 L160 hQ160 X160
            obtain ⟨rfl, NN160, e160⟩ := hQ160
            have N160 := Fr.app N159 NN160
            show own_Dn p e below s (fun v h L => ∃ x y : Int32, v = some (.int (own_hp x y)) ∧ Fr n0 L ∧ n0 ≤ h.size ∧ own_U Z n0 dc h u L1 L2 (k + 1) x y ∧ 0 ≤ x.toInt ∧ x.toInt ≤ ((k + 1 : Nat) : Int) ∧ 0 ≤ y.toInt ∧ y.toInt ≤ ((k + 1 : Nat) : Int) ∧ Sta Z h "java/util/ArrayList" "DEFAULTCAPACITY_EMPTY_ELEMENTDATA" "[Ljava/lang/Object;" (.ref dc) ∧ own_A Z h dc 0) ({ frames := 6, cells := 7, slots := 44, locals := 88 } : Room).cells ({ frames := 6, cells := 7, slots := 44, locals := 88 } : Room).slots (T160.setTop (mkF m 188 #[.val (.ref u), .val (.int x), .val (.int e1), .val (.int (x &&& (3 : Int32))), .val (.int (0 : Int32)), .val (.int (1 : Int32)), .val (.ref b103), .val (.ref b130)] [(.int (own_hp pp (pr + (0 : Int32))))]))
            refine own_st (q' := T160.setTop (mkF m 190 #[.val (.ref u), .val (.int x), .val (.int e1), .val (.int (x &&& (3 : Int32))), .val (.int (0 : Int32)), .val (.int (1 : Int32)), .val (.ref b103), .val (.ref b130)] [(.int (1 : Int32)), (.int (own_hp pp (pr + (0 : Int32))))])) (fun _ k => XS.iload X160.here hx rfl (hb hby d_rmT_188) rfl k) ?_
            have HPF : (own_hp pp (pr + (0 : Int32))) = (1 : Int32) := (by rw [own_add0, ← he]; exact hc21_102)
            refine own_st (q' := T160.setTop (mkF m 205 #[.val (.ref u), .val (.int x), .val (.int e1), .val (.int (x &&& (3 : Int32))), .val (.int (0 : Int32)), .val (.int (1 : Int32)), .val (.ref b103), .val (.ref b130)] [(.int (1 : Int32))])) (fun _ k => XS.icmpYes X160.here hx rfl (pc0 := 190) (pc' := 195) rfl (hb hby d_rmT_190) rfl (teq (HPF : (own_hp pp (pr + (0 : Int32))) = (1 : Int32))).1 (by decide) (by decide) (XS.iload X160.here hx rfl (hb hby d_rmT_195) rfl (XS.ifNo X160.here hx rfl (hb hby d_rmT_197) rfl ((if0 _ _).trans (feq ((by decide : ¬ ((1 : Int32) = (0 : Int32))) : ¬ ((1 : Int32) = (0 : Int32)))).1) (XS.iconst X160.here hx rfl (hb hby d_rmT_200) (XS.goto X160.here hx rfl (pc0 := 201) (pc' := 205) rfl (hb hby d_rmT_201) (by decide) (by decide) k))))) ?_
            exact own_retI X160 hx hlk hret (hb hby d_rmT_205) e160 (by exact ⟨pp, (pr + (0 : Int32)), congrArg (fun z => some (Value.int z)) HPF.symm, N160, ZZ158, UU158, (own_up b1 b2).1, (own_up b1 b2).2, (own_i0 b3 b4).1, (own_i0 b3 b4).2, SS158, AA158⟩) (by decide) (by decide)
          · skip
            have hc110_129I : ¬ ((x &&& (3 : Int32))).toInt = (2 : Int) := own_eqF hc110_129
            refine own_st (q' := T106.setTop (mkF m 178 #[.val (.ref u), .val (.int x), .val (.int e1), .val (.int (x &&& (3 : Int32))), .val (.int (0 : Int32)), .val (.int (1 : Int32)), .val (.ref b103), .unset] [(.ref u)])) (fun _ k => XS.icmpYes X106.here hx rfl (pc0 := 110) (pc' := 177) rfl (hb hby d_rmT_110) rfl (feq hc110_129).2 (by decide) (by decide) (XS.aloadN X106.here hx rfl (hb hby d_rmT_177) rfl rfl k)) ?_
            have f161 := ((EU.ext E103).keep KK106)
            have f162 := ((U_pu.ext E103).keep KK106 (ninS (Nat.ne_of_lt lt_u_b103) nin0))
            have f163 := ((U_re.ext E103).keep KK106 (ninS (Nat.ne_of_lt lt_u_b103) nin0))
            have f164 := ((U_pp.ext E103).keep KK106 (ninS (Nat.ne_of_lt lt_u_b103) nin0))
            have f165 := ((U_pr.ext E103).keep KK106 (ninS (Nat.ne_of_lt lt_u_b103) nin0))
            have f166 := ((U_id.ext E103).keep KK106 (ninS (Nat.ne_of_lt lt_u_b103) nin0))
            have f167 := ((HL1.ext E103).keep KK106 (ninS (Nat.ne_of_lt lt_L1_b103) nin0))
            have f168 := ((HL2.ext E103).keep KK106 (ninS (Nat.ne_of_lt lt_L2_b103) nin0))
            refine own_callV (y := (⟨"com/example/rock_dove/rockdove/store/UnitOfWork", "end", "()V"⟩ : MethodName)) X106 hx hZ hown (wd_119 hw) (wd_120 hw) (wd_122 hw) (wd_121 hw) (wd_2 hw) (wd_123 hw) (by decide) (rmEnd l Z a0 hw [] u L1 L2 dc ea1 ea2 k pp pr iD T106.heap n0 (Nat.le_trans (Nat.le_trans Z0 E103.1) KK106.1) f161 gU f162 f163 f164 f165 f166 f167 f168 ne12 (by omega) q106_2 q106_3) (rfl : T106.heap = T106.heap) f161 (W := 0) (by decide) (by decide) (by decide) (by decide) (g := (mkF m 178 #[.val (.ref u), .val (.int x), .val (.int e1), .val (.int (x &&& (3 : Int32))), .val (.int (0 : Int32)), .val (.int (1 : Int32)), .val (.ref b103), .unset] [(.ref u)])) rfl (by rw [hml]; rfl) (argsL := []) (rest := []) rfl (lenOf pd_0 rfl) rfl (by show 2 * 0 + _ ≤ _; exact Nat.le_of_eq rfl) (hb hby d_rmT_178) ?_
            intro v169 T169 L169 hQ169 X169
            obtain ⟨rfl, NN169, KK169, q169_0, q169_1, q169_2, q169_3, q169_4, q169_5, q169_6, q169_7, q169_8, q169_9⟩ := hQ169
            have N169 := Fr.app N106 NN169
            have UU169 : own_U Z n0 dc T169.heap u L1 L2 (k + 1) (0 : Int32) (0 : Int32) := ⟨q169_0, gU, q169_1, q169_2, q169_3, q169_4, ⟨_, q169_5⟩, ⟨_, q169_6.mono (by omega)⟩, ⟨_, q169_7.mono (by omega)⟩⟩
            show own_Dn p e below s (fun v h L => ∃ x y : Int32, v = some (.int (own_hp x y)) ∧ Fr n0 L ∧ n0 ≤ h.size ∧ own_U Z n0 dc h u L1 L2 (k + 1) x y ∧ 0 ≤ x.toInt ∧ x.toInt ≤ ((k + 1 : Nat) : Int) ∧ 0 ≤ y.toInt ∧ y.toInt ≤ ((k + 1 : Nat) : Int) ∧ Sta Z h "java/util/ArrayList" "DEFAULTCAPACITY_EMPTY_ELEMENTDATA" "[Ljava/lang/Object;" (.ref dc) ∧ own_A Z h dc 0) ({ frames := 6, cells := 7, slots := 44, locals := 88 } : Room).cells ({ frames := 6, cells := 7, slots := 44, locals := 88 } : Room).slots (T169.setTop (mkF m 181 #[.val (.ref u), .val (.int x), .val (.int e1), .val (.int (x &&& (3 : Int32))), .val (.int (0 : Int32)), .val (.int (1 : Int32)), .val (.ref b103), .unset] []))
            refine own_st (q' := T169.setTop (mkF m 185 #[.val (.ref u), .val (.int x), .val (.int e1), .val (.int (x &&& (3 : Int32))), .val (.int (0 : Int32)), .val (.int (0 : Int32)), .val (.ref b103), .unset] [(.ref u)])) (fun _ k => XS.iconst X169.here hx rfl (hb hby d_rmT_181) (XS.istore X169.here hx rfl (hb hby d_rmT_182) rfl (l' := #[.val (.ref u), .val (.int x), .val (.int e1), .val (.int (x &&& (3 : Int32))), .val (.int (0 : Int32)), .val (.int (0 : Int32)), .val (.ref b103), .unset]) rfl (XS.aloadN X169.here hx rfl (hb hby d_rmT_184) rfl rfl k))) ?_
            refine own_callV (y := (⟨"com/example/rock_dove/rockdove/store/UnitOfWork", "holdsPersistent", "()Z"⟩ : MethodName)) X169 hx hZ hown (wd_37 hw) (wd_38 hw) (wd_40 hw) (wd_39 hw) (wd_2 hw) (wd_41 hw) (by decide) (rmHP l Z a0 hw [] u (0 : Int32) (0 : Int32) T169.heap n0 (Nat.le_trans (Nat.le_trans (Nat.le_trans Z0 E103.1) KK106.1) KK169.1) q169_3 q169_4) (rfl : T169.heap = T169.heap) q169_0 (W := 0) (by decide) (by decide) (by decide) (by decide) (g := (mkF m 185 #[.val (.ref u), .val (.int x), .val (.int e1), .val (.int (x &&& (3 : Int32))), .val (.int (0 : Int32)), .val (.int (0 : Int32)), .val (.ref b103), .unset] [(.ref u)])) rfl (by rw [hml]; rfl) (argsL := []) (rest := []) rfl (lenOf pd_8 rfl) rfl (by show 2 * 0 + _ ≤ _; exact Nat.le_of_eq rfl) (hb hby d_rmT_185) ?_
            intro v170 T170 L170 hQ170 X170
            obtain ⟨rfl, NN170, e170⟩ := hQ170
            have N170 := Fr.app N169 NN170
            show own_Dn p e below s (fun v h L => ∃ x y : Int32, v = some (.int (own_hp x y)) ∧ Fr n0 L ∧ n0 ≤ h.size ∧ own_U Z n0 dc h u L1 L2 (k + 1) x y ∧ 0 ≤ x.toInt ∧ x.toInt ≤ ((k + 1 : Nat) : Int) ∧ 0 ≤ y.toInt ∧ y.toInt ≤ ((k + 1 : Nat) : Int) ∧ Sta Z h "java/util/ArrayList" "DEFAULTCAPACITY_EMPTY_ELEMENTDATA" "[Ljava/lang/Object;" (.ref dc) ∧ own_A Z h dc 0) ({ frames := 6, cells := 7, slots := 44, locals := 88 } : Room).cells ({ frames := 6, cells := 7, slots := 44, locals := 88 } : Room).slots (T170.setTop (mkF m 188 #[.val (.ref u), .val (.int x), .val (.int e1), .val (.int (x &&& (3 : Int32))), .val (.int (0 : Int32)), .val (.int (0 : Int32)), .val (.ref b103), .unset] [(.int (own_hp (0 : Int32) (0 : Int32)))]))
            refine own_st (q' := T170.setTop (mkF m 190 #[.val (.ref u), .val (.int x), .val (.int e1), .val (.int (x &&& (3 : Int32))), .val (.int (0 : Int32)), .val (.int (0 : Int32)), .val (.ref b103), .unset] [(.int (0 : Int32)), (.int (own_hp (0 : Int32) (0 : Int32)))])) (fun _ k => XS.iload X170.here hx rfl (hb hby d_rmT_188) rfl k) ?_
            have HPF : (own_hp (0 : Int32) (0 : Int32)) = (0 : Int32) := (by decide)
            refine own_st (q' := T170.setTop (mkF m 205 #[.val (.ref u), .val (.int x), .val (.int e1), .val (.int (x &&& (3 : Int32))), .val (.int (0 : Int32)), .val (.int (0 : Int32)), .val (.ref b103), .unset] [(.int (0 : Int32))])) (fun _ k => XS.icmpYes X170.here hx rfl (pc0 := 190) (pc' := 195) rfl (hb hby d_rmT_190) rfl (teq (HPF : (own_hp (0 : Int32) (0 : Int32)) = (0 : Int32))).1 (by decide) (by decide) (XS.iload X170.here hx rfl (hb hby d_rmT_195) rfl (XS.ifYes X170.here hx rfl (pc0 := 197) (pc' := 204) rfl (hb hby d_rmT_197) rfl ((if0 _ _).trans (teq ((by decide : (0 : Int32) = (0 : Int32)) : (0 : Int32) = (0 : Int32))).1) (by decide) (by decide) (XS.iconst X170.here hx rfl (hb hby d_rmT_204) k)))) ?_
            exact own_retI X170 hx hlk hret (hb hby d_rmT_205) e170 (by exact ⟨(0 : Int32), (0 : Int32), congrArg (fun z => some (Value.int z)) HPF.symm, N170, (Nat.le_trans (Nat.le_trans (Nat.le_trans Z0 E103.1) KK106.1) KK169.1), UU169, (own_zu (k + 1)).1, (own_zu (k + 1)).2, (own_zu (k + 1)).1, (own_zu (k + 1)).2, q169_8, q169_9⟩) (by decide) (by decide)
    · skip
      have hc21_102I : ¬ (e1).toInt = (1 : Int) := own_eqF hc21_102
      refine own_st (q' := s₁.setTop (mkF m 31 #[.val (.ref u), .val (.int x), .val (.int e1), .val (.int (x &&& (3 : Int32))), .val (.int (0 : Int32)), .val (.int (0 : Int32)), .unset, .unset] [])) (fun _ k => XS.icmpYes X0.here hx rfl (pc0 := 21) (pc' := 28) rfl (hb hby d_rmT_21) rfl (feq hc21_102).2 (by decide) (by decide) (XS.iconst X0.here hx rfl (hb hby d_rmT_28) (XS.istore X0.here hx rfl (hb hby d_rmT_29) rfl (l' := #[.val (.ref u), .val (.int x), .val (.int e1), .val (.int (x &&& (3 : Int32))), .val (.int (0 : Int32)), .val (.int (0 : Int32)), .unset, .unset]) rfl k))) ?_
      obtain ⟨T171, h171, X171, e171, E171, A171, D171, -, st171⟩ := newO X0 hx hZ hown (wd_50 hw) (wd_51 hw) (wd_52 hw) e0 (g := (mkF m 31 #[.val (.ref u), .val (.int x), .val (.int e1), .val (.int (x &&& (3 : Int32))), .val (.int (0 : Int32)), .val (.int (0 : Int32)), .unset, .unset] [])) rfl (hb hby d_rmT_31) (by decide) (by decide)
      obtain ⟨b171, g171⟩ : ∃ z, z = h0.size := ⟨_, rfl⟩
      rw [← g171] at A171 D171 st171
      have lt_u_b171 : u < b171 := Nat.lt_of_lt_of_le EU.lt (Nat.le_of_eq g171.symm)
      have lt_L1_b171 : L1 < b171 := Nat.lt_of_lt_of_le HL1.1.lt (Nat.le_of_eq g171.symm)
      have lt_L2_b171 : L2 < b171 := Nat.lt_of_lt_of_le HL2.1.lt (Nat.le_of_eq g171.symm)
      have lt_dc_b171 : dc < b171 := Nat.lt_of_lt_of_le A0.lt (Nat.le_of_eq g171.symm)
      have ge_b171 : n0 ≤ b171 := Nat.le_trans Z0 (Nat.le_of_eq g171.symm)
      have F_sequence_b171 : Fld Z h171 b171 "com/example/rock_dove/rockdove/store/StoredMessage" "sequence" "J" (.long (0 : Int64)) := D171 (Or.inr (wd_63 hw)) (ty := .long) (by decide)
      have F_objectId_b171 : Fld Z h171 b171 "com/example/rock_dove/rockdove/store/StoredMessage" "objectId" "I" (.int (0 : Int32)) := D171 (Or.inr (wd_65 hw)) (ty := .int) (by decide)
      have F_persistent_b171 : Fld Z h171 b171 "com/example/rock_dove/rockdove/store/StoredMessage" "persistent" "Z" (.int (0 : Int32)) := D171 (Or.inr (wd_67 hw)) (ty := .boolean) (by decide)
      have F_unit_b171 : Fld Z h171 b171 "com/example/rock_dove/rockdove/store/StoredMessage" "unit" "J" (.long (0 : Int64)) := D171 (Or.inr (wd_69 hw)) (ty := .long) (by decide)
      have F_descriptorLength_b171 : Fld Z h171 b171 "com/example/rock_dove/rockdove/store/StoredMessage" "descriptorLength" "I" (.int (0 : Int32)) := D171 (Or.inr (wd_71 hw)) (ty := .int) (by decide)
      have F_dataLength_b171 : Fld Z h171 b171 "com/example/rock_dove/rockdove/store/StoredMessage" "dataLength" "I" (.int (0 : Int32)) := D171 (Or.inr (wd_73 hw)) (ty := .int) (by decide)
      refine own_st (q' := T171.setTop (mkF m 34 #[.val (.ref u), .val (.int x), .val (.int e1), .val (.int (x &&& (3 : Int32))), .val (.int (0 : Int32)), .val (.int (0 : Int32)), .unset, .unset] [(.ref b171)])) st171 ?_
      refine own_st (q' := T171.setTop (mkF m 40 #[.val (.ref u), .val (.int x), .val (.int e1), .val (.int (x &&& (3 : Int32))), .val (.int (0 : Int32)), .val (.int (0 : Int32)), .unset, .unset] [(.long (0 : Int64)), (.int (0 : Int32)), (.int (0 : Int32)), (.long (1 : Int64)), (.ref b171), (.ref b171)])) (fun _ k => XS.dup X171.here hx rfl (hb hby d_rmT_34) rfl rfl (XS.lconst X171.here hx rfl (hb hby d_rmT_35) (XS.iconst X171.here hx rfl (hb hby d_rmT_36) (XS.iload X171.here hx rfl (hb hby d_rmT_37) rfl (XS.lconst X171.here hx rfl (hb hby d_rmT_39) k))))) ?_
      refine own_st (q' := T171.setTop (mkF m 42 #[.val (.ref u), .val (.int x), .val (.int e1), .val (.int (x &&& (3 : Int32))), .val (.int (0 : Int32)), .val (.int (0 : Int32)), .unset, .unset] [(.int (0 : Int32)), (.int (0 : Int32)), (.long (0 : Int64)), (.int (0 : Int32)), (.int (0 : Int32)), (.long (1 : Int64)), (.ref b171), (.ref b171)])) (fun _ k => XS.iconst X171.here hx rfl (hb hby d_rmT_40) (XS.iconst X171.here hx rfl (hb hby d_rmT_41) k)) ?_
      have f172 := (Fs.ext E171)
      have f173 := (A0.ext E171)
      refine own_callI (y := (⟨"com/example/rock_dove/rockdove/store/StoredMessage", "<init>", "(JIZJII)V"⟩ : MethodName)) X171 hx hZ hown rfl (wd_53 hw) (wd_54 hw) (wd_52 hw) (wd_55 hw) (by decide) (rmSI0 l Z a0 hw [] b171 dc h171 n0 (Nat.le_trans Z0 E171.1) A171 ge_b171 F_sequence_b171 F_objectId_b171 F_persistent_b171 F_unit_b171 F_descriptorLength_b171 F_dataLength_b171 f172 f173) e171 (W := 1) (by decide) (by decide) (by decide) (by decide) (g := (mkF m 42 #[.val (.ref u), .val (.int x), .val (.int e1), .val (.int (x &&& (3 : Int32))), .val (.int (0 : Int32)), .val (.int (0 : Int32)), .unset, .unset] [(.int (0 : Int32)), (.int (0 : Int32)), (.long (0 : Int64)), (.int (0 : Int32)), (.int (0 : Int32)), (.long (1 : Int64)), (.ref b171), (.ref b171)])) rfl (by rw [hml]; rfl) (a := b171) (argsL := [(.long (1 : Int64)), (.int (0 : Int32)), (.int (0 : Int32)), (.long (0 : Int64)), (.int (0 : Int32)), (.int (0 : Int32))]) (rest := [(.ref b171)]) rfl (lenOf pd_10 rfl) rfl (by show 2 * 0 + _ ≤ _; exact Nat.le_of_eq rfl) (hb hby d_rmT_42) ?_
      intro v174 T174 L174 hQ174 X174
      obtain ⟨rfl, NN174, KK174, q174_0, q174_1, q174_2, q174_3⟩ := hQ174
      have N174 := Fr.app N0 NN174
      show own_Dn p e below s (fun v h L => ∃ x y : Int32, v = some (.int (own_hp x y)) ∧ Fr n0 L ∧ n0 ≤ h.size ∧ own_U Z n0 dc h u L1 L2 (k + 1) x y ∧ 0 ≤ x.toInt ∧ x.toInt ≤ ((k + 1 : Nat) : Int) ∧ 0 ≤ y.toInt ∧ y.toInt ≤ ((k + 1 : Nat) : Int) ∧ Sta Z h "java/util/ArrayList" "DEFAULTCAPACITY_EMPTY_ELEMENTDATA" "[Ljava/lang/Object;" (.ref dc) ∧ own_A Z h dc 0) ({ frames := 6, cells := 7, slots := 44, locals := 88 } : Room).cells ({ frames := 6, cells := 7, slots := 44, locals := 88 } : Room).slots (T174.setTop (mkF m 45 #[.val (.ref u), .val (.int x), .val (.int e1), .val (.int (x &&& (3 : Int32))), .val (.int (0 : Int32)), .val (.int (0 : Int32)), .unset, .unset] [(.ref b171)]))
      refine own_st (q' := T174.setTop (mkF m 48 #[.val (.ref u), .val (.int x), .val (.int e1), .val (.int (x &&& (3 : Int32))), .val (.int (0 : Int32)), .val (.int (0 : Int32)), .val (.ref b171), .unset] [(.int (x &&& (3 : Int32)))])) (fun _ k => XS.astore X174.here hx rfl (hb hby d_rmT_45) rfl rfl (l' := #[.val (.ref u), .val (.int x), .val (.int e1), .val (.int (x &&& (3 : Int32))), .val (.int (0 : Int32)), .val (.int (0 : Int32)), .val (.ref b171), .unset]) rfl (XS.iloadN X174.here hx rfl (hb hby d_rmT_47) rfl k)) ?_
      by_cases hc48_175 : (x &&& (3 : Int32)) = (0 : Int32)
      · skip
        have hc48_175I : ((x &&& (3 : Int32))).toInt = (0 : Int) := own_eqT hc48_175
        refine own_st (q' := T174.setTop (mkF m 54 #[.val (.ref u), .val (.int x), .val (.int e1), .val (.int (x &&& (3 : Int32))), .val (.int (0 : Int32)), .val (.int (0 : Int32)), .val (.ref b171), .unset] [(.ref b171), (.ref u)])) (fun _ k => XS.ifNo X174.here hx rfl (hb hby d_rmT_48) rfl ((if0 _ _).trans (teq hc48_175).2) (XS.aloadN X174.here hx rfl (hb hby d_rmT_51) rfl rfl (XS.aload X174.here hx rfl (hb hby d_rmT_52) rfl rfl k))) ?_
        have f176 := ((EU.ext E171).keep KK174)
        have f177 := ((U_pu.ext E171).keep KK174 (ninS (Nat.ne_of_lt lt_u_b171) nin0))
        have f178 := ((U_re.ext E171).keep KK174 (ninS (Nat.ne_of_lt lt_u_b171) nin0))
        have f179 := ((U_pp.ext E171).keep KK174 (ninS (Nat.ne_of_lt lt_u_b171) nin0))
        have f180 := ((U_pr.ext E171).keep KK174 (ninS (Nat.ne_of_lt lt_u_b171) nin0))
        have f181 := ((U_id.ext E171).keep KK174 (ninS (Nat.ne_of_lt lt_u_b171) nin0))
        have f182 := ((HL1.ext E171).keep KK174 (ninS (Nat.ne_of_lt lt_L1_b171) nin0))
        have f183 := ((HL2.ext E171).keep KK174 (ninS (Nat.ne_of_lt lt_L2_b171) nin0))
        refine own_callV (y := (⟨"com/example/rock_dove/rockdove/store/UnitOfWork", "addPut", "(Lcom/example/rock_dove/rockdove/store/StoredMessage;)V"⟩ : MethodName)) X174 hx hZ hown (wd_74 hw) (wd_75 hw) (wd_77 hw) (wd_76 hw) (wd_2 hw) (wd_78 hw) (by decide) (rmAP0 l Z a0 hw [] u L1 L2 b171 dc ea1 ea2 k pp pr iD T174.heap n0 (Nat.le_trans (Nat.le_trans Z0 E171.1) KK174.1) f176 gU f177 f178 f179 f180 f181 f182 f183 ne12 (by omega) q174_0 q174_1 q174_2 q174_3) (rfl : T174.heap = T174.heap) f176 (W := 0) (by decide) (by decide) (by decide) (by decide) (g := (mkF m 54 #[.val (.ref u), .val (.int x), .val (.int e1), .val (.int (x &&& (3 : Int32))), .val (.int (0 : Int32)), .val (.int (0 : Int32)), .val (.ref b171), .unset] [(.ref b171), (.ref u)])) rfl (by rw [hml]; rfl) (argsL := [(.ref b171)]) (rest := []) rfl (lenOf pd_11 rfl) rfl (by show 2 * 0 + _ ≤ _; exact Nat.le_of_eq rfl) (hb hby d_rmT_54) ?_
        intro v184 T184 L184 hQ184 X184
        obtain ⟨rfl, NN184, ZZ184, UU184, SS184, AA184⟩ := hQ184
        have N184 := Fr.app N174 NN184
        have UC184 := UU184
        obtain ⟨EU184, -, pu184, re184, pp184, pr184, -⟩ := UC184
        show own_Dn p e below s (fun v h L => ∃ x y : Int32, v = some (.int (own_hp x y)) ∧ Fr n0 L ∧ n0 ≤ h.size ∧ own_U Z n0 dc h u L1 L2 (k + 1) x y ∧ 0 ≤ x.toInt ∧ x.toInt ≤ ((k + 1 : Nat) : Int) ∧ 0 ≤ y.toInt ∧ y.toInt ≤ ((k + 1 : Nat) : Int) ∧ Sta Z h "java/util/ArrayList" "DEFAULTCAPACITY_EMPTY_ELEMENTDATA" "[Ljava/lang/Object;" (.ref dc) ∧ own_A Z h dc 0) ({ frames := 6, cells := 7, slots := 44, locals := 88 } : Room).cells ({ frames := 6, cells := 7, slots := 44, locals := 88 } : Room).slots (T184.setTop (mkF m 57 #[.val (.ref u), .val (.int x), .val (.int e1), .val (.int (x &&& (3 : Int32))), .val (.int (0 : Int32)), .val (.int (0 : Int32)), .val (.ref b171), .unset] []))
        refine own_st (q' := T184.setTop (mkF m 72 #[.val (.ref u), .val (.int x), .val (.int e1), .val (.int (x &&& (3 : Int32))), .val (.int (0 : Int32)), .val (.int (0 : Int32)), .val (.ref b171), .unset] [(.int (0 : Int32))])) (fun _ k => XS.iload X184.here hx rfl (hb hby d_rmT_57) rfl (XS.ifNo X184.here hx rfl (hb hby d_rmT_59) rfl ((if0 _ _).trans (teq ((by decide : (0 : Int32) = (0 : Int32)) : (0 : Int32) = (0 : Int32))).2) (XS.iload X184.here hx rfl (hb hby d_rmT_62) rfl (XS.ifYes X184.here hx rfl (pc0 := 64) (pc' := 71) rfl (hb hby d_rmT_64) rfl ((if0 _ _).trans (teq ((by decide : (0 : Int32) = (0 : Int32)) : (0 : Int32) = (0 : Int32))).1) (by decide) (by decide) (XS.iconst X184.here hx rfl (hb hby d_rmT_71) k))))) ?_
        refine own_st (q' := T184.setTop (mkF m 185 #[.val (.ref u), .val (.int x), .val (.int e1), .val (.int (x &&& (3 : Int32))), .val (.int (0 : Int32)), .val (.int (0 : Int32)), .val (.ref b171), .unset] [(.ref u)])) (fun _ k => XS.istore X184.here hx rfl (hb hby d_rmT_72) rfl (l' := #[.val (.ref u), .val (.int x), .val (.int e1), .val (.int (x &&& (3 : Int32))), .val (.int (0 : Int32)), .val (.int (0 : Int32)), .val (.ref b171), .unset]) rfl (XS.goto X184.here hx rfl (pc0 := 74) (pc' := 184) rfl (hb hby d_rmT_74) (by decide) (by decide) (XS.aloadN X184.here hx rfl (hb hby d_rmT_184) rfl rfl k))) ?_
        refine own_callV (y := (⟨"com/example/rock_dove/rockdove/store/UnitOfWork", "holdsPersistent", "()Z"⟩ : MethodName)) X184 hx hZ hown (wd_37 hw) (wd_38 hw) (wd_40 hw) (wd_39 hw) (wd_2 hw) (wd_41 hw) (by decide) (rmHP l Z a0 hw [] u (pp + (0 : Int32)) pr T184.heap n0 ZZ184 pp184 pr184) (rfl : T184.heap = T184.heap) EU184 (W := 0) (by decide) (by decide) (by decide) (by decide) (g := (mkF m 185 #[.val (.ref u), .val (.int x), .val (.int e1), .val (.int (x &&& (3 : Int32))), .val (.int (0 : Int32)), .val (.int (0 : Int32)), .val (.ref b171), .unset] [(.ref u)])) rfl (by rw [hml]; rfl) (argsL := []) (rest := []) rfl (lenOf pd_8 rfl) rfl (by show 2 * 0 + _ ≤ _; exact Nat.le_of_eq rfl) (hb hby d_rmT_185) ?_
        intro v185 T185 L185 hQ185 X185
        obtain ⟨rfl, NN185, e185⟩ := hQ185
        have N185 := Fr.app N184 NN185
        show own_Dn p e below s (fun v h L => ∃ x y : Int32, v = some (.int (own_hp x y)) ∧ Fr n0 L ∧ n0 ≤ h.size ∧ own_U Z n0 dc h u L1 L2 (k + 1) x y ∧ 0 ≤ x.toInt ∧ x.toInt ≤ ((k + 1 : Nat) : Int) ∧ 0 ≤ y.toInt ∧ y.toInt ≤ ((k + 1 : Nat) : Int) ∧ Sta Z h "java/util/ArrayList" "DEFAULTCAPACITY_EMPTY_ELEMENTDATA" "[Ljava/lang/Object;" (.ref dc) ∧ own_A Z h dc 0) ({ frames := 6, cells := 7, slots := 44, locals := 88 } : Room).cells ({ frames := 6, cells := 7, slots := 44, locals := 88 } : Room).slots (T185.setTop (mkF m 188 #[.val (.ref u), .val (.int x), .val (.int e1), .val (.int (x &&& (3 : Int32))), .val (.int (0 : Int32)), .val (.int (0 : Int32)), .val (.ref b171), .unset] [(.int (own_hp (pp + (0 : Int32)) pr))]))
        refine own_st (q' := T185.setTop (mkF m 190 #[.val (.ref u), .val (.int x), .val (.int e1), .val (.int (x &&& (3 : Int32))), .val (.int (0 : Int32)), .val (.int (0 : Int32)), .val (.ref b171), .unset] [(.int (0 : Int32)), (.int (own_hp (pp + (0 : Int32)) pr))])) (fun _ k => XS.iload X185.here hx rfl (hb hby d_rmT_188) rfl k) ?_
        have HPF : (own_hp (pp + (0 : Int32)) pr) = (0 : Int32) := (by rw [own_add0]; exact own_hpn (he ▸ hc21_102))
        refine own_st (q' := T185.setTop (mkF m 205 #[.val (.ref u), .val (.int x), .val (.int e1), .val (.int (x &&& (3 : Int32))), .val (.int (0 : Int32)), .val (.int (0 : Int32)), .val (.ref b171), .unset] [(.int (0 : Int32))])) (fun _ k => XS.icmpYes X185.here hx rfl (pc0 := 190) (pc' := 195) rfl (hb hby d_rmT_190) rfl (teq (HPF : (own_hp (pp + (0 : Int32)) pr) = (0 : Int32))).1 (by decide) (by decide) (XS.iload X185.here hx rfl (hb hby d_rmT_195) rfl (XS.ifYes X185.here hx rfl (pc0 := 197) (pc' := 204) rfl (hb hby d_rmT_197) rfl ((if0 _ _).trans (teq ((by decide : (0 : Int32) = (0 : Int32)) : (0 : Int32) = (0 : Int32))).1) (by decide) (by decide) (XS.iconst X185.here hx rfl (hb hby d_rmT_204) k)))) ?_
        exact own_retI X185 hx hlk hret (hb hby d_rmT_205) e185 (by exact ⟨(pp + (0 : Int32)), pr, congrArg (fun z => some (Value.int z)) HPF.symm, N185, ZZ184, UU184, (own_i0 b1 b2).1, (own_i0 b1 b2).2, (own_up b3 b4).1, (own_up b3 b4).2, SS184, AA184⟩) (by decide) (by decide)
      · skip
        have hc48_175I : ¬ ((x &&& (3 : Int32))).toInt = (0 : Int) := own_eqF hc48_175
        refine own_st (q' := T174.setTop (mkF m 79 #[.val (.ref u), .val (.int x), .val (.int e1), .val (.int (x &&& (3 : Int32))), .val (.int (0 : Int32)), .val (.int (0 : Int32)), .val (.ref b171), .unset] [(.int (1 : Int32)), (.int (x &&& (3 : Int32)))])) (fun _ k => XS.ifYes X174.here hx rfl (pc0 := 48) (pc' := 77) rfl (hb hby d_rmT_48) rfl ((if0 _ _).trans (feq hc48_175).2) (by decide) (by decide) (XS.iloadN X174.here hx rfl (hb hby d_rmT_77) rfl (XS.iconst X174.here hx rfl (hb hby d_rmT_78) k))) ?_
        by_cases hc79_186 : (x &&& (3 : Int32)) = (1 : Int32)
        · skip
          have hc79_186I : ((x &&& (3 : Int32))).toInt = (1 : Int) := own_eqT hc79_186
          refine own_st (q' := T174.setTop (mkF m 85 #[.val (.ref u), .val (.int x), .val (.int e1), .val (.int (x &&& (3 : Int32))), .val (.int (0 : Int32)), .val (.int (0 : Int32)), .val (.ref b171), .unset] [(.ref b171), (.ref u)])) (fun _ k => XS.icmpNo X174.here hx rfl (hb hby d_rmT_79) rfl (teq hc79_186).2 (XS.aloadN X174.here hx rfl (hb hby d_rmT_82) rfl rfl (XS.aload X174.here hx rfl (hb hby d_rmT_83) rfl rfl k))) ?_
          have f187 := ((EU.ext E171).keep KK174)
          have f188 := ((U_pu.ext E171).keep KK174 (ninS (Nat.ne_of_lt lt_u_b171) nin0))
          have f189 := ((U_re.ext E171).keep KK174 (ninS (Nat.ne_of_lt lt_u_b171) nin0))
          have f190 := ((U_pp.ext E171).keep KK174 (ninS (Nat.ne_of_lt lt_u_b171) nin0))
          have f191 := ((U_pr.ext E171).keep KK174 (ninS (Nat.ne_of_lt lt_u_b171) nin0))
          have f192 := ((U_id.ext E171).keep KK174 (ninS (Nat.ne_of_lt lt_u_b171) nin0))
          have f193 := ((HL1.ext E171).keep KK174 (ninS (Nat.ne_of_lt lt_L1_b171) nin0))
          have f194 := ((HL2.ext E171).keep KK174 (ninS (Nat.ne_of_lt lt_L2_b171) nin0))
          refine own_callV (y := (⟨"com/example/rock_dove/rockdove/store/UnitOfWork", "addRemoval", "(Lcom/example/rock_dove/rockdove/store/StoredMessage;)V"⟩ : MethodName)) X174 hx hZ hown (wd_134 hw) (wd_135 hw) (wd_137 hw) (wd_136 hw) (wd_2 hw) (wd_138 hw) (by decide) (rmAR0 l Z a0 hw [] u L1 L2 b171 dc ea1 ea2 k pp pr iD T174.heap n0 (Nat.le_trans (Nat.le_trans Z0 E171.1) KK174.1) f187 gU f188 f189 f190 f191 f192 f193 f194 ne12 (by omega) q174_0 q174_1 q174_2 q174_3) (rfl : T174.heap = T174.heap) f187 (W := 0) (by decide) (by decide) (by decide) (by decide) (g := (mkF m 85 #[.val (.ref u), .val (.int x), .val (.int e1), .val (.int (x &&& (3 : Int32))), .val (.int (0 : Int32)), .val (.int (0 : Int32)), .val (.ref b171), .unset] [(.ref b171), (.ref u)])) rfl (by rw [hml]; rfl) (argsL := [(.ref b171)]) (rest := []) rfl (lenOf pd_11 rfl) rfl (by show 2 * 0 + _ ≤ _; exact Nat.le_of_eq rfl) (hb hby d_rmT_85) ?_
          intro v195 T195 L195 hQ195 X195
          obtain ⟨rfl, NN195, ZZ195, UU195, SS195, AA195⟩ := hQ195
          have N195 := Fr.app N174 NN195
          have UC195 := UU195
          obtain ⟨EU195, -, pu195, re195, pp195, pr195, -⟩ := UC195
          show own_Dn p e below s (fun v h L => ∃ x y : Int32, v = some (.int (own_hp x y)) ∧ Fr n0 L ∧ n0 ≤ h.size ∧ own_U Z n0 dc h u L1 L2 (k + 1) x y ∧ 0 ≤ x.toInt ∧ x.toInt ≤ ((k + 1 : Nat) : Int) ∧ 0 ≤ y.toInt ∧ y.toInt ≤ ((k + 1 : Nat) : Int) ∧ Sta Z h "java/util/ArrayList" "DEFAULTCAPACITY_EMPTY_ELEMENTDATA" "[Ljava/lang/Object;" (.ref dc) ∧ own_A Z h dc 0) ({ frames := 6, cells := 7, slots := 44, locals := 88 } : Room).cells ({ frames := 6, cells := 7, slots := 44, locals := 88 } : Room).slots (T195.setTop (mkF m 88 #[.val (.ref u), .val (.int x), .val (.int e1), .val (.int (x &&& (3 : Int32))), .val (.int (0 : Int32)), .val (.int (0 : Int32)), .val (.ref b171), .unset] []))
          refine own_st (q' := T195.setTop (mkF m 103 #[.val (.ref u), .val (.int x), .val (.int e1), .val (.int (x &&& (3 : Int32))), .val (.int (0 : Int32)), .val (.int (0 : Int32)), .val (.ref b171), .unset] [(.int (0 : Int32))])) (fun _ k => XS.iload X195.here hx rfl (hb hby d_rmT_88) rfl (XS.ifNo X195.here hx rfl (hb hby d_rmT_90) rfl ((if0 _ _).trans (teq ((by decide : (0 : Int32) = (0 : Int32)) : (0 : Int32) = (0 : Int32))).2) (XS.iload X195.here hx rfl (hb hby d_rmT_93) rfl (XS.ifYes X195.here hx rfl (pc0 := 95) (pc' := 102) rfl (hb hby d_rmT_95) rfl ((if0 _ _).trans (teq ((by decide : (0 : Int32) = (0 : Int32)) : (0 : Int32) = (0 : Int32))).1) (by decide) (by decide) (XS.iconst X195.here hx rfl (hb hby d_rmT_102) k))))) ?_
          refine own_st (q' := T195.setTop (mkF m 185 #[.val (.ref u), .val (.int x), .val (.int e1), .val (.int (x &&& (3 : Int32))), .val (.int (0 : Int32)), .val (.int (0 : Int32)), .val (.ref b171), .unset] [(.ref u)])) (fun _ k => XS.istore X195.here hx rfl (hb hby d_rmT_103) rfl (l' := #[.val (.ref u), .val (.int x), .val (.int e1), .val (.int (x &&& (3 : Int32))), .val (.int (0 : Int32)), .val (.int (0 : Int32)), .val (.ref b171), .unset]) rfl (XS.goto X195.here hx rfl (pc0 := 105) (pc' := 184) rfl (hb hby d_rmT_105) (by decide) (by decide) (XS.aloadN X195.here hx rfl (hb hby d_rmT_184) rfl rfl k))) ?_
          refine own_callV (y := (⟨"com/example/rock_dove/rockdove/store/UnitOfWork", "holdsPersistent", "()Z"⟩ : MethodName)) X195 hx hZ hown (wd_37 hw) (wd_38 hw) (wd_40 hw) (wd_39 hw) (wd_2 hw) (wd_41 hw) (by decide) (rmHP l Z a0 hw [] u pp (pr + (0 : Int32)) T195.heap n0 ZZ195 pp195 pr195) (rfl : T195.heap = T195.heap) EU195 (W := 0) (by decide) (by decide) (by decide) (by decide) (g := (mkF m 185 #[.val (.ref u), .val (.int x), .val (.int e1), .val (.int (x &&& (3 : Int32))), .val (.int (0 : Int32)), .val (.int (0 : Int32)), .val (.ref b171), .unset] [(.ref u)])) rfl (by rw [hml]; rfl) (argsL := []) (rest := []) rfl (lenOf pd_8 rfl) rfl (by show 2 * 0 + _ ≤ _; exact Nat.le_of_eq rfl) (hb hby d_rmT_185) ?_
          intro v196 T196 L196 hQ196 X196
          obtain ⟨rfl, NN196, e196⟩ := hQ196
          have N196 := Fr.app N195 NN196
          show own_Dn p e below s (fun v h L => ∃ x y : Int32, v = some (.int (own_hp x y)) ∧ Fr n0 L ∧ n0 ≤ h.size ∧ own_U Z n0 dc h u L1 L2 (k + 1) x y ∧ 0 ≤ x.toInt ∧ x.toInt ≤ ((k + 1 : Nat) : Int) ∧ 0 ≤ y.toInt ∧ y.toInt ≤ ((k + 1 : Nat) : Int) ∧ Sta Z h "java/util/ArrayList" "DEFAULTCAPACITY_EMPTY_ELEMENTDATA" "[Ljava/lang/Object;" (.ref dc) ∧ own_A Z h dc 0) ({ frames := 6, cells := 7, slots := 44, locals := 88 } : Room).cells ({ frames := 6, cells := 7, slots := 44, locals := 88 } : Room).slots (T196.setTop (mkF m 188 #[.val (.ref u), .val (.int x), .val (.int e1), .val (.int (x &&& (3 : Int32))), .val (.int (0 : Int32)), .val (.int (0 : Int32)), .val (.ref b171), .unset] [(.int (own_hp pp (pr + (0 : Int32))))]))
          refine own_st (q' := T196.setTop (mkF m 190 #[.val (.ref u), .val (.int x), .val (.int e1), .val (.int (x &&& (3 : Int32))), .val (.int (0 : Int32)), .val (.int (0 : Int32)), .val (.ref b171), .unset] [(.int (0 : Int32)), (.int (own_hp pp (pr + (0 : Int32))))])) (fun _ k => XS.iload X196.here hx rfl (hb hby d_rmT_188) rfl k) ?_
          have HPF : (own_hp pp (pr + (0 : Int32))) = (0 : Int32) := (by rw [own_add0]; exact own_hpn (he ▸ hc21_102))
          refine own_st (q' := T196.setTop (mkF m 205 #[.val (.ref u), .val (.int x), .val (.int e1), .val (.int (x &&& (3 : Int32))), .val (.int (0 : Int32)), .val (.int (0 : Int32)), .val (.ref b171), .unset] [(.int (0 : Int32))])) (fun _ k => XS.icmpYes X196.here hx rfl (pc0 := 190) (pc' := 195) rfl (hb hby d_rmT_190) rfl (teq (HPF : (own_hp pp (pr + (0 : Int32))) = (0 : Int32))).1 (by decide) (by decide) (XS.iload X196.here hx rfl (hb hby d_rmT_195) rfl (XS.ifYes X196.here hx rfl (pc0 := 197) (pc' := 204) rfl (hb hby d_rmT_197) rfl ((if0 _ _).trans (teq ((by decide : (0 : Int32) = (0 : Int32)) : (0 : Int32) = (0 : Int32))).1) (by decide) (by decide) (XS.iconst X196.here hx rfl (hb hby d_rmT_204) k)))) ?_
          exact own_retI X196 hx hlk hret (hb hby d_rmT_205) e196 (by exact ⟨pp, (pr + (0 : Int32)), congrArg (fun z => some (Value.int z)) HPF.symm, N196, ZZ195, UU195, (own_up b1 b2).1, (own_up b1 b2).2, (own_i0 b3 b4).1, (own_i0 b3 b4).2, SS195, AA195⟩) (by decide) (by decide)
        · skip
          have hc79_186I : ¬ ((x &&& (3 : Int32))).toInt = (1 : Int) := own_eqF hc79_186
          refine own_st (q' := T174.setTop (mkF m 110 #[.val (.ref u), .val (.int x), .val (.int e1), .val (.int (x &&& (3 : Int32))), .val (.int (0 : Int32)), .val (.int (0 : Int32)), .val (.ref b171), .unset] [(.int (2 : Int32)), (.int (x &&& (3 : Int32)))])) (fun _ k => XS.icmpYes X174.here hx rfl (pc0 := 79) (pc' := 108) rfl (hb hby d_rmT_79) rfl (feq hc79_186).2 (by decide) (by decide) (XS.iloadN X174.here hx rfl (hb hby d_rmT_108) rfl (XS.iconst X174.here hx rfl (hb hby d_rmT_109) k))) ?_
          by_cases hc110_197 : (x &&& (3 : Int32)) = (2 : Int32)
          · skip
            have hc110_197I : ((x &&& (3 : Int32))).toInt = (2 : Int) := own_eqT hc110_197
            refine own_st (q' := T174.setTop (mkF m 113 #[.val (.ref u), .val (.int x), .val (.int e1), .val (.int (x &&& (3 : Int32))), .val (.int (0 : Int32)), .val (.int (0 : Int32)), .val (.ref b171), .unset] [])) (fun _ k => XS.icmpNo X174.here hx rfl (hb hby d_rmT_110) rfl (teq hc110_197).2 k) ?_
            obtain ⟨T198, h198, X198, e198, E198, A198, D198, -, st198⟩ := newO X174 hx hZ hown (wd_0 hw) (wd_1 hw) (wd_2 hw) (rfl : T174.heap = T174.heap) (g := (mkF m 113 #[.val (.ref u), .val (.int x), .val (.int e1), .val (.int (x &&& (3 : Int32))), .val (.int (0 : Int32)), .val (.int (0 : Int32)), .val (.ref b171), .unset] [])) rfl (hb hby d_rmT_113) (by decide) (by decide)
            obtain ⟨b198, g198⟩ : ∃ z, z = T174.heap.size := ⟨_, rfl⟩
            rw [← g198] at A198 D198 st198
            have f199 := ((EU.ext E171).keep KK174)
            have lt_u_b198 : u < b198 := Nat.lt_of_lt_of_le f199.lt (Nat.le_of_eq g198.symm)
            have f200 := ((HL1.1.ext E171).keep KK174)
            have lt_L1_b198 : L1 < b198 := Nat.lt_of_lt_of_le f200.lt (Nat.le_of_eq g198.symm)
            have f201 := ((HL2.1.ext E171).keep KK174)
            have lt_L2_b198 : L2 < b198 := Nat.lt_of_lt_of_le f201.lt (Nat.le_of_eq g198.symm)
            have lt_dc_b198 : dc < b198 := Nat.lt_of_lt_of_le q174_3.lt (Nat.le_of_eq g198.symm)
            have lt_b171_b198 : b171 < b198 := Nat.lt_of_lt_of_le q174_0.lt (Nat.le_of_eq g198.symm)
            have ge_b198 : n0 ≤ b198 := Nat.le_trans (Nat.le_trans (Nat.le_trans Z0 E171.1) KK174.1) (Nat.le_of_eq g198.symm)
            have F_puts_b198 : Fld Z h198 b198 "com/example/rock_dove/rockdove/store/UnitOfWork" "puts" "Ljava/util/List;" .null := D198 (Or.inr (wd_34 hw)) (ty := (.object "java/util/List")) (by decide)
            have F_removals_b198 : Fld Z h198 b198 "com/example/rock_dove/rockdove/store/UnitOfWork" "removals" "Ljava/util/List;" .null := D198 (Or.inr (wd_36 hw)) (ty := (.object "java/util/List")) (by decide)
            have F_persistentPuts_b198 : Fld Z h198 b198 "com/example/rock_dove/rockdove/store/UnitOfWork" "persistentPuts" "I" (.int (0 : Int32)) := D198 (Or.inl (wd_43 hw)) (ty := .int) (by decide)
            have F_persistentRemovals_b198 : Fld Z h198 b198 "com/example/rock_dove/rockdove/store/UnitOfWork" "persistentRemovals" "I" (.int (0 : Int32)) := D198 (Or.inl (wd_45 hw)) (ty := .int) (by decide)
            have F_id_b198 : Fld Z h198 b198 "com/example/rock_dove/rockdove/store/UnitOfWork" "id" "J" (.long (0 : Int64)) := D198 (Or.inl (wd_133 hw)) (ty := .long) (by decide)
            refine own_st (q' := T198.setTop (mkF m 116 #[.val (.ref u), .val (.int x), .val (.int e1), .val (.int (x &&& (3 : Int32))), .val (.int (0 : Int32)), .val (.int (0 : Int32)), .val (.ref b171), .unset] [(.ref b198)])) st198 ?_
            refine own_st (q' := T198.setTop (mkF m 117 #[.val (.ref u), .val (.int x), .val (.int e1), .val (.int (x &&& (3 : Int32))), .val (.int (0 : Int32)), .val (.int (0 : Int32)), .val (.ref b171), .unset] [(.ref b198), (.ref b198)])) (fun _ k => XS.dup X198.here hx rfl (hb hby d_rmT_116) rfl rfl k) ?_
            have f202 := (q174_2.ext E198)
            have f203 := (q174_3.ext E198)
            refine own_callI (y := (⟨"com/example/rock_dove/rockdove/store/UnitOfWork", "<init>", "()V"⟩ : MethodName)) X198 hx hZ hown rfl (wd_3 hw) (wd_4 hw) (wd_2 hw) (wd_5 hw) (by decide) (rmUI l Z a0 hw [] b198 dc h198 n0 (Nat.le_trans (Nat.le_trans (Nat.le_trans Z0 E171.1) KK174.1) E198.1) A198 ge_b198 F_puts_b198 F_removals_b198 F_persistentPuts_b198 F_persistentRemovals_b198 F_id_b198 f202 f203) e198 (W := 1) (by decide) (by decide) (by decide) (by decide) (g := (mkF m 117 #[.val (.ref u), .val (.int x), .val (.int e1), .val (.int (x &&& (3 : Int32))), .val (.int (0 : Int32)), .val (.int (0 : Int32)), .val (.ref b171), .unset] [(.ref b198), (.ref b198)])) rfl (by rw [hml]; rfl) (a := b198) (argsL := []) (rest := [(.ref b198)]) rfl (lenOf pd_0 rfl) rfl (by show 2 * 0 + _ ≤ _; exact Nat.le_of_eq rfl) (hb hby d_rmT_117) ?_
            intro v204 T204 L204 hQ204 X204
            obtain ⟨x1204, x2204, rfl, NN204, KK204, q204_0, q204_1, q204_2, q204_3, q204_4, q204_5, q204_6, q204_7, q204_8, q204_9, q204_10, q204_11, q204_12⟩ := hQ204
            have f205 := (f200.ext E198)
            have f206 := (f201.ext E198)
            have f207 := (q174_0.ext E198)
            have f208 := (f199.ext E198)
            have N204 := Fr.app N174 NN204
            have FC204 := q204_10
            obtain ⟨EF204, gF204, mF204, fF204, sF204, dF204⟩ := FC204
            show own_Dn p e below s (fun v h L => ∃ x y : Int32, v = some (.int (own_hp x y)) ∧ Fr n0 L ∧ n0 ≤ h.size ∧ own_U Z n0 dc h u L1 L2 (k + 1) x y ∧ 0 ≤ x.toInt ∧ x.toInt ≤ ((k + 1 : Nat) : Int) ∧ 0 ≤ y.toInt ∧ y.toInt ≤ ((k + 1 : Nat) : Int) ∧ Sta Z h "java/util/ArrayList" "DEFAULTCAPACITY_EMPTY_ELEMENTDATA" "[Ljava/lang/Object;" (.ref dc) ∧ own_A Z h dc 0) ({ frames := 6, cells := 7, slots := 44, locals := 88 } : Room).cells ({ frames := 6, cells := 7, slots := 44, locals := 88 } : Room).slots (T204.setTop (mkF m 120 #[.val (.ref u), .val (.int x), .val (.int e1), .val (.int (x &&& (3 : Int32))), .val (.int (0 : Int32)), .val (.int (0 : Int32)), .val (.ref b171), .unset] [(.ref b198)]))
            refine own_st (q' := T204.setTop (mkF m 126 #[.val (.ref u), .val (.int x), .val (.int e1), .val (.int (x &&& (3 : Int32))), .val (.int (0 : Int32)), .val (.int (0 : Int32)), .val (.ref b171), .val (.ref b198)] [(.ref b171), (.ref b198)])) (fun _ k => XS.astore X204.here hx rfl (hb hby d_rmT_120) rfl rfl (l' := #[.val (.ref u), .val (.int x), .val (.int e1), .val (.int (x &&& (3 : Int32))), .val (.int (0 : Int32)), .val (.int (0 : Int32)), .val (.ref b171), .val (.ref b198)]) rfl (XS.aload X204.here hx rfl (hb hby d_rmT_122) rfl rfl (XS.aload X204.here hx rfl (hb hby d_rmT_124) rfl rfl k))) ?_
            have f209 := (f207.keep KK204)
            have f210 := ((q174_1.ext E198).keep KK204 (ninS (Nat.ne_of_lt lt_b171_b198) nin0))
            refine own_callV (y := (⟨"com/example/rock_dove/rockdove/store/UnitOfWork", "addRemoval", "(Lcom/example/rock_dove/rockdove/store/StoredMessage;)V"⟩ : MethodName)) X204 hx hZ hown (wd_134 hw) (wd_135 hw) (wd_137 hw) (wd_136 hw) (wd_2 hw) (wd_138 hw) (by decide) (rmARF0 l Z a0 hw [] b198 x1204 x2204 b171 dc mF204 T204.heap n0 (Nat.le_trans (Nat.le_trans (Nat.le_trans (Nat.le_trans Z0 E171.1) KK174.1) E198.1) KK204.1) q204_3 ge_b198 q204_4 q204_5 q204_6 q204_7 q204_8 EF204 gF204 fF204 sF204 dF204 f209 f210 q204_11 q204_12) (rfl : T204.heap = T204.heap) q204_3 (W := 0) (by decide) (by decide) (by decide) (by decide) (g := (mkF m 126 #[.val (.ref u), .val (.int x), .val (.int e1), .val (.int (x &&& (3 : Int32))), .val (.int (0 : Int32)), .val (.int (0 : Int32)), .val (.ref b171), .val (.ref b198)] [(.ref b171), (.ref b198)])) rfl (by rw [hml]; rfl) (argsL := [(.ref b171)]) (rest := []) rfl (lenOf pd_11 rfl) rfl (by show 2 * 0 + _ ≤ _; exact Nat.le_of_eq rfl) (hb hby d_rmT_126) ?_
            intro v211 T211 L211 hQ211 X211
            obtain ⟨r211, w211, rfl, NN211, KK211, q211_0, q211_1, q211_2, q211_3, q211_4, q211_5, q211_6, q211_7, q211_8, q211_9, q211_10, q211_11, q211_12, q211_13⟩ := hQ211
            have f212 := (f205.keep KK204)
            have f213 := (f206.keep KK204)
            have f214 := (f208.keep KK204)
            have N211 := Fr.app N204 NN211
            show own_Dn p e below s (fun v h L => ∃ x y : Int32, v = some (.int (own_hp x y)) ∧ Fr n0 L ∧ n0 ≤ h.size ∧ own_U Z n0 dc h u L1 L2 (k + 1) x y ∧ 0 ≤ x.toInt ∧ x.toInt ≤ ((k + 1 : Nat) : Int) ∧ 0 ≤ y.toInt ∧ y.toInt ≤ ((k + 1 : Nat) : Int) ∧ Sta Z h "java/util/ArrayList" "DEFAULTCAPACITY_EMPTY_ELEMENTDATA" "[Ljava/lang/Object;" (.ref dc) ∧ own_A Z h dc 0) ({ frames := 6, cells := 7, slots := 44, locals := 88 } : Room).cells ({ frames := 6, cells := 7, slots := 44, locals := 88 } : Room).slots (T211.setTop (mkF m 129 #[.val (.ref u), .val (.int x), .val (.int e1), .val (.int (x &&& (3 : Int32))), .val (.int (0 : Int32)), .val (.int (0 : Int32)), .val (.ref b171), .val (.ref b198)] []))
            refine own_st (q' := T211.setTop (mkF m 131 #[.val (.ref u), .val (.int x), .val (.int e1), .val (.int (x &&& (3 : Int32))), .val (.int (0 : Int32)), .val (.int (0 : Int32)), .val (.ref b171), .val (.ref b198)] [(.ref b198)])) (fun _ k => XS.aload X211.here hx rfl (hb hby d_rmT_129) rfl rfl k) ?_
            refine own_callV (y := (⟨"com/example/rock_dove/rockdove/store/UnitOfWork", "holdsPersistent", "()Z"⟩ : MethodName)) X211 hx hZ hown (wd_37 hw) (wd_38 hw) (wd_40 hw) (wd_39 hw) (wd_2 hw) (wd_41 hw) (by decide) (rmHP l Z a0 hw [] b198 (0 : Int32) (0 : Int32) T211.heap n0 (Nat.le_trans (Nat.le_trans (Nat.le_trans (Nat.le_trans (Nat.le_trans Z0 E171.1) KK174.1) E198.1) KK204.1) KK211.1) q211_4 q211_5) (rfl : T211.heap = T211.heap) q211_1 (W := 0) (by decide) (by decide) (by decide) (by decide) (g := (mkF m 131 #[.val (.ref u), .val (.int x), .val (.int e1), .val (.int (x &&& (3 : Int32))), .val (.int (0 : Int32)), .val (.int (0 : Int32)), .val (.ref b171), .val (.ref b198)] [(.ref b198)])) rfl (by rw [hml]; rfl) (argsL := []) (rest := []) rfl (lenOf pd_8 rfl) rfl (by show 2 * 0 + _ ≤ _; exact Nat.le_of_eq rfl) (hb hby d_rmT_131) ?_
            intro v215 T215 L215 hQ215 X215
            obtain ⟨rfl, NN215, e215⟩ := hQ215
            have N215 := Fr.app N211 NN215
            show own_Dn p e below s (fun v h L => ∃ x y : Int32, v = some (.int (own_hp x y)) ∧ Fr n0 L ∧ n0 ≤ h.size ∧ own_U Z n0 dc h u L1 L2 (k + 1) x y ∧ 0 ≤ x.toInt ∧ x.toInt ≤ ((k + 1 : Nat) : Int) ∧ 0 ≤ y.toInt ∧ y.toInt ≤ ((k + 1 : Nat) : Int) ∧ Sta Z h "java/util/ArrayList" "DEFAULTCAPACITY_EMPTY_ELEMENTDATA" "[Ljava/lang/Object;" (.ref dc) ∧ own_A Z h dc 0) ({ frames := 6, cells := 7, slots := 44, locals := 88 } : Room).cells ({ frames := 6, cells := 7, slots := 44, locals := 88 } : Room).slots (T215.setTop (mkF m 134 #[.val (.ref u), .val (.int x), .val (.int e1), .val (.int (x &&& (3 : Int32))), .val (.int (0 : Int32)), .val (.int (0 : Int32)), .val (.ref b171), .val (.ref b198)] [(.int (own_hp (0 : Int32) (0 : Int32)))]))
            refine own_st (q' := T215.setTop (mkF m 144 #[.val (.ref u), .val (.int x), .val (.int e1), .val (.int (x &&& (3 : Int32))), .val (.int (0 : Int32)), .val (.int (0 : Int32)), .val (.ref b171), .val (.ref b198)] [(.ref b198), (.ref u)])) (fun _ k => XS.iload X215.here hx rfl (hb hby d_rmT_134) rfl (XS.icmpYes X215.here hx rfl (pc0 := 136) (pc' := 141) rfl (hb hby d_rmT_136) rfl (teq (by decide : (own_hp (0 : Int32) (0 : Int32)) = (0 : Int32))).1 (by decide) (by decide) (XS.aloadN X215.here hx rfl (hb hby d_rmT_141) rfl rfl (XS.aload X215.here hx rfl (hb hby d_rmT_142) rfl rfl k)))) ?_
            have f216 := (f214.keep KK211)
            have f217 := (((((U_pu.ext E171).keep KK174 (ninS (Nat.ne_of_lt lt_u_b171) nin0)).ext E198).keep KK204 (ninS (Nat.ne_of_lt lt_u_b198) nin0)).keep KK211 (ninS (Nat.ne_of_lt lt_u_b198) (ninS (Nat.ne_of_lt (Nat.lt_of_lt_of_le f208.lt q204_1)) nin0)))
            have f218 := (((((U_re.ext E171).keep KK174 (ninS (Nat.ne_of_lt lt_u_b171) nin0)).ext E198).keep KK204 (ninS (Nat.ne_of_lt lt_u_b198) nin0)).keep KK211 (ninS (Nat.ne_of_lt lt_u_b198) (ninS (Nat.ne_of_lt (Nat.lt_of_lt_of_le f208.lt q204_1)) nin0)))
            have f219 := (((((U_pp.ext E171).keep KK174 (ninS (Nat.ne_of_lt lt_u_b171) nin0)).ext E198).keep KK204 (ninS (Nat.ne_of_lt lt_u_b198) nin0)).keep KK211 (ninS (Nat.ne_of_lt lt_u_b198) (ninS (Nat.ne_of_lt (Nat.lt_of_lt_of_le f208.lt q204_1)) nin0)))
            have f220 := (((((U_pr.ext E171).keep KK174 (ninS (Nat.ne_of_lt lt_u_b171) nin0)).ext E198).keep KK204 (ninS (Nat.ne_of_lt lt_u_b198) nin0)).keep KK211 (ninS (Nat.ne_of_lt lt_u_b198) (ninS (Nat.ne_of_lt (Nat.lt_of_lt_of_le f208.lt q204_1)) nin0)))
            have f221 := (((((U_id.ext E171).keep KK174 (ninS (Nat.ne_of_lt lt_u_b171) nin0)).ext E198).keep KK204 (ninS (Nat.ne_of_lt lt_u_b198) nin0)).keep KK211 (ninS (Nat.ne_of_lt lt_u_b198) (ninS (Nat.ne_of_lt (Nat.lt_of_lt_of_le f208.lt q204_1)) nin0)))
            have f222 := (((((HL1.ext E171).keep KK174 (ninS (Nat.ne_of_lt lt_L1_b171) nin0)).ext E198).keep KK204 (ninS (Nat.ne_of_lt lt_L1_b198) nin0)).keep KK211 (ninS (Nat.ne_of_lt lt_L1_b198) (ninS (Nat.ne_of_lt (Nat.lt_of_lt_of_le f205.lt q204_1)) nin0)))
            have f223 := (((((HL2.ext E171).keep KK174 (ninS (Nat.ne_of_lt lt_L2_b171) nin0)).ext E198).keep KK204 (ninS (Nat.ne_of_lt lt_L2_b198) nin0)).keep KK211 (ninS (Nat.ne_of_lt lt_L2_b198) (ninS (Nat.ne_of_lt (Nat.lt_of_lt_of_le f206.lt q204_1)) nin0)))
            have f224 := (q204_9.keep KK211 (ninS (Ne.symm (Nat.ne_of_lt (Nat.lt_of_lt_of_le A198.lt q204_0))) (ninS q204_2 nin0)))
            have f225 := (f209.keep KK211)
            refine own_callV (y := (⟨"com/example/rock_dove/rockdove/store/UnitOfWork", "absorb", "(Lcom/example/rock_dove/rockdove/store/UnitOfWork;)V"⟩ : MethodName)) X215 hx hZ hown (wd_139 hw) (wd_140 hw) (wd_142 hw) (wd_141 hw) (wd_2 hw) (wd_143 hw) (by decide) (rmAb0 l Z a0 hw [] u L1 L2 b198 x1204 x2204 b171 dc mir ea1 ea2 r211 k pp pr w211 iD T211.heap n0 (Nat.le_trans (Nat.le_trans (Nat.le_trans (Nat.le_trans (Nat.le_trans Z0 E171.1) KK174.1) E198.1) KK204.1) KK211.1) f216 gU f217 f218 f219 f220 f221 f222 f223 ne12 q211_1 ge_b198 q211_2 q211_3 q211_4 q211_5 q211_6 f224 q211_7 gF204 q211_8 q211_9 q211_10 (Nat.le_trans (Nat.le_trans (Nat.le_trans (Nat.le_trans (Nat.le_trans Z0 E171.1) KK174.1) E198.1) KK204.1) q211_0) (Nat.ne_of_lt lt_u_b198) (Nat.ne_of_lt (Nat.lt_of_lt_of_le f205.lt q204_0)) (Nat.ne_of_lt (Nat.lt_of_lt_of_le f205.lt q204_1)) (Nat.ne_of_lt (Nat.lt_of_lt_of_le f206.lt q204_0)) (Nat.ne_of_lt (Nat.lt_of_lt_of_le f206.lt q204_1)) q204_2 hk q211_11 Mi f225 q211_12 q211_13) e215 f216 (W := 0) (by decide) (by decide) (by decide) (by decide) (g := (mkF m 144 #[.val (.ref u), .val (.int x), .val (.int e1), .val (.int (x &&& (3 : Int32))), .val (.int (0 : Int32)), .val (.int (0 : Int32)), .val (.ref b171), .val (.ref b198)] [(.ref b198), (.ref u)])) rfl (by rw [hml]; rfl) (argsL := [(.ref b198)]) (rest := []) rfl (lenOf pd_12 rfl) rfl (by show 2 * 0 + _ ≤ _; exact Nat.le_of_eq rfl) (hb hby d_rmT_144) ?_
            intro v226 T226 L226 hQ226 X226
            obtain ⟨rfl, NN226, ZZ226, UU226, y226_0, y226_1, y226_2, SS226, AA226⟩ := hQ226
            have N226 := Fr.app N215 NN226
            have UC226 := UU226
            obtain ⟨EU226, -, pu226, re226, pp226, pr226, -⟩ := UC226
            show own_Dn p e below s (fun v h L => ∃ x y : Int32, v = some (.int (own_hp x y)) ∧ Fr n0 L ∧ n0 ≤ h.size ∧ own_U Z n0 dc h u L1 L2 (k + 1) x y ∧ 0 ≤ x.toInt ∧ x.toInt ≤ ((k + 1 : Nat) : Int) ∧ 0 ≤ y.toInt ∧ y.toInt ≤ ((k + 1 : Nat) : Int) ∧ Sta Z h "java/util/ArrayList" "DEFAULTCAPACITY_EMPTY_ELEMENTDATA" "[Ljava/lang/Object;" (.ref dc) ∧ own_A Z h dc 0) ({ frames := 6, cells := 7, slots := 44, locals := 88 } : Room).cells ({ frames := 6, cells := 7, slots := 44, locals := 88 } : Room).slots (T226.setTop (mkF m 147 #[.val (.ref u), .val (.int x), .val (.int e1), .val (.int (x &&& (3 : Int32))), .val (.int (0 : Int32)), .val (.int (0 : Int32)), .val (.ref b171), .val (.ref b198)] []))
            refine own_st (q' := T226.setTop (mkF m 149 #[.val (.ref u), .val (.int x), .val (.int e1), .val (.int (x &&& (3 : Int32))), .val (.int (0 : Int32)), .val (.int (0 : Int32)), .val (.ref b171), .val (.ref b198)] [(.ref b198)])) (fun _ k => XS.aload X226.here hx rfl (hb hby d_rmT_147) rfl rfl k) ?_
            refine own_callV (y := (⟨"com/example/rock_dove/rockdove/store/UnitOfWork", "holdsPersistent", "()Z"⟩ : MethodName)) X226 hx hZ hown (wd_37 hw) (wd_38 hw) (wd_40 hw) (wd_39 hw) (wd_2 hw) (wd_41 hw) (by decide) (rmHP l Z a0 hw [] b198 (0 : Int32) (0 : Int32) T226.heap n0 ZZ226 y226_0 y226_1) (rfl : T226.heap = T226.heap) y226_2 (W := 0) (by decide) (by decide) (by decide) (by decide) (g := (mkF m 149 #[.val (.ref u), .val (.int x), .val (.int e1), .val (.int (x &&& (3 : Int32))), .val (.int (0 : Int32)), .val (.int (0 : Int32)), .val (.ref b171), .val (.ref b198)] [(.ref b198)])) rfl (by rw [hml]; rfl) (argsL := []) (rest := []) rfl (lenOf pd_8 rfl) rfl (by show 2 * 0 + _ ≤ _; exact Nat.le_of_eq rfl) (hb hby d_rmT_149) ?_
            intro v227 T227 L227 hQ227 X227
            obtain ⟨rfl, NN227, e227⟩ := hQ227
            have N227 := Fr.app N226 NN227
            show own_Dn p e below s (fun v h L => ∃ x y : Int32, v = some (.int (own_hp x y)) ∧ Fr n0 L ∧ n0 ≤ h.size ∧ own_U Z n0 dc h u L1 L2 (k + 1) x y ∧ 0 ≤ x.toInt ∧ x.toInt ≤ ((k + 1 : Nat) : Int) ∧ 0 ≤ y.toInt ∧ y.toInt ≤ ((k + 1 : Nat) : Int) ∧ Sta Z h "java/util/ArrayList" "DEFAULTCAPACITY_EMPTY_ELEMENTDATA" "[Ljava/lang/Object;" (.ref dc) ∧ own_A Z h dc 0) ({ frames := 6, cells := 7, slots := 44, locals := 88 } : Room).cells ({ frames := 6, cells := 7, slots := 44, locals := 88 } : Room).slots (T227.setTop (mkF m 152 #[.val (.ref u), .val (.int x), .val (.int e1), .val (.int (x &&& (3 : Int32))), .val (.int (0 : Int32)), .val (.int (0 : Int32)), .val (.ref b171), .val (.ref b198)] [(.int (own_hp (0 : Int32) (0 : Int32)))]))
            refine own_st (q' := T227.setTop (mkF m 171 #[.val (.ref u), .val (.int x), .val (.int e1), .val (.int (x &&& (3 : Int32))), .val (.int (0 : Int32)), .val (.int (0 : Int32)), .val (.ref b171), .val (.ref b198)] [])) (fun _ k => XS.ifYes X227.here hx rfl (pc0 := 152) (pc' := 157) rfl (hb hby d_rmT_152) rfl ((if0 _ _).trans (teq (by decide : (own_hp (0 : Int32) (0 : Int32)) = (0 : Int32))).1) (by decide) (by decide) (XS.iload X227.here hx rfl (hb hby d_rmT_157) rfl (XS.ifNo X227.here hx rfl (hb hby d_rmT_159) rfl ((if0 _ _).trans (teq ((by decide : (0 : Int32) = (0 : Int32)) : (0 : Int32) = (0 : Int32))).2) (XS.iload X227.here hx rfl (hb hby d_rmT_162) rfl (XS.ifYes X227.here hx rfl (pc0 := 164) (pc' := 171) rfl (hb hby d_rmT_164) rfl ((if0 _ _).trans (teq ((by decide : (0 : Int32) = (0 : Int32)) : (0 : Int32) = (0 : Int32))).1) (by decide) (by decide) k))))) ?_
            refine own_st (q' := T227.setTop (mkF m 185 #[.val (.ref u), .val (.int x), .val (.int e1), .val (.int (x &&& (3 : Int32))), .val (.int (0 : Int32)), .val (.int (0 : Int32)), .val (.ref b171), .val (.ref b198)] [(.ref u)])) (fun _ k => XS.iconst X227.here hx rfl (hb hby d_rmT_171) (XS.istore X227.here hx rfl (hb hby d_rmT_172) rfl (l' := #[.val (.ref u), .val (.int x), .val (.int e1), .val (.int (x &&& (3 : Int32))), .val (.int (0 : Int32)), .val (.int (0 : Int32)), .val (.ref b171), .val (.ref b198)]) rfl (XS.goto X227.here hx rfl (pc0 := 174) (pc' := 184) rfl (hb hby d_rmT_174) (by decide) (by decide) (XS.aloadN X227.here hx rfl (hb hby d_rmT_184) rfl rfl k)))) ?_
            refine own_callV (y := (⟨"com/example/rock_dove/rockdove/store/UnitOfWork", "holdsPersistent", "()Z"⟩ : MethodName)) X227 hx hZ hown (wd_37 hw) (wd_38 hw) (wd_40 hw) (wd_39 hw) (wd_2 hw) (wd_41 hw) (by decide) (rmHP l Z a0 hw [] u pp (pr + (0 : Int32)) T226.heap n0 ZZ226 pp226 pr226) e227 EU226 (W := 0) (by decide) (by decide) (by decide) (by decide) (g := (mkF m 185 #[.val (.ref u), .val (.int x), .val (.int e1), .val (.int (x &&& (3 : Int32))), .val (.int (0 : Int32)), .val (.int (0 : Int32)), .val (.ref b171), .val (.ref b198)] [(.ref u)])) rfl (by rw [hml]; rfl) (argsL := []) (rest := []) rfl (lenOf pd_8 rfl) rfl (by show 2 * 0 + _ ≤ _; exact Nat.le_of_eq rfl) (hb hby d_rmT_185) ?_
            intro v228 T228 L228 hQ228 X228
            obtain ⟨rfl, NN228, e228⟩ := hQ228
            have N228 := Fr.app N227 NN228
            show own_Dn p e below s (fun v h L => ∃ x y : Int32, v = some (.int (own_hp x y)) ∧ Fr n0 L ∧ n0 ≤ h.size ∧ own_U Z n0 dc h u L1 L2 (k + 1) x y ∧ 0 ≤ x.toInt ∧ x.toInt ≤ ((k + 1 : Nat) : Int) ∧ 0 ≤ y.toInt ∧ y.toInt ≤ ((k + 1 : Nat) : Int) ∧ Sta Z h "java/util/ArrayList" "DEFAULTCAPACITY_EMPTY_ELEMENTDATA" "[Ljava/lang/Object;" (.ref dc) ∧ own_A Z h dc 0) ({ frames := 6, cells := 7, slots := 44, locals := 88 } : Room).cells ({ frames := 6, cells := 7, slots := 44, locals := 88 } : Room).slots (T228.setTop (mkF m 188 #[.val (.ref u), .val (.int x), .val (.int e1), .val (.int (x &&& (3 : Int32))), .val (.int (0 : Int32)), .val (.int (0 : Int32)), .val (.ref b171), .val (.ref b198)] [(.int (own_hp pp (pr + (0 : Int32))))]))
            refine own_st (q' := T228.setTop (mkF m 190 #[.val (.ref u), .val (.int x), .val (.int e1), .val (.int (x &&& (3 : Int32))), .val (.int (0 : Int32)), .val (.int (0 : Int32)), .val (.ref b171), .val (.ref b198)] [(.int (0 : Int32)), (.int (own_hp pp (pr + (0 : Int32))))])) (fun _ k => XS.iload X228.here hx rfl (hb hby d_rmT_188) rfl k) ?_
            have HPF : (own_hp pp (pr + (0 : Int32))) = (0 : Int32) := (by rw [own_add0]; exact own_hpn (he ▸ hc21_102))
            refine own_st (q' := T228.setTop (mkF m 205 #[.val (.ref u), .val (.int x), .val (.int e1), .val (.int (x &&& (3 : Int32))), .val (.int (0 : Int32)), .val (.int (0 : Int32)), .val (.ref b171), .val (.ref b198)] [(.int (0 : Int32))])) (fun _ k => XS.icmpYes X228.here hx rfl (pc0 := 190) (pc' := 195) rfl (hb hby d_rmT_190) rfl (teq (HPF : (own_hp pp (pr + (0 : Int32))) = (0 : Int32))).1 (by decide) (by decide) (XS.iload X228.here hx rfl (hb hby d_rmT_195) rfl (XS.ifYes X228.here hx rfl (pc0 := 197) (pc' := 204) rfl (hb hby d_rmT_197) rfl ((if0 _ _).trans (teq ((by decide : (0 : Int32) = (0 : Int32)) : (0 : Int32) = (0 : Int32))).1) (by decide) (by decide) (XS.iconst X228.here hx rfl (hb hby d_rmT_204) k)))) ?_
            exact own_retI X228 hx hlk hret (hb hby d_rmT_205) e228 (by exact ⟨pp, (pr + (0 : Int32)), congrArg (fun z => some (Value.int z)) HPF.symm, N228, ZZ226, UU226, (own_up b1 b2).1, (own_up b1 b2).2, (own_i0 b3 b4).1, (own_i0 b3 b4).2, SS226, AA226⟩) (by decide) (by decide)
          · skip
            have hc110_197I : ¬ ((x &&& (3 : Int32))).toInt = (2 : Int) := own_eqF hc110_197
            refine own_st (q' := T174.setTop (mkF m 178 #[.val (.ref u), .val (.int x), .val (.int e1), .val (.int (x &&& (3 : Int32))), .val (.int (0 : Int32)), .val (.int (0 : Int32)), .val (.ref b171), .unset] [(.ref u)])) (fun _ k => XS.icmpYes X174.here hx rfl (pc0 := 110) (pc' := 177) rfl (hb hby d_rmT_110) rfl (feq hc110_197).2 (by decide) (by decide) (XS.aloadN X174.here hx rfl (hb hby d_rmT_177) rfl rfl k)) ?_
            have f229 := ((EU.ext E171).keep KK174)
            have f230 := ((U_pu.ext E171).keep KK174 (ninS (Nat.ne_of_lt lt_u_b171) nin0))
            have f231 := ((U_re.ext E171).keep KK174 (ninS (Nat.ne_of_lt lt_u_b171) nin0))
            have f232 := ((U_pp.ext E171).keep KK174 (ninS (Nat.ne_of_lt lt_u_b171) nin0))
            have f233 := ((U_pr.ext E171).keep KK174 (ninS (Nat.ne_of_lt lt_u_b171) nin0))
            have f234 := ((U_id.ext E171).keep KK174 (ninS (Nat.ne_of_lt lt_u_b171) nin0))
            have f235 := ((HL1.ext E171).keep KK174 (ninS (Nat.ne_of_lt lt_L1_b171) nin0))
            have f236 := ((HL2.ext E171).keep KK174 (ninS (Nat.ne_of_lt lt_L2_b171) nin0))
            refine own_callV (y := (⟨"com/example/rock_dove/rockdove/store/UnitOfWork", "end", "()V"⟩ : MethodName)) X174 hx hZ hown (wd_119 hw) (wd_120 hw) (wd_122 hw) (wd_121 hw) (wd_2 hw) (wd_123 hw) (by decide) (rmEnd l Z a0 hw [] u L1 L2 dc ea1 ea2 k pp pr iD T174.heap n0 (Nat.le_trans (Nat.le_trans Z0 E171.1) KK174.1) f229 gU f230 f231 f232 f233 f234 f235 f236 ne12 (by omega) q174_2 q174_3) (rfl : T174.heap = T174.heap) f229 (W := 0) (by decide) (by decide) (by decide) (by decide) (g := (mkF m 178 #[.val (.ref u), .val (.int x), .val (.int e1), .val (.int (x &&& (3 : Int32))), .val (.int (0 : Int32)), .val (.int (0 : Int32)), .val (.ref b171), .unset] [(.ref u)])) rfl (by rw [hml]; rfl) (argsL := []) (rest := []) rfl (lenOf pd_0 rfl) rfl (by show 2 * 0 + _ ≤ _; exact Nat.le_of_eq rfl) (hb hby d_rmT_178) ?_
            intro v237 T237 L237 hQ237 X237
            obtain ⟨rfl, NN237, KK237, q237_0, q237_1, q237_2, q237_3, q237_4, q237_5, q237_6, q237_7, q237_8, q237_9⟩ := hQ237
            have N237 := Fr.app N174 NN237
            have UU237 : own_U Z n0 dc T237.heap u L1 L2 (k + 1) (0 : Int32) (0 : Int32) := ⟨q237_0, gU, q237_1, q237_2, q237_3, q237_4, ⟨_, q237_5⟩, ⟨_, q237_6.mono (by omega)⟩, ⟨_, q237_7.mono (by omega)⟩⟩
            show own_Dn p e below s (fun v h L => ∃ x y : Int32, v = some (.int (own_hp x y)) ∧ Fr n0 L ∧ n0 ≤ h.size ∧ own_U Z n0 dc h u L1 L2 (k + 1) x y ∧ 0 ≤ x.toInt ∧ x.toInt ≤ ((k + 1 : Nat) : Int) ∧ 0 ≤ y.toInt ∧ y.toInt ≤ ((k + 1 : Nat) : Int) ∧ Sta Z h "java/util/ArrayList" "DEFAULTCAPACITY_EMPTY_ELEMENTDATA" "[Ljava/lang/Object;" (.ref dc) ∧ own_A Z h dc 0) ({ frames := 6, cells := 7, slots := 44, locals := 88 } : Room).cells ({ frames := 6, cells := 7, slots := 44, locals := 88 } : Room).slots (T237.setTop (mkF m 181 #[.val (.ref u), .val (.int x), .val (.int e1), .val (.int (x &&& (3 : Int32))), .val (.int (0 : Int32)), .val (.int (0 : Int32)), .val (.ref b171), .unset] []))
            refine own_st (q' := T237.setTop (mkF m 185 #[.val (.ref u), .val (.int x), .val (.int e1), .val (.int (x &&& (3 : Int32))), .val (.int (0 : Int32)), .val (.int (0 : Int32)), .val (.ref b171), .unset] [(.ref u)])) (fun _ k => XS.iconst X237.here hx rfl (hb hby d_rmT_181) (XS.istore X237.here hx rfl (hb hby d_rmT_182) rfl (l' := #[.val (.ref u), .val (.int x), .val (.int e1), .val (.int (x &&& (3 : Int32))), .val (.int (0 : Int32)), .val (.int (0 : Int32)), .val (.ref b171), .unset]) rfl (XS.aloadN X237.here hx rfl (hb hby d_rmT_184) rfl rfl k))) ?_
            refine own_callV (y := (⟨"com/example/rock_dove/rockdove/store/UnitOfWork", "holdsPersistent", "()Z"⟩ : MethodName)) X237 hx hZ hown (wd_37 hw) (wd_38 hw) (wd_40 hw) (wd_39 hw) (wd_2 hw) (wd_41 hw) (by decide) (rmHP l Z a0 hw [] u (0 : Int32) (0 : Int32) T237.heap n0 (Nat.le_trans (Nat.le_trans (Nat.le_trans Z0 E171.1) KK174.1) KK237.1) q237_3 q237_4) (rfl : T237.heap = T237.heap) q237_0 (W := 0) (by decide) (by decide) (by decide) (by decide) (g := (mkF m 185 #[.val (.ref u), .val (.int x), .val (.int e1), .val (.int (x &&& (3 : Int32))), .val (.int (0 : Int32)), .val (.int (0 : Int32)), .val (.ref b171), .unset] [(.ref u)])) rfl (by rw [hml]; rfl) (argsL := []) (rest := []) rfl (lenOf pd_8 rfl) rfl (by show 2 * 0 + _ ≤ _; exact Nat.le_of_eq rfl) (hb hby d_rmT_185) ?_
            intro v238 T238 L238 hQ238 X238
            obtain ⟨rfl, NN238, e238⟩ := hQ238
            have N238 := Fr.app N237 NN238
            show own_Dn p e below s (fun v h L => ∃ x y : Int32, v = some (.int (own_hp x y)) ∧ Fr n0 L ∧ n0 ≤ h.size ∧ own_U Z n0 dc h u L1 L2 (k + 1) x y ∧ 0 ≤ x.toInt ∧ x.toInt ≤ ((k + 1 : Nat) : Int) ∧ 0 ≤ y.toInt ∧ y.toInt ≤ ((k + 1 : Nat) : Int) ∧ Sta Z h "java/util/ArrayList" "DEFAULTCAPACITY_EMPTY_ELEMENTDATA" "[Ljava/lang/Object;" (.ref dc) ∧ own_A Z h dc 0) ({ frames := 6, cells := 7, slots := 44, locals := 88 } : Room).cells ({ frames := 6, cells := 7, slots := 44, locals := 88 } : Room).slots (T238.setTop (mkF m 188 #[.val (.ref u), .val (.int x), .val (.int e1), .val (.int (x &&& (3 : Int32))), .val (.int (0 : Int32)), .val (.int (0 : Int32)), .val (.ref b171), .unset] [(.int (own_hp (0 : Int32) (0 : Int32)))]))
            refine own_st (q' := T238.setTop (mkF m 190 #[.val (.ref u), .val (.int x), .val (.int e1), .val (.int (x &&& (3 : Int32))), .val (.int (0 : Int32)), .val (.int (0 : Int32)), .val (.ref b171), .unset] [(.int (0 : Int32)), (.int (own_hp (0 : Int32) (0 : Int32)))])) (fun _ k => XS.iload X238.here hx rfl (hb hby d_rmT_188) rfl k) ?_
            have HPF : (own_hp (0 : Int32) (0 : Int32)) = (0 : Int32) := (by decide)
            refine own_st (q' := T238.setTop (mkF m 205 #[.val (.ref u), .val (.int x), .val (.int e1), .val (.int (x &&& (3 : Int32))), .val (.int (0 : Int32)), .val (.int (0 : Int32)), .val (.ref b171), .unset] [(.int (0 : Int32))])) (fun _ k => XS.icmpYes X238.here hx rfl (pc0 := 190) (pc' := 195) rfl (hb hby d_rmT_190) rfl (teq (HPF : (own_hp (0 : Int32) (0 : Int32)) = (0 : Int32))).1 (by decide) (by decide) (XS.iload X238.here hx rfl (hb hby d_rmT_195) rfl (XS.ifYes X238.here hx rfl (pc0 := 197) (pc' := 204) rfl (hb hby d_rmT_197) rfl ((if0 _ _).trans (teq ((by decide : (0 : Int32) = (0 : Int32)) : (0 : Int32) = (0 : Int32))).1) (by decide) (by decide) (XS.iconst X238.here hx rfl (hb hby d_rmT_204) k)))) ?_
            exact own_retI X238 hx hlk hret (hb hby d_rmT_205) e238 (by exact ⟨(0 : Int32), (0 : Int32), congrArg (fun z => some (Value.int z)) HPF.symm, N238, (Nat.le_trans (Nat.le_trans (Nat.le_trans Z0 E171.1) KK174.1) KK237.1), UU237, (own_zu (k + 1)).1, (own_zu (k + 1)).2, (own_zu (k + 1)).1, (own_zu (k + 1)).2, q237_8, q237_9⟩) (by decide) (by decide)
  · skip
    have hc9_101I : ¬ ((((x.toUInt32 >>> ((2 : Int32) &&& 31).toUInt32).toInt32) &&& (1 : Int32))).toInt = (0 : Int) := own_eqF hc9_101
    refine own_st (q' := s₁.setTop (mkF m 20 #[.val (.ref u), .val (.int x), .val (.int e1), .val (.int (x &&& (3 : Int32))), .val (.int (1 : Int32)), .unset, .unset, .unset] [(.int e1)])) (fun _ k => XS.ifNo X0.here hx rfl (hb hby d_rmT_9) rfl ((if0 _ _).trans (feq hc9_101).1) (XS.iconst X0.here hx rfl (hb hby d_rmT_12) (XS.goto X0.here hx rfl (pc0 := 13) (pc' := 17) rfl (hb hby d_rmT_13) (by decide) (by decide) (XS.istore X0.here hx rfl (hb hby d_rmT_17) rfl (l' := #[.val (.ref u), .val (.int x), .val (.int e1), .val (.int (x &&& (3 : Int32))), .val (.int (1 : Int32)), .unset, .unset, .unset]) rfl (XS.iloadN X0.here hx rfl (hb hby d_rmT_19) rfl k))))) ?_
    refine own_st (q' := s₁.setTop (mkF m 21 #[.val (.ref u), .val (.int x), .val (.int e1), .val (.int (x &&& (3 : Int32))), .val (.int (1 : Int32)), .unset, .unset, .unset] [(.int (1 : Int32)), (.int e1)])) (fun _ k => XS.iconst X0.here hx rfl (hb hby d_rmT_20) k) ?_
    by_cases hc21_239 : e1 = (1 : Int32)
    · skip
      have hc21_239I : (e1).toInt = (1 : Int) := own_eqT hc21_239
      refine own_st (q' := s₁.setTop (mkF m 31 #[.val (.ref u), .val (.int x), .val (.int e1), .val (.int (x &&& (3 : Int32))), .val (.int (1 : Int32)), .val (.int (1 : Int32)), .unset, .unset] [])) (fun _ k => XS.icmpNo X0.here hx rfl (hb hby d_rmT_21) rfl (teq hc21_239).2 (XS.iconst X0.here hx rfl (hb hby d_rmT_24) (XS.goto X0.here hx rfl (pc0 := 25) (pc' := 29) rfl (hb hby d_rmT_25) (by decide) (by decide) (XS.istore X0.here hx rfl (hb hby d_rmT_29) rfl (l' := #[.val (.ref u), .val (.int x), .val (.int e1), .val (.int (x &&& (3 : Int32))), .val (.int (1 : Int32)), .val (.int (1 : Int32)), .unset, .unset]) rfl k)))) ?_
      obtain ⟨T240, h240, X240, e240, E240, A240, D240, -, st240⟩ := newO X0 hx hZ hown (wd_50 hw) (wd_51 hw) (wd_52 hw) e0 (g := (mkF m 31 #[.val (.ref u), .val (.int x), .val (.int e1), .val (.int (x &&& (3 : Int32))), .val (.int (1 : Int32)), .val (.int (1 : Int32)), .unset, .unset] [])) rfl (hb hby d_rmT_31) (by decide) (by decide)
      obtain ⟨b240, g240⟩ : ∃ z, z = h0.size := ⟨_, rfl⟩
      rw [← g240] at A240 D240 st240
      have lt_u_b240 : u < b240 := Nat.lt_of_lt_of_le EU.lt (Nat.le_of_eq g240.symm)
      have lt_L1_b240 : L1 < b240 := Nat.lt_of_lt_of_le HL1.1.lt (Nat.le_of_eq g240.symm)
      have lt_L2_b240 : L2 < b240 := Nat.lt_of_lt_of_le HL2.1.lt (Nat.le_of_eq g240.symm)
      have lt_dc_b240 : dc < b240 := Nat.lt_of_lt_of_le A0.lt (Nat.le_of_eq g240.symm)
      have ge_b240 : n0 ≤ b240 := Nat.le_trans Z0 (Nat.le_of_eq g240.symm)
      have F_sequence_b240 : Fld Z h240 b240 "com/example/rock_dove/rockdove/store/StoredMessage" "sequence" "J" (.long (0 : Int64)) := D240 (Or.inr (wd_63 hw)) (ty := .long) (by decide)
      have F_objectId_b240 : Fld Z h240 b240 "com/example/rock_dove/rockdove/store/StoredMessage" "objectId" "I" (.int (0 : Int32)) := D240 (Or.inr (wd_65 hw)) (ty := .int) (by decide)
      have F_persistent_b240 : Fld Z h240 b240 "com/example/rock_dove/rockdove/store/StoredMessage" "persistent" "Z" (.int (0 : Int32)) := D240 (Or.inr (wd_67 hw)) (ty := .boolean) (by decide)
      have F_unit_b240 : Fld Z h240 b240 "com/example/rock_dove/rockdove/store/StoredMessage" "unit" "J" (.long (0 : Int64)) := D240 (Or.inr (wd_69 hw)) (ty := .long) (by decide)
      have F_descriptorLength_b240 : Fld Z h240 b240 "com/example/rock_dove/rockdove/store/StoredMessage" "descriptorLength" "I" (.int (0 : Int32)) := D240 (Or.inr (wd_71 hw)) (ty := .int) (by decide)
      have F_dataLength_b240 : Fld Z h240 b240 "com/example/rock_dove/rockdove/store/StoredMessage" "dataLength" "I" (.int (0 : Int32)) := D240 (Or.inr (wd_73 hw)) (ty := .int) (by decide)
      refine own_st (q' := T240.setTop (mkF m 34 #[.val (.ref u), .val (.int x), .val (.int e1), .val (.int (x &&& (3 : Int32))), .val (.int (1 : Int32)), .val (.int (1 : Int32)), .unset, .unset] [(.ref b240)])) st240 ?_
      refine own_st (q' := T240.setTop (mkF m 40 #[.val (.ref u), .val (.int x), .val (.int e1), .val (.int (x &&& (3 : Int32))), .val (.int (1 : Int32)), .val (.int (1 : Int32)), .unset, .unset] [(.long (0 : Int64)), (.int (1 : Int32)), (.int (0 : Int32)), (.long (1 : Int64)), (.ref b240), (.ref b240)])) (fun _ k => XS.dup X240.here hx rfl (hb hby d_rmT_34) rfl rfl (XS.lconst X240.here hx rfl (hb hby d_rmT_35) (XS.iconst X240.here hx rfl (hb hby d_rmT_36) (XS.iload X240.here hx rfl (hb hby d_rmT_37) rfl (XS.lconst X240.here hx rfl (hb hby d_rmT_39) k))))) ?_
      refine own_st (q' := T240.setTop (mkF m 42 #[.val (.ref u), .val (.int x), .val (.int e1), .val (.int (x &&& (3 : Int32))), .val (.int (1 : Int32)), .val (.int (1 : Int32)), .unset, .unset] [(.int (0 : Int32)), (.int (0 : Int32)), (.long (0 : Int64)), (.int (1 : Int32)), (.int (0 : Int32)), (.long (1 : Int64)), (.ref b240), (.ref b240)])) (fun _ k => XS.iconst X240.here hx rfl (hb hby d_rmT_40) (XS.iconst X240.here hx rfl (hb hby d_rmT_41) k)) ?_
      have f241 := (Fs.ext E240)
      have f242 := (A0.ext E240)
      refine own_callI (y := (⟨"com/example/rock_dove/rockdove/store/StoredMessage", "<init>", "(JIZJII)V"⟩ : MethodName)) X240 hx hZ hown rfl (wd_53 hw) (wd_54 hw) (wd_52 hw) (wd_55 hw) (by decide) (rmSI1 l Z a0 hw [] b240 dc h240 n0 (Nat.le_trans Z0 E240.1) A240 ge_b240 F_sequence_b240 F_objectId_b240 F_persistent_b240 F_unit_b240 F_descriptorLength_b240 F_dataLength_b240 f241 f242) e240 (W := 1) (by decide) (by decide) (by decide) (by decide) (g := (mkF m 42 #[.val (.ref u), .val (.int x), .val (.int e1), .val (.int (x &&& (3 : Int32))), .val (.int (1 : Int32)), .val (.int (1 : Int32)), .unset, .unset] [(.int (0 : Int32)), (.int (0 : Int32)), (.long (0 : Int64)), (.int (1 : Int32)), (.int (0 : Int32)), (.long (1 : Int64)), (.ref b240), (.ref b240)])) rfl (by rw [hml]; rfl) (a := b240) (argsL := [(.long (1 : Int64)), (.int (0 : Int32)), (.int (1 : Int32)), (.long (0 : Int64)), (.int (0 : Int32)), (.int (0 : Int32))]) (rest := [(.ref b240)]) rfl (lenOf pd_10 rfl) rfl (by show 2 * 0 + _ ≤ _; exact Nat.le_of_eq rfl) (hb hby d_rmT_42) ?_
      intro v243 T243 L243 hQ243 X243
      obtain ⟨rfl, NN243, KK243, q243_0, q243_1, q243_2, q243_3⟩ := hQ243
      have N243 := Fr.app N0 NN243
      show own_Dn p e below s (fun v h L => ∃ x y : Int32, v = some (.int (own_hp x y)) ∧ Fr n0 L ∧ n0 ≤ h.size ∧ own_U Z n0 dc h u L1 L2 (k + 1) x y ∧ 0 ≤ x.toInt ∧ x.toInt ≤ ((k + 1 : Nat) : Int) ∧ 0 ≤ y.toInt ∧ y.toInt ≤ ((k + 1 : Nat) : Int) ∧ Sta Z h "java/util/ArrayList" "DEFAULTCAPACITY_EMPTY_ELEMENTDATA" "[Ljava/lang/Object;" (.ref dc) ∧ own_A Z h dc 0) ({ frames := 6, cells := 7, slots := 44, locals := 88 } : Room).cells ({ frames := 6, cells := 7, slots := 44, locals := 88 } : Room).slots (T243.setTop (mkF m 45 #[.val (.ref u), .val (.int x), .val (.int e1), .val (.int (x &&& (3 : Int32))), .val (.int (1 : Int32)), .val (.int (1 : Int32)), .unset, .unset] [(.ref b240)]))
      refine own_st (q' := T243.setTop (mkF m 48 #[.val (.ref u), .val (.int x), .val (.int e1), .val (.int (x &&& (3 : Int32))), .val (.int (1 : Int32)), .val (.int (1 : Int32)), .val (.ref b240), .unset] [(.int (x &&& (3 : Int32)))])) (fun _ k => XS.astore X243.here hx rfl (hb hby d_rmT_45) rfl rfl (l' := #[.val (.ref u), .val (.int x), .val (.int e1), .val (.int (x &&& (3 : Int32))), .val (.int (1 : Int32)), .val (.int (1 : Int32)), .val (.ref b240), .unset]) rfl (XS.iloadN X243.here hx rfl (hb hby d_rmT_47) rfl k)) ?_
      by_cases hc48_244 : (x &&& (3 : Int32)) = (0 : Int32)
      · skip
        have hc48_244I : ((x &&& (3 : Int32))).toInt = (0 : Int) := own_eqT hc48_244
        refine own_st (q' := T243.setTop (mkF m 54 #[.val (.ref u), .val (.int x), .val (.int e1), .val (.int (x &&& (3 : Int32))), .val (.int (1 : Int32)), .val (.int (1 : Int32)), .val (.ref b240), .unset] [(.ref b240), (.ref u)])) (fun _ k => XS.ifNo X243.here hx rfl (hb hby d_rmT_48) rfl ((if0 _ _).trans (teq hc48_244).2) (XS.aloadN X243.here hx rfl (hb hby d_rmT_51) rfl rfl (XS.aload X243.here hx rfl (hb hby d_rmT_52) rfl rfl k))) ?_
        have f245 := ((EU.ext E240).keep KK243)
        have f246 := ((U_pu.ext E240).keep KK243 (ninS (Nat.ne_of_lt lt_u_b240) nin0))
        have f247 := ((U_re.ext E240).keep KK243 (ninS (Nat.ne_of_lt lt_u_b240) nin0))
        have f248 := ((U_pp.ext E240).keep KK243 (ninS (Nat.ne_of_lt lt_u_b240) nin0))
        have f249 := ((U_pr.ext E240).keep KK243 (ninS (Nat.ne_of_lt lt_u_b240) nin0))
        have f250 := ((U_id.ext E240).keep KK243 (ninS (Nat.ne_of_lt lt_u_b240) nin0))
        have f251 := ((HL1.ext E240).keep KK243 (ninS (Nat.ne_of_lt lt_L1_b240) nin0))
        have f252 := ((HL2.ext E240).keep KK243 (ninS (Nat.ne_of_lt lt_L2_b240) nin0))
        refine own_callV (y := (⟨"com/example/rock_dove/rockdove/store/UnitOfWork", "addPut", "(Lcom/example/rock_dove/rockdove/store/StoredMessage;)V"⟩ : MethodName)) X243 hx hZ hown (wd_74 hw) (wd_75 hw) (wd_77 hw) (wd_76 hw) (wd_2 hw) (wd_78 hw) (by decide) (rmAP1 l Z a0 hw [] u L1 L2 b240 dc ea1 ea2 k pp pr iD T243.heap n0 (Nat.le_trans (Nat.le_trans Z0 E240.1) KK243.1) f245 gU f246 f247 f248 f249 f250 f251 f252 ne12 (by omega) q243_0 q243_1 q243_2 q243_3) (rfl : T243.heap = T243.heap) f245 (W := 0) (by decide) (by decide) (by decide) (by decide) (g := (mkF m 54 #[.val (.ref u), .val (.int x), .val (.int e1), .val (.int (x &&& (3 : Int32))), .val (.int (1 : Int32)), .val (.int (1 : Int32)), .val (.ref b240), .unset] [(.ref b240), (.ref u)])) rfl (by rw [hml]; rfl) (argsL := [(.ref b240)]) (rest := []) rfl (lenOf pd_11 rfl) rfl (by show 2 * 0 + _ ≤ _; exact Nat.le_of_eq rfl) (hb hby d_rmT_54) ?_
        intro v253 T253 L253 hQ253 X253
        obtain ⟨rfl, NN253, ZZ253, UU253, SS253, AA253⟩ := hQ253
        have N253 := Fr.app N243 NN253
        have UC253 := UU253
        obtain ⟨EU253, -, pu253, re253, pp253, pr253, -⟩ := UC253
        show own_Dn p e below s (fun v h L => ∃ x y : Int32, v = some (.int (own_hp x y)) ∧ Fr n0 L ∧ n0 ≤ h.size ∧ own_U Z n0 dc h u L1 L2 (k + 1) x y ∧ 0 ≤ x.toInt ∧ x.toInt ≤ ((k + 1 : Nat) : Int) ∧ 0 ≤ y.toInt ∧ y.toInt ≤ ((k + 1 : Nat) : Int) ∧ Sta Z h "java/util/ArrayList" "DEFAULTCAPACITY_EMPTY_ELEMENTDATA" "[Ljava/lang/Object;" (.ref dc) ∧ own_A Z h dc 0) ({ frames := 6, cells := 7, slots := 44, locals := 88 } : Room).cells ({ frames := 6, cells := 7, slots := 44, locals := 88 } : Room).slots (T253.setTop (mkF m 57 #[.val (.ref u), .val (.int x), .val (.int e1), .val (.int (x &&& (3 : Int32))), .val (.int (1 : Int32)), .val (.int (1 : Int32)), .val (.ref b240), .unset] []))
        refine own_st (q' := T253.setTop (mkF m 74 #[.val (.ref u), .val (.int x), .val (.int e1), .val (.int (x &&& (3 : Int32))), .val (.int (1 : Int32)), .val (.int (1 : Int32)), .val (.ref b240), .unset] [])) (fun _ k => XS.iload X253.here hx rfl (hb hby d_rmT_57) rfl (XS.ifYes X253.here hx rfl (pc0 := 59) (pc' := 67) rfl (hb hby d_rmT_59) rfl ((if0 _ _).trans (feq ((by decide : ¬ ((1 : Int32) = (0 : Int32))) : ¬ ((1 : Int32) = (0 : Int32)))).2) (by decide) (by decide) (XS.iconst X253.here hx rfl (hb hby d_rmT_67) (XS.goto X253.here hx rfl (pc0 := 68) (pc' := 72) rfl (hb hby d_rmT_68) (by decide) (by decide) (XS.istore X253.here hx rfl (hb hby d_rmT_72) rfl (l' := #[.val (.ref u), .val (.int x), .val (.int e1), .val (.int (x &&& (3 : Int32))), .val (.int (1 : Int32)), .val (.int (1 : Int32)), .val (.ref b240), .unset]) rfl k))))) ?_
        refine own_st (q' := T253.setTop (mkF m 185 #[.val (.ref u), .val (.int x), .val (.int e1), .val (.int (x &&& (3 : Int32))), .val (.int (1 : Int32)), .val (.int (1 : Int32)), .val (.ref b240), .unset] [(.ref u)])) (fun _ k => XS.goto X253.here hx rfl (pc0 := 74) (pc' := 184) rfl (hb hby d_rmT_74) (by decide) (by decide) (XS.aloadN X253.here hx rfl (hb hby d_rmT_184) rfl rfl k)) ?_
        refine own_callV (y := (⟨"com/example/rock_dove/rockdove/store/UnitOfWork", "holdsPersistent", "()Z"⟩ : MethodName)) X253 hx hZ hown (wd_37 hw) (wd_38 hw) (wd_40 hw) (wd_39 hw) (wd_2 hw) (wd_41 hw) (by decide) (rmHP l Z a0 hw [] u (pp + (1 : Int32)) pr T253.heap n0 ZZ253 pp253 pr253) (rfl : T253.heap = T253.heap) EU253 (W := 0) (by decide) (by decide) (by decide) (by decide) (g := (mkF m 185 #[.val (.ref u), .val (.int x), .val (.int e1), .val (.int (x &&& (3 : Int32))), .val (.int (1 : Int32)), .val (.int (1 : Int32)), .val (.ref b240), .unset] [(.ref u)])) rfl (by rw [hml]; rfl) (argsL := []) (rest := []) rfl (lenOf pd_8 rfl) rfl (by show 2 * 0 + _ ≤ _; exact Nat.le_of_eq rfl) (hb hby d_rmT_185) ?_
        intro v254 T254 L254 hQ254 X254
        obtain ⟨rfl, NN254, e254⟩ := hQ254
        have N254 := Fr.app N253 NN254
        show own_Dn p e below s (fun v h L => ∃ x y : Int32, v = some (.int (own_hp x y)) ∧ Fr n0 L ∧ n0 ≤ h.size ∧ own_U Z n0 dc h u L1 L2 (k + 1) x y ∧ 0 ≤ x.toInt ∧ x.toInt ≤ ((k + 1 : Nat) : Int) ∧ 0 ≤ y.toInt ∧ y.toInt ≤ ((k + 1 : Nat) : Int) ∧ Sta Z h "java/util/ArrayList" "DEFAULTCAPACITY_EMPTY_ELEMENTDATA" "[Ljava/lang/Object;" (.ref dc) ∧ own_A Z h dc 0) ({ frames := 6, cells := 7, slots := 44, locals := 88 } : Room).cells ({ frames := 6, cells := 7, slots := 44, locals := 88 } : Room).slots (T254.setTop (mkF m 188 #[.val (.ref u), .val (.int x), .val (.int e1), .val (.int (x &&& (3 : Int32))), .val (.int (1 : Int32)), .val (.int (1 : Int32)), .val (.ref b240), .unset] [(.int (own_hp (pp + (1 : Int32)) pr))]))
        refine own_st (q' := T254.setTop (mkF m 190 #[.val (.ref u), .val (.int x), .val (.int e1), .val (.int (x &&& (3 : Int32))), .val (.int (1 : Int32)), .val (.int (1 : Int32)), .val (.ref b240), .unset] [(.int (1 : Int32)), (.int (own_hp (pp + (1 : Int32)) pr))])) (fun _ k => XS.iload X254.here hx rfl (hb hby d_rmT_188) rfl k) ?_
        have HPF : (own_hp (pp + (1 : Int32)) pr) = (1 : Int32) := (own_hpA b1 b2 (by omega))
        refine own_st (q' := T254.setTop (mkF m 205 #[.val (.ref u), .val (.int x), .val (.int e1), .val (.int (x &&& (3 : Int32))), .val (.int (1 : Int32)), .val (.int (1 : Int32)), .val (.ref b240), .unset] [(.int (1 : Int32))])) (fun _ k => XS.icmpYes X254.here hx rfl (pc0 := 190) (pc' := 195) rfl (hb hby d_rmT_190) rfl (teq (HPF : (own_hp (pp + (1 : Int32)) pr) = (1 : Int32))).1 (by decide) (by decide) (XS.iload X254.here hx rfl (hb hby d_rmT_195) rfl (XS.ifNo X254.here hx rfl (hb hby d_rmT_197) rfl ((if0 _ _).trans (feq ((by decide : ¬ ((1 : Int32) = (0 : Int32))) : ¬ ((1 : Int32) = (0 : Int32)))).1) (XS.iconst X254.here hx rfl (hb hby d_rmT_200) (XS.goto X254.here hx rfl (pc0 := 201) (pc' := 205) rfl (hb hby d_rmT_201) (by decide) (by decide) k))))) ?_
        exact own_retI X254 hx hlk hret (hb hby d_rmT_205) e254 (by exact ⟨(pp + (1 : Int32)), pr, congrArg (fun z => some (Value.int z)) HPF.symm, N254, ZZ253, UU253, (own_inc b1 b2 (by omega)).1, (own_inc b1 b2 (by omega)).2, (own_up b3 b4).1, (own_up b3 b4).2, SS253, AA253⟩) (by decide) (by decide)
      · skip
        have hc48_244I : ¬ ((x &&& (3 : Int32))).toInt = (0 : Int) := own_eqF hc48_244
        refine own_st (q' := T243.setTop (mkF m 79 #[.val (.ref u), .val (.int x), .val (.int e1), .val (.int (x &&& (3 : Int32))), .val (.int (1 : Int32)), .val (.int (1 : Int32)), .val (.ref b240), .unset] [(.int (1 : Int32)), (.int (x &&& (3 : Int32)))])) (fun _ k => XS.ifYes X243.here hx rfl (pc0 := 48) (pc' := 77) rfl (hb hby d_rmT_48) rfl ((if0 _ _).trans (feq hc48_244).2) (by decide) (by decide) (XS.iloadN X243.here hx rfl (hb hby d_rmT_77) rfl (XS.iconst X243.here hx rfl (hb hby d_rmT_78) k))) ?_
        by_cases hc79_255 : (x &&& (3 : Int32)) = (1 : Int32)
        · skip
          have hc79_255I : ((x &&& (3 : Int32))).toInt = (1 : Int) := own_eqT hc79_255
          refine own_st (q' := T243.setTop (mkF m 85 #[.val (.ref u), .val (.int x), .val (.int e1), .val (.int (x &&& (3 : Int32))), .val (.int (1 : Int32)), .val (.int (1 : Int32)), .val (.ref b240), .unset] [(.ref b240), (.ref u)])) (fun _ k => XS.icmpNo X243.here hx rfl (hb hby d_rmT_79) rfl (teq hc79_255).2 (XS.aloadN X243.here hx rfl (hb hby d_rmT_82) rfl rfl (XS.aload X243.here hx rfl (hb hby d_rmT_83) rfl rfl k))) ?_
          have f256 := ((EU.ext E240).keep KK243)
          have f257 := ((U_pu.ext E240).keep KK243 (ninS (Nat.ne_of_lt lt_u_b240) nin0))
          have f258 := ((U_re.ext E240).keep KK243 (ninS (Nat.ne_of_lt lt_u_b240) nin0))
          have f259 := ((U_pp.ext E240).keep KK243 (ninS (Nat.ne_of_lt lt_u_b240) nin0))
          have f260 := ((U_pr.ext E240).keep KK243 (ninS (Nat.ne_of_lt lt_u_b240) nin0))
          have f261 := ((U_id.ext E240).keep KK243 (ninS (Nat.ne_of_lt lt_u_b240) nin0))
          have f262 := ((HL1.ext E240).keep KK243 (ninS (Nat.ne_of_lt lt_L1_b240) nin0))
          have f263 := ((HL2.ext E240).keep KK243 (ninS (Nat.ne_of_lt lt_L2_b240) nin0))
          refine own_callV (y := (⟨"com/example/rock_dove/rockdove/store/UnitOfWork", "addRemoval", "(Lcom/example/rock_dove/rockdove/store/StoredMessage;)V"⟩ : MethodName)) X243 hx hZ hown (wd_134 hw) (wd_135 hw) (wd_137 hw) (wd_136 hw) (wd_2 hw) (wd_138 hw) (by decide) (rmAR1 l Z a0 hw [] u L1 L2 b240 dc ea1 ea2 k pp pr iD T243.heap n0 (Nat.le_trans (Nat.le_trans Z0 E240.1) KK243.1) f256 gU f257 f258 f259 f260 f261 f262 f263 ne12 (by omega) q243_0 q243_1 q243_2 q243_3) (rfl : T243.heap = T243.heap) f256 (W := 0) (by decide) (by decide) (by decide) (by decide) (g := (mkF m 85 #[.val (.ref u), .val (.int x), .val (.int e1), .val (.int (x &&& (3 : Int32))), .val (.int (1 : Int32)), .val (.int (1 : Int32)), .val (.ref b240), .unset] [(.ref b240), (.ref u)])) rfl (by rw [hml]; rfl) (argsL := [(.ref b240)]) (rest := []) rfl (lenOf pd_11 rfl) rfl (by show 2 * 0 + _ ≤ _; exact Nat.le_of_eq rfl) (hb hby d_rmT_85) ?_
          intro v264 T264 L264 hQ264 X264
          obtain ⟨rfl, NN264, ZZ264, UU264, SS264, AA264⟩ := hQ264
          have N264 := Fr.app N243 NN264
          have UC264 := UU264
          obtain ⟨EU264, -, pu264, re264, pp264, pr264, -⟩ := UC264
          show own_Dn p e below s (fun v h L => ∃ x y : Int32, v = some (.int (own_hp x y)) ∧ Fr n0 L ∧ n0 ≤ h.size ∧ own_U Z n0 dc h u L1 L2 (k + 1) x y ∧ 0 ≤ x.toInt ∧ x.toInt ≤ ((k + 1 : Nat) : Int) ∧ 0 ≤ y.toInt ∧ y.toInt ≤ ((k + 1 : Nat) : Int) ∧ Sta Z h "java/util/ArrayList" "DEFAULTCAPACITY_EMPTY_ELEMENTDATA" "[Ljava/lang/Object;" (.ref dc) ∧ own_A Z h dc 0) ({ frames := 6, cells := 7, slots := 44, locals := 88 } : Room).cells ({ frames := 6, cells := 7, slots := 44, locals := 88 } : Room).slots (T264.setTop (mkF m 88 #[.val (.ref u), .val (.int x), .val (.int e1), .val (.int (x &&& (3 : Int32))), .val (.int (1 : Int32)), .val (.int (1 : Int32)), .val (.ref b240), .unset] []))
          refine own_st (q' := T264.setTop (mkF m 105 #[.val (.ref u), .val (.int x), .val (.int e1), .val (.int (x &&& (3 : Int32))), .val (.int (1 : Int32)), .val (.int (1 : Int32)), .val (.ref b240), .unset] [])) (fun _ k => XS.iload X264.here hx rfl (hb hby d_rmT_88) rfl (XS.ifYes X264.here hx rfl (pc0 := 90) (pc' := 98) rfl (hb hby d_rmT_90) rfl ((if0 _ _).trans (feq ((by decide : ¬ ((1 : Int32) = (0 : Int32))) : ¬ ((1 : Int32) = (0 : Int32)))).2) (by decide) (by decide) (XS.iconst X264.here hx rfl (hb hby d_rmT_98) (XS.goto X264.here hx rfl (pc0 := 99) (pc' := 103) rfl (hb hby d_rmT_99) (by decide) (by decide) (XS.istore X264.here hx rfl (hb hby d_rmT_103) rfl (l' := #[.val (.ref u), .val (.int x), .val (.int e1), .val (.int (x &&& (3 : Int32))), .val (.int (1 : Int32)), .val (.int (1 : Int32)), .val (.ref b240), .unset]) rfl k))))) ?_
          refine own_st (q' := T264.setTop (mkF m 185 #[.val (.ref u), .val (.int x), .val (.int e1), .val (.int (x &&& (3 : Int32))), .val (.int (1 : Int32)), .val (.int (1 : Int32)), .val (.ref b240), .unset] [(.ref u)])) (fun _ k => XS.goto X264.here hx rfl (pc0 := 105) (pc' := 184) rfl (hb hby d_rmT_105) (by decide) (by decide) (XS.aloadN X264.here hx rfl (hb hby d_rmT_184) rfl rfl k)) ?_
          refine own_callV (y := (⟨"com/example/rock_dove/rockdove/store/UnitOfWork", "holdsPersistent", "()Z"⟩ : MethodName)) X264 hx hZ hown (wd_37 hw) (wd_38 hw) (wd_40 hw) (wd_39 hw) (wd_2 hw) (wd_41 hw) (by decide) (rmHP l Z a0 hw [] u pp (pr + (1 : Int32)) T264.heap n0 ZZ264 pp264 pr264) (rfl : T264.heap = T264.heap) EU264 (W := 0) (by decide) (by decide) (by decide) (by decide) (g := (mkF m 185 #[.val (.ref u), .val (.int x), .val (.int e1), .val (.int (x &&& (3 : Int32))), .val (.int (1 : Int32)), .val (.int (1 : Int32)), .val (.ref b240), .unset] [(.ref u)])) rfl (by rw [hml]; rfl) (argsL := []) (rest := []) rfl (lenOf pd_8 rfl) rfl (by show 2 * 0 + _ ≤ _; exact Nat.le_of_eq rfl) (hb hby d_rmT_185) ?_
          intro v265 T265 L265 hQ265 X265
          obtain ⟨rfl, NN265, e265⟩ := hQ265
          have N265 := Fr.app N264 NN265
          show own_Dn p e below s (fun v h L => ∃ x y : Int32, v = some (.int (own_hp x y)) ∧ Fr n0 L ∧ n0 ≤ h.size ∧ own_U Z n0 dc h u L1 L2 (k + 1) x y ∧ 0 ≤ x.toInt ∧ x.toInt ≤ ((k + 1 : Nat) : Int) ∧ 0 ≤ y.toInt ∧ y.toInt ≤ ((k + 1 : Nat) : Int) ∧ Sta Z h "java/util/ArrayList" "DEFAULTCAPACITY_EMPTY_ELEMENTDATA" "[Ljava/lang/Object;" (.ref dc) ∧ own_A Z h dc 0) ({ frames := 6, cells := 7, slots := 44, locals := 88 } : Room).cells ({ frames := 6, cells := 7, slots := 44, locals := 88 } : Room).slots (T265.setTop (mkF m 188 #[.val (.ref u), .val (.int x), .val (.int e1), .val (.int (x &&& (3 : Int32))), .val (.int (1 : Int32)), .val (.int (1 : Int32)), .val (.ref b240), .unset] [(.int (own_hp pp (pr + (1 : Int32))))]))
          refine own_st (q' := T265.setTop (mkF m 190 #[.val (.ref u), .val (.int x), .val (.int e1), .val (.int (x &&& (3 : Int32))), .val (.int (1 : Int32)), .val (.int (1 : Int32)), .val (.ref b240), .unset] [(.int (1 : Int32)), (.int (own_hp pp (pr + (1 : Int32))))])) (fun _ k => XS.iload X265.here hx rfl (hb hby d_rmT_188) rfl k) ?_
          have HPF : (own_hp pp (pr + (1 : Int32))) = (1 : Int32) := (own_hpB b3 b4 (by omega))
          refine own_st (q' := T265.setTop (mkF m 205 #[.val (.ref u), .val (.int x), .val (.int e1), .val (.int (x &&& (3 : Int32))), .val (.int (1 : Int32)), .val (.int (1 : Int32)), .val (.ref b240), .unset] [(.int (1 : Int32))])) (fun _ k => XS.icmpYes X265.here hx rfl (pc0 := 190) (pc' := 195) rfl (hb hby d_rmT_190) rfl (teq (HPF : (own_hp pp (pr + (1 : Int32))) = (1 : Int32))).1 (by decide) (by decide) (XS.iload X265.here hx rfl (hb hby d_rmT_195) rfl (XS.ifNo X265.here hx rfl (hb hby d_rmT_197) rfl ((if0 _ _).trans (feq ((by decide : ¬ ((1 : Int32) = (0 : Int32))) : ¬ ((1 : Int32) = (0 : Int32)))).1) (XS.iconst X265.here hx rfl (hb hby d_rmT_200) (XS.goto X265.here hx rfl (pc0 := 201) (pc' := 205) rfl (hb hby d_rmT_201) (by decide) (by decide) k))))) ?_
          exact own_retI X265 hx hlk hret (hb hby d_rmT_205) e265 (by exact ⟨pp, (pr + (1 : Int32)), congrArg (fun z => some (Value.int z)) HPF.symm, N265, ZZ264, UU264, (own_up b1 b2).1, (own_up b1 b2).2, (own_inc b3 b4 (by omega)).1, (own_inc b3 b4 (by omega)).2, SS264, AA264⟩) (by decide) (by decide)
        · skip
          have hc79_255I : ¬ ((x &&& (3 : Int32))).toInt = (1 : Int) := own_eqF hc79_255
          refine own_st (q' := T243.setTop (mkF m 110 #[.val (.ref u), .val (.int x), .val (.int e1), .val (.int (x &&& (3 : Int32))), .val (.int (1 : Int32)), .val (.int (1 : Int32)), .val (.ref b240), .unset] [(.int (2 : Int32)), (.int (x &&& (3 : Int32)))])) (fun _ k => XS.icmpYes X243.here hx rfl (pc0 := 79) (pc' := 108) rfl (hb hby d_rmT_79) rfl (feq hc79_255).2 (by decide) (by decide) (XS.iloadN X243.here hx rfl (hb hby d_rmT_108) rfl (XS.iconst X243.here hx rfl (hb hby d_rmT_109) k))) ?_
          by_cases hc110_266 : (x &&& (3 : Int32)) = (2 : Int32)
          · skip
            have hc110_266I : ((x &&& (3 : Int32))).toInt = (2 : Int) := own_eqT hc110_266
            refine own_st (q' := T243.setTop (mkF m 113 #[.val (.ref u), .val (.int x), .val (.int e1), .val (.int (x &&& (3 : Int32))), .val (.int (1 : Int32)), .val (.int (1 : Int32)), .val (.ref b240), .unset] [])) (fun _ k => XS.icmpNo X243.here hx rfl (hb hby d_rmT_110) rfl (teq hc110_266).2 k) ?_
            obtain ⟨T267, h267, X267, e267, E267, A267, D267, -, st267⟩ := newO X243 hx hZ hown (wd_0 hw) (wd_1 hw) (wd_2 hw) (rfl : T243.heap = T243.heap) (g := (mkF m 113 #[.val (.ref u), .val (.int x), .val (.int e1), .val (.int (x &&& (3 : Int32))), .val (.int (1 : Int32)), .val (.int (1 : Int32)), .val (.ref b240), .unset] [])) rfl (hb hby d_rmT_113) (by decide) (by decide)
            obtain ⟨b267, g267⟩ : ∃ z, z = T243.heap.size := ⟨_, rfl⟩
            rw [← g267] at A267 D267 st267
            have f268 := ((EU.ext E240).keep KK243)
            have lt_u_b267 : u < b267 := Nat.lt_of_lt_of_le f268.lt (Nat.le_of_eq g267.symm)
            have f269 := ((HL1.1.ext E240).keep KK243)
            have lt_L1_b267 : L1 < b267 := Nat.lt_of_lt_of_le f269.lt (Nat.le_of_eq g267.symm)
            have f270 := ((HL2.1.ext E240).keep KK243)
            have lt_L2_b267 : L2 < b267 := Nat.lt_of_lt_of_le f270.lt (Nat.le_of_eq g267.symm)
            have lt_dc_b267 : dc < b267 := Nat.lt_of_lt_of_le q243_3.lt (Nat.le_of_eq g267.symm)
            have lt_b240_b267 : b240 < b267 := Nat.lt_of_lt_of_le q243_0.lt (Nat.le_of_eq g267.symm)
            have ge_b267 : n0 ≤ b267 := Nat.le_trans (Nat.le_trans (Nat.le_trans Z0 E240.1) KK243.1) (Nat.le_of_eq g267.symm)
            have F_puts_b267 : Fld Z h267 b267 "com/example/rock_dove/rockdove/store/UnitOfWork" "puts" "Ljava/util/List;" .null := D267 (Or.inr (wd_34 hw)) (ty := (.object "java/util/List")) (by decide)
            have F_removals_b267 : Fld Z h267 b267 "com/example/rock_dove/rockdove/store/UnitOfWork" "removals" "Ljava/util/List;" .null := D267 (Or.inr (wd_36 hw)) (ty := (.object "java/util/List")) (by decide)
            have F_persistentPuts_b267 : Fld Z h267 b267 "com/example/rock_dove/rockdove/store/UnitOfWork" "persistentPuts" "I" (.int (0 : Int32)) := D267 (Or.inl (wd_43 hw)) (ty := .int) (by decide)
            have F_persistentRemovals_b267 : Fld Z h267 b267 "com/example/rock_dove/rockdove/store/UnitOfWork" "persistentRemovals" "I" (.int (0 : Int32)) := D267 (Or.inl (wd_45 hw)) (ty := .int) (by decide)
            have F_id_b267 : Fld Z h267 b267 "com/example/rock_dove/rockdove/store/UnitOfWork" "id" "J" (.long (0 : Int64)) := D267 (Or.inl (wd_133 hw)) (ty := .long) (by decide)
            refine own_st (q' := T267.setTop (mkF m 116 #[.val (.ref u), .val (.int x), .val (.int e1), .val (.int (x &&& (3 : Int32))), .val (.int (1 : Int32)), .val (.int (1 : Int32)), .val (.ref b240), .unset] [(.ref b267)])) st267 ?_
            refine own_st (q' := T267.setTop (mkF m 117 #[.val (.ref u), .val (.int x), .val (.int e1), .val (.int (x &&& (3 : Int32))), .val (.int (1 : Int32)), .val (.int (1 : Int32)), .val (.ref b240), .unset] [(.ref b267), (.ref b267)])) (fun _ k => XS.dup X267.here hx rfl (hb hby d_rmT_116) rfl rfl k) ?_
            have f271 := (q243_2.ext E267)
            have f272 := (q243_3.ext E267)
            refine own_callI (y := (⟨"com/example/rock_dove/rockdove/store/UnitOfWork", "<init>", "()V"⟩ : MethodName)) X267 hx hZ hown rfl (wd_3 hw) (wd_4 hw) (wd_2 hw) (wd_5 hw) (by decide) (rmUI l Z a0 hw [] b267 dc h267 n0 (Nat.le_trans (Nat.le_trans (Nat.le_trans Z0 E240.1) KK243.1) E267.1) A267 ge_b267 F_puts_b267 F_removals_b267 F_persistentPuts_b267 F_persistentRemovals_b267 F_id_b267 f271 f272) e267 (W := 1) (by decide) (by decide) (by decide) (by decide) (g := (mkF m 117 #[.val (.ref u), .val (.int x), .val (.int e1), .val (.int (x &&& (3 : Int32))), .val (.int (1 : Int32)), .val (.int (1 : Int32)), .val (.ref b240), .unset] [(.ref b267), (.ref b267)])) rfl (by rw [hml]; rfl) (a := b267) (argsL := []) (rest := [(.ref b267)]) rfl (lenOf pd_0 rfl) rfl (by show 2 * 0 + _ ≤ _; exact Nat.le_of_eq rfl) (hb hby d_rmT_117) ?_
            intro v273 T273 L273 hQ273 X273
            obtain ⟨x1273, x2273, rfl, NN273, KK273, q273_0, q273_1, q273_2, q273_3, q273_4, q273_5, q273_6, q273_7, q273_8, q273_9, q273_10, q273_11, q273_12⟩ := hQ273
            have f274 := (f269.ext E267)
            have f275 := (f270.ext E267)
            have f276 := (q243_0.ext E267)
            have f277 := (f268.ext E267)
            have N273 := Fr.app N243 NN273
            have FC273 := q273_10
            obtain ⟨EF273, gF273, mF273, fF273, sF273, dF273⟩ := FC273
            show own_Dn p e below s (fun v h L => ∃ x y : Int32, v = some (.int (own_hp x y)) ∧ Fr n0 L ∧ n0 ≤ h.size ∧ own_U Z n0 dc h u L1 L2 (k + 1) x y ∧ 0 ≤ x.toInt ∧ x.toInt ≤ ((k + 1 : Nat) : Int) ∧ 0 ≤ y.toInt ∧ y.toInt ≤ ((k + 1 : Nat) : Int) ∧ Sta Z h "java/util/ArrayList" "DEFAULTCAPACITY_EMPTY_ELEMENTDATA" "[Ljava/lang/Object;" (.ref dc) ∧ own_A Z h dc 0) ({ frames := 6, cells := 7, slots := 44, locals := 88 } : Room).cells ({ frames := 6, cells := 7, slots := 44, locals := 88 } : Room).slots (T273.setTop (mkF m 120 #[.val (.ref u), .val (.int x), .val (.int e1), .val (.int (x &&& (3 : Int32))), .val (.int (1 : Int32)), .val (.int (1 : Int32)), .val (.ref b240), .unset] [(.ref b267)]))
            refine own_st (q' := T273.setTop (mkF m 126 #[.val (.ref u), .val (.int x), .val (.int e1), .val (.int (x &&& (3 : Int32))), .val (.int (1 : Int32)), .val (.int (1 : Int32)), .val (.ref b240), .val (.ref b267)] [(.ref b240), (.ref b267)])) (fun _ k => XS.astore X273.here hx rfl (hb hby d_rmT_120) rfl rfl (l' := #[.val (.ref u), .val (.int x), .val (.int e1), .val (.int (x &&& (3 : Int32))), .val (.int (1 : Int32)), .val (.int (1 : Int32)), .val (.ref b240), .val (.ref b267)]) rfl (XS.aload X273.here hx rfl (hb hby d_rmT_122) rfl rfl (XS.aload X273.here hx rfl (hb hby d_rmT_124) rfl rfl k))) ?_
            have f278 := (f276.keep KK273)
            have f279 := ((q243_1.ext E267).keep KK273 (ninS (Nat.ne_of_lt lt_b240_b267) nin0))
            refine own_callV (y := (⟨"com/example/rock_dove/rockdove/store/UnitOfWork", "addRemoval", "(Lcom/example/rock_dove/rockdove/store/StoredMessage;)V"⟩ : MethodName)) X273 hx hZ hown (wd_134 hw) (wd_135 hw) (wd_137 hw) (wd_136 hw) (wd_2 hw) (wd_138 hw) (by decide) (rmARF1 l Z a0 hw [] b267 x1273 x2273 b240 dc mF273 T273.heap n0 (Nat.le_trans (Nat.le_trans (Nat.le_trans (Nat.le_trans Z0 E240.1) KK243.1) E267.1) KK273.1) q273_3 ge_b267 q273_4 q273_5 q273_6 q273_7 q273_8 EF273 gF273 fF273 sF273 dF273 f278 f279 q273_11 q273_12) (rfl : T273.heap = T273.heap) q273_3 (W := 0) (by decide) (by decide) (by decide) (by decide) (g := (mkF m 126 #[.val (.ref u), .val (.int x), .val (.int e1), .val (.int (x &&& (3 : Int32))), .val (.int (1 : Int32)), .val (.int (1 : Int32)), .val (.ref b240), .val (.ref b267)] [(.ref b240), (.ref b267)])) rfl (by rw [hml]; rfl) (argsL := [(.ref b240)]) (rest := []) rfl (lenOf pd_11 rfl) rfl (by show 2 * 0 + _ ≤ _; exact Nat.le_of_eq rfl) (hb hby d_rmT_126) ?_
            intro v280 T280 L280 hQ280 X280
            obtain ⟨r280, w280, rfl, NN280, KK280, q280_0, q280_1, q280_2, q280_3, q280_4, q280_5, q280_6, q280_7, q280_8, q280_9, q280_10, q280_11, q280_12, q280_13⟩ := hQ280
            have f281 := (f274.keep KK273)
            have f282 := (f275.keep KK273)
            have f283 := (f277.keep KK273)
            have N280 := Fr.app N273 NN280
            show own_Dn p e below s (fun v h L => ∃ x y : Int32, v = some (.int (own_hp x y)) ∧ Fr n0 L ∧ n0 ≤ h.size ∧ own_U Z n0 dc h u L1 L2 (k + 1) x y ∧ 0 ≤ x.toInt ∧ x.toInt ≤ ((k + 1 : Nat) : Int) ∧ 0 ≤ y.toInt ∧ y.toInt ≤ ((k + 1 : Nat) : Int) ∧ Sta Z h "java/util/ArrayList" "DEFAULTCAPACITY_EMPTY_ELEMENTDATA" "[Ljava/lang/Object;" (.ref dc) ∧ own_A Z h dc 0) ({ frames := 6, cells := 7, slots := 44, locals := 88 } : Room).cells ({ frames := 6, cells := 7, slots := 44, locals := 88 } : Room).slots (T280.setTop (mkF m 129 #[.val (.ref u), .val (.int x), .val (.int e1), .val (.int (x &&& (3 : Int32))), .val (.int (1 : Int32)), .val (.int (1 : Int32)), .val (.ref b240), .val (.ref b267)] []))
            refine own_st (q' := T280.setTop (mkF m 131 #[.val (.ref u), .val (.int x), .val (.int e1), .val (.int (x &&& (3 : Int32))), .val (.int (1 : Int32)), .val (.int (1 : Int32)), .val (.ref b240), .val (.ref b267)] [(.ref b267)])) (fun _ k => XS.aload X280.here hx rfl (hb hby d_rmT_129) rfl rfl k) ?_
            refine own_callV (y := (⟨"com/example/rock_dove/rockdove/store/UnitOfWork", "holdsPersistent", "()Z"⟩ : MethodName)) X280 hx hZ hown (wd_37 hw) (wd_38 hw) (wd_40 hw) (wd_39 hw) (wd_2 hw) (wd_41 hw) (by decide) (rmHP l Z a0 hw [] b267 (0 : Int32) (1 : Int32) T280.heap n0 (Nat.le_trans (Nat.le_trans (Nat.le_trans (Nat.le_trans (Nat.le_trans Z0 E240.1) KK243.1) E267.1) KK273.1) KK280.1) q280_4 q280_5) (rfl : T280.heap = T280.heap) q280_1 (W := 0) (by decide) (by decide) (by decide) (by decide) (g := (mkF m 131 #[.val (.ref u), .val (.int x), .val (.int e1), .val (.int (x &&& (3 : Int32))), .val (.int (1 : Int32)), .val (.int (1 : Int32)), .val (.ref b240), .val (.ref b267)] [(.ref b267)])) rfl (by rw [hml]; rfl) (argsL := []) (rest := []) rfl (lenOf pd_8 rfl) rfl (by show 2 * 0 + _ ≤ _; exact Nat.le_of_eq rfl) (hb hby d_rmT_131) ?_
            intro v284 T284 L284 hQ284 X284
            obtain ⟨rfl, NN284, e284⟩ := hQ284
            have N284 := Fr.app N280 NN284
            show own_Dn p e below s (fun v h L => ∃ x y : Int32, v = some (.int (own_hp x y)) ∧ Fr n0 L ∧ n0 ≤ h.size ∧ own_U Z n0 dc h u L1 L2 (k + 1) x y ∧ 0 ≤ x.toInt ∧ x.toInt ≤ ((k + 1 : Nat) : Int) ∧ 0 ≤ y.toInt ∧ y.toInt ≤ ((k + 1 : Nat) : Int) ∧ Sta Z h "java/util/ArrayList" "DEFAULTCAPACITY_EMPTY_ELEMENTDATA" "[Ljava/lang/Object;" (.ref dc) ∧ own_A Z h dc 0) ({ frames := 6, cells := 7, slots := 44, locals := 88 } : Room).cells ({ frames := 6, cells := 7, slots := 44, locals := 88 } : Room).slots (T284.setTop (mkF m 134 #[.val (.ref u), .val (.int x), .val (.int e1), .val (.int (x &&& (3 : Int32))), .val (.int (1 : Int32)), .val (.int (1 : Int32)), .val (.ref b240), .val (.ref b267)] [(.int (own_hp (0 : Int32) (1 : Int32)))]))
            refine own_st (q' := T284.setTop (mkF m 144 #[.val (.ref u), .val (.int x), .val (.int e1), .val (.int (x &&& (3 : Int32))), .val (.int (1 : Int32)), .val (.int (1 : Int32)), .val (.ref b240), .val (.ref b267)] [(.ref b267), (.ref u)])) (fun _ k => XS.iload X284.here hx rfl (hb hby d_rmT_134) rfl (XS.icmpYes X284.here hx rfl (pc0 := 136) (pc' := 141) rfl (hb hby d_rmT_136) rfl (teq (by decide : (own_hp (0 : Int32) (1 : Int32)) = (1 : Int32))).1 (by decide) (by decide) (XS.aloadN X284.here hx rfl (hb hby d_rmT_141) rfl rfl (XS.aload X284.here hx rfl (hb hby d_rmT_142) rfl rfl k)))) ?_
            have f285 := (f283.keep KK280)
            have f286 := (((((U_pu.ext E240).keep KK243 (ninS (Nat.ne_of_lt lt_u_b240) nin0)).ext E267).keep KK273 (ninS (Nat.ne_of_lt lt_u_b267) nin0)).keep KK280 (ninS (Nat.ne_of_lt lt_u_b267) (ninS (Nat.ne_of_lt (Nat.lt_of_lt_of_le f277.lt q273_1)) nin0)))
            have f287 := (((((U_re.ext E240).keep KK243 (ninS (Nat.ne_of_lt lt_u_b240) nin0)).ext E267).keep KK273 (ninS (Nat.ne_of_lt lt_u_b267) nin0)).keep KK280 (ninS (Nat.ne_of_lt lt_u_b267) (ninS (Nat.ne_of_lt (Nat.lt_of_lt_of_le f277.lt q273_1)) nin0)))
            have f288 := (((((U_pp.ext E240).keep KK243 (ninS (Nat.ne_of_lt lt_u_b240) nin0)).ext E267).keep KK273 (ninS (Nat.ne_of_lt lt_u_b267) nin0)).keep KK280 (ninS (Nat.ne_of_lt lt_u_b267) (ninS (Nat.ne_of_lt (Nat.lt_of_lt_of_le f277.lt q273_1)) nin0)))
            have f289 := (((((U_pr.ext E240).keep KK243 (ninS (Nat.ne_of_lt lt_u_b240) nin0)).ext E267).keep KK273 (ninS (Nat.ne_of_lt lt_u_b267) nin0)).keep KK280 (ninS (Nat.ne_of_lt lt_u_b267) (ninS (Nat.ne_of_lt (Nat.lt_of_lt_of_le f277.lt q273_1)) nin0)))
            have f290 := (((((U_id.ext E240).keep KK243 (ninS (Nat.ne_of_lt lt_u_b240) nin0)).ext E267).keep KK273 (ninS (Nat.ne_of_lt lt_u_b267) nin0)).keep KK280 (ninS (Nat.ne_of_lt lt_u_b267) (ninS (Nat.ne_of_lt (Nat.lt_of_lt_of_le f277.lt q273_1)) nin0)))
            have f291 := (((((HL1.ext E240).keep KK243 (ninS (Nat.ne_of_lt lt_L1_b240) nin0)).ext E267).keep KK273 (ninS (Nat.ne_of_lt lt_L1_b267) nin0)).keep KK280 (ninS (Nat.ne_of_lt lt_L1_b267) (ninS (Nat.ne_of_lt (Nat.lt_of_lt_of_le f274.lt q273_1)) nin0)))
            have f292 := (((((HL2.ext E240).keep KK243 (ninS (Nat.ne_of_lt lt_L2_b240) nin0)).ext E267).keep KK273 (ninS (Nat.ne_of_lt lt_L2_b267) nin0)).keep KK280 (ninS (Nat.ne_of_lt lt_L2_b267) (ninS (Nat.ne_of_lt (Nat.lt_of_lt_of_le f275.lt q273_1)) nin0)))
            have f293 := (q273_9.keep KK280 (ninS (Ne.symm (Nat.ne_of_lt (Nat.lt_of_lt_of_le A267.lt q273_0))) (ninS q273_2 nin0)))
            have f294 := (f278.keep KK280)
            refine own_callV (y := (⟨"com/example/rock_dove/rockdove/store/UnitOfWork", "absorb", "(Lcom/example/rock_dove/rockdove/store/UnitOfWork;)V"⟩ : MethodName)) X284 hx hZ hown (wd_139 hw) (wd_140 hw) (wd_142 hw) (wd_141 hw) (wd_2 hw) (wd_143 hw) (by decide) (rmAb1 l Z a0 hw [] u L1 L2 b267 x1273 x2273 b240 dc mir ea1 ea2 r280 k pp pr w280 iD T280.heap n0 (Nat.le_trans (Nat.le_trans (Nat.le_trans (Nat.le_trans (Nat.le_trans Z0 E240.1) KK243.1) E267.1) KK273.1) KK280.1) f285 gU f286 f287 f288 f289 f290 f291 f292 ne12 q280_1 ge_b267 q280_2 q280_3 q280_4 q280_5 q280_6 f293 q280_7 gF273 q280_8 q280_9 q280_10 (Nat.le_trans (Nat.le_trans (Nat.le_trans (Nat.le_trans (Nat.le_trans Z0 E240.1) KK243.1) E267.1) KK273.1) q280_0) (Nat.ne_of_lt lt_u_b267) (Nat.ne_of_lt (Nat.lt_of_lt_of_le f274.lt q273_0)) (Nat.ne_of_lt (Nat.lt_of_lt_of_le f274.lt q273_1)) (Nat.ne_of_lt (Nat.lt_of_lt_of_le f275.lt q273_0)) (Nat.ne_of_lt (Nat.lt_of_lt_of_le f275.lt q273_1)) q273_2 hk q280_11 Mi f294 q280_12 q280_13) e284 f285 (W := 0) (by decide) (by decide) (by decide) (by decide) (g := (mkF m 144 #[.val (.ref u), .val (.int x), .val (.int e1), .val (.int (x &&& (3 : Int32))), .val (.int (1 : Int32)), .val (.int (1 : Int32)), .val (.ref b240), .val (.ref b267)] [(.ref b267), (.ref u)])) rfl (by rw [hml]; rfl) (argsL := [(.ref b267)]) (rest := []) rfl (lenOf pd_12 rfl) rfl (by show 2 * 0 + _ ≤ _; exact Nat.le_of_eq rfl) (hb hby d_rmT_144) ?_
            intro v295 T295 L295 hQ295 X295
            obtain ⟨rfl, NN295, ZZ295, UU295, y295_0, y295_1, y295_2, SS295, AA295⟩ := hQ295
            have N295 := Fr.app N284 NN295
            have UC295 := UU295
            obtain ⟨EU295, -, pu295, re295, pp295, pr295, -⟩ := UC295
            show own_Dn p e below s (fun v h L => ∃ x y : Int32, v = some (.int (own_hp x y)) ∧ Fr n0 L ∧ n0 ≤ h.size ∧ own_U Z n0 dc h u L1 L2 (k + 1) x y ∧ 0 ≤ x.toInt ∧ x.toInt ≤ ((k + 1 : Nat) : Int) ∧ 0 ≤ y.toInt ∧ y.toInt ≤ ((k + 1 : Nat) : Int) ∧ Sta Z h "java/util/ArrayList" "DEFAULTCAPACITY_EMPTY_ELEMENTDATA" "[Ljava/lang/Object;" (.ref dc) ∧ own_A Z h dc 0) ({ frames := 6, cells := 7, slots := 44, locals := 88 } : Room).cells ({ frames := 6, cells := 7, slots := 44, locals := 88 } : Room).slots (T295.setTop (mkF m 147 #[.val (.ref u), .val (.int x), .val (.int e1), .val (.int (x &&& (3 : Int32))), .val (.int (1 : Int32)), .val (.int (1 : Int32)), .val (.ref b240), .val (.ref b267)] []))
            refine own_st (q' := T295.setTop (mkF m 149 #[.val (.ref u), .val (.int x), .val (.int e1), .val (.int (x &&& (3 : Int32))), .val (.int (1 : Int32)), .val (.int (1 : Int32)), .val (.ref b240), .val (.ref b267)] [(.ref b267)])) (fun _ k => XS.aload X295.here hx rfl (hb hby d_rmT_147) rfl rfl k) ?_
            refine own_callV (y := (⟨"com/example/rock_dove/rockdove/store/UnitOfWork", "holdsPersistent", "()Z"⟩ : MethodName)) X295 hx hZ hown (wd_37 hw) (wd_38 hw) (wd_40 hw) (wd_39 hw) (wd_2 hw) (wd_41 hw) (by decide) (rmHP l Z a0 hw [] b267 (0 : Int32) (0 : Int32) T295.heap n0 ZZ295 y295_0 y295_1) (rfl : T295.heap = T295.heap) y295_2 (W := 0) (by decide) (by decide) (by decide) (by decide) (g := (mkF m 149 #[.val (.ref u), .val (.int x), .val (.int e1), .val (.int (x &&& (3 : Int32))), .val (.int (1 : Int32)), .val (.int (1 : Int32)), .val (.ref b240), .val (.ref b267)] [(.ref b267)])) rfl (by rw [hml]; rfl) (argsL := []) (rest := []) rfl (lenOf pd_8 rfl) rfl (by show 2 * 0 + _ ≤ _; exact Nat.le_of_eq rfl) (hb hby d_rmT_149) ?_
            intro v296 T296 L296 hQ296 X296
            obtain ⟨rfl, NN296, e296⟩ := hQ296
            have N296 := Fr.app N295 NN296
            show own_Dn p e below s (fun v h L => ∃ x y : Int32, v = some (.int (own_hp x y)) ∧ Fr n0 L ∧ n0 ≤ h.size ∧ own_U Z n0 dc h u L1 L2 (k + 1) x y ∧ 0 ≤ x.toInt ∧ x.toInt ≤ ((k + 1 : Nat) : Int) ∧ 0 ≤ y.toInt ∧ y.toInt ≤ ((k + 1 : Nat) : Int) ∧ Sta Z h "java/util/ArrayList" "DEFAULTCAPACITY_EMPTY_ELEMENTDATA" "[Ljava/lang/Object;" (.ref dc) ∧ own_A Z h dc 0) ({ frames := 6, cells := 7, slots := 44, locals := 88 } : Room).cells ({ frames := 6, cells := 7, slots := 44, locals := 88 } : Room).slots (T296.setTop (mkF m 152 #[.val (.ref u), .val (.int x), .val (.int e1), .val (.int (x &&& (3 : Int32))), .val (.int (1 : Int32)), .val (.int (1 : Int32)), .val (.ref b240), .val (.ref b267)] [(.int (own_hp (0 : Int32) (0 : Int32)))]))
            refine own_st (q' := T296.setTop (mkF m 172 #[.val (.ref u), .val (.int x), .val (.int e1), .val (.int (x &&& (3 : Int32))), .val (.int (1 : Int32)), .val (.int (1 : Int32)), .val (.ref b240), .val (.ref b267)] [(.int (1 : Int32))])) (fun _ k => XS.ifYes X296.here hx rfl (pc0 := 152) (pc' := 157) rfl (hb hby d_rmT_152) rfl ((if0 _ _).trans (teq (by decide : (own_hp (0 : Int32) (0 : Int32)) = (0 : Int32))).1) (by decide) (by decide) (XS.iload X296.here hx rfl (hb hby d_rmT_157) rfl (XS.ifYes X296.here hx rfl (pc0 := 159) (pc' := 167) rfl (hb hby d_rmT_159) rfl ((if0 _ _).trans (feq ((by decide : ¬ ((1 : Int32) = (0 : Int32))) : ¬ ((1 : Int32) = (0 : Int32)))).2) (by decide) (by decide) (XS.iconst X296.here hx rfl (hb hby d_rmT_167) (XS.goto X296.here hx rfl (pc0 := 168) (pc' := 172) rfl (hb hby d_rmT_168) (by decide) (by decide) k))))) ?_
            refine own_st (q' := T296.setTop (mkF m 185 #[.val (.ref u), .val (.int x), .val (.int e1), .val (.int (x &&& (3 : Int32))), .val (.int (1 : Int32)), .val (.int (1 : Int32)), .val (.ref b240), .val (.ref b267)] [(.ref u)])) (fun _ k => XS.istore X296.here hx rfl (hb hby d_rmT_172) rfl (l' := #[.val (.ref u), .val (.int x), .val (.int e1), .val (.int (x &&& (3 : Int32))), .val (.int (1 : Int32)), .val (.int (1 : Int32)), .val (.ref b240), .val (.ref b267)]) rfl (XS.goto X296.here hx rfl (pc0 := 174) (pc' := 184) rfl (hb hby d_rmT_174) (by decide) (by decide) (XS.aloadN X296.here hx rfl (hb hby d_rmT_184) rfl rfl k))) ?_
            refine own_callV (y := (⟨"com/example/rock_dove/rockdove/store/UnitOfWork", "holdsPersistent", "()Z"⟩ : MethodName)) X296 hx hZ hown (wd_37 hw) (wd_38 hw) (wd_40 hw) (wd_39 hw) (wd_2 hw) (wd_41 hw) (by decide) (rmHP l Z a0 hw [] u pp (pr + (1 : Int32)) T295.heap n0 ZZ295 pp295 pr295) e296 EU295 (W := 0) (by decide) (by decide) (by decide) (by decide) (g := (mkF m 185 #[.val (.ref u), .val (.int x), .val (.int e1), .val (.int (x &&& (3 : Int32))), .val (.int (1 : Int32)), .val (.int (1 : Int32)), .val (.ref b240), .val (.ref b267)] [(.ref u)])) rfl (by rw [hml]; rfl) (argsL := []) (rest := []) rfl (lenOf pd_8 rfl) rfl (by show 2 * 0 + _ ≤ _; exact Nat.le_of_eq rfl) (hb hby d_rmT_185) ?_
            intro v297 T297 L297 hQ297 X297
            obtain ⟨rfl, NN297, e297⟩ := hQ297
            have N297 := Fr.app N296 NN297
            show own_Dn p e below s (fun v h L => ∃ x y : Int32, v = some (.int (own_hp x y)) ∧ Fr n0 L ∧ n0 ≤ h.size ∧ own_U Z n0 dc h u L1 L2 (k + 1) x y ∧ 0 ≤ x.toInt ∧ x.toInt ≤ ((k + 1 : Nat) : Int) ∧ 0 ≤ y.toInt ∧ y.toInt ≤ ((k + 1 : Nat) : Int) ∧ Sta Z h "java/util/ArrayList" "DEFAULTCAPACITY_EMPTY_ELEMENTDATA" "[Ljava/lang/Object;" (.ref dc) ∧ own_A Z h dc 0) ({ frames := 6, cells := 7, slots := 44, locals := 88 } : Room).cells ({ frames := 6, cells := 7, slots := 44, locals := 88 } : Room).slots (T297.setTop (mkF m 188 #[.val (.ref u), .val (.int x), .val (.int e1), .val (.int (x &&& (3 : Int32))), .val (.int (1 : Int32)), .val (.int (1 : Int32)), .val (.ref b240), .val (.ref b267)] [(.int (own_hp pp (pr + (1 : Int32))))]))
            refine own_st (q' := T297.setTop (mkF m 190 #[.val (.ref u), .val (.int x), .val (.int e1), .val (.int (x &&& (3 : Int32))), .val (.int (1 : Int32)), .val (.int (1 : Int32)), .val (.ref b240), .val (.ref b267)] [(.int (1 : Int32)), (.int (own_hp pp (pr + (1 : Int32))))])) (fun _ k => XS.iload X297.here hx rfl (hb hby d_rmT_188) rfl k) ?_
            have HPF : (own_hp pp (pr + (1 : Int32))) = (1 : Int32) := (own_hpB b3 b4 (by omega))
            refine own_st (q' := T297.setTop (mkF m 205 #[.val (.ref u), .val (.int x), .val (.int e1), .val (.int (x &&& (3 : Int32))), .val (.int (1 : Int32)), .val (.int (1 : Int32)), .val (.ref b240), .val (.ref b267)] [(.int (1 : Int32))])) (fun _ k => XS.icmpYes X297.here hx rfl (pc0 := 190) (pc' := 195) rfl (hb hby d_rmT_190) rfl (teq (HPF : (own_hp pp (pr + (1 : Int32))) = (1 : Int32))).1 (by decide) (by decide) (XS.iload X297.here hx rfl (hb hby d_rmT_195) rfl (XS.ifNo X297.here hx rfl (hb hby d_rmT_197) rfl ((if0 _ _).trans (feq ((by decide : ¬ ((1 : Int32) = (0 : Int32))) : ¬ ((1 : Int32) = (0 : Int32)))).1) (XS.iconst X297.here hx rfl (hb hby d_rmT_200) (XS.goto X297.here hx rfl (pc0 := 201) (pc' := 205) rfl (hb hby d_rmT_201) (by decide) (by decide) k))))) ?_
            exact own_retI X297 hx hlk hret (hb hby d_rmT_205) e297 (by exact ⟨pp, (pr + (1 : Int32)), congrArg (fun z => some (Value.int z)) HPF.symm, N297, ZZ295, UU295, (own_up b1 b2).1, (own_up b1 b2).2, (own_inc b3 b4 (by omega)).1, (own_inc b3 b4 (by omega)).2, SS295, AA295⟩) (by decide) (by decide)
          · skip
            have hc110_266I : ¬ ((x &&& (3 : Int32))).toInt = (2 : Int) := own_eqF hc110_266
            refine own_st (q' := T243.setTop (mkF m 178 #[.val (.ref u), .val (.int x), .val (.int e1), .val (.int (x &&& (3 : Int32))), .val (.int (1 : Int32)), .val (.int (1 : Int32)), .val (.ref b240), .unset] [(.ref u)])) (fun _ k => XS.icmpYes X243.here hx rfl (pc0 := 110) (pc' := 177) rfl (hb hby d_rmT_110) rfl (feq hc110_266).2 (by decide) (by decide) (XS.aloadN X243.here hx rfl (hb hby d_rmT_177) rfl rfl k)) ?_
            have f298 := ((EU.ext E240).keep KK243)
            have f299 := ((U_pu.ext E240).keep KK243 (ninS (Nat.ne_of_lt lt_u_b240) nin0))
            have f300 := ((U_re.ext E240).keep KK243 (ninS (Nat.ne_of_lt lt_u_b240) nin0))
            have f301 := ((U_pp.ext E240).keep KK243 (ninS (Nat.ne_of_lt lt_u_b240) nin0))
            have f302 := ((U_pr.ext E240).keep KK243 (ninS (Nat.ne_of_lt lt_u_b240) nin0))
            have f303 := ((U_id.ext E240).keep KK243 (ninS (Nat.ne_of_lt lt_u_b240) nin0))
            have f304 := ((HL1.ext E240).keep KK243 (ninS (Nat.ne_of_lt lt_L1_b240) nin0))
            have f305 := ((HL2.ext E240).keep KK243 (ninS (Nat.ne_of_lt lt_L2_b240) nin0))
            refine own_callV (y := (⟨"com/example/rock_dove/rockdove/store/UnitOfWork", "end", "()V"⟩ : MethodName)) X243 hx hZ hown (wd_119 hw) (wd_120 hw) (wd_122 hw) (wd_121 hw) (wd_2 hw) (wd_123 hw) (by decide) (rmEnd l Z a0 hw [] u L1 L2 dc ea1 ea2 k pp pr iD T243.heap n0 (Nat.le_trans (Nat.le_trans Z0 E240.1) KK243.1) f298 gU f299 f300 f301 f302 f303 f304 f305 ne12 (by omega) q243_2 q243_3) (rfl : T243.heap = T243.heap) f298 (W := 0) (by decide) (by decide) (by decide) (by decide) (g := (mkF m 178 #[.val (.ref u), .val (.int x), .val (.int e1), .val (.int (x &&& (3 : Int32))), .val (.int (1 : Int32)), .val (.int (1 : Int32)), .val (.ref b240), .unset] [(.ref u)])) rfl (by rw [hml]; rfl) (argsL := []) (rest := []) rfl (lenOf pd_0 rfl) rfl (by show 2 * 0 + _ ≤ _; exact Nat.le_of_eq rfl) (hb hby d_rmT_178) ?_
            intro v306 T306 L306 hQ306 X306
            obtain ⟨rfl, NN306, KK306, q306_0, q306_1, q306_2, q306_3, q306_4, q306_5, q306_6, q306_7, q306_8, q306_9⟩ := hQ306
            have N306 := Fr.app N243 NN306
            have UU306 : own_U Z n0 dc T306.heap u L1 L2 (k + 1) (0 : Int32) (0 : Int32) := ⟨q306_0, gU, q306_1, q306_2, q306_3, q306_4, ⟨_, q306_5⟩, ⟨_, q306_6.mono (by omega)⟩, ⟨_, q306_7.mono (by omega)⟩⟩
            show own_Dn p e below s (fun v h L => ∃ x y : Int32, v = some (.int (own_hp x y)) ∧ Fr n0 L ∧ n0 ≤ h.size ∧ own_U Z n0 dc h u L1 L2 (k + 1) x y ∧ 0 ≤ x.toInt ∧ x.toInt ≤ ((k + 1 : Nat) : Int) ∧ 0 ≤ y.toInt ∧ y.toInt ≤ ((k + 1 : Nat) : Int) ∧ Sta Z h "java/util/ArrayList" "DEFAULTCAPACITY_EMPTY_ELEMENTDATA" "[Ljava/lang/Object;" (.ref dc) ∧ own_A Z h dc 0) ({ frames := 6, cells := 7, slots := 44, locals := 88 } : Room).cells ({ frames := 6, cells := 7, slots := 44, locals := 88 } : Room).slots (T306.setTop (mkF m 181 #[.val (.ref u), .val (.int x), .val (.int e1), .val (.int (x &&& (3 : Int32))), .val (.int (1 : Int32)), .val (.int (1 : Int32)), .val (.ref b240), .unset] []))
            refine own_st (q' := T306.setTop (mkF m 185 #[.val (.ref u), .val (.int x), .val (.int e1), .val (.int (x &&& (3 : Int32))), .val (.int (1 : Int32)), .val (.int (0 : Int32)), .val (.ref b240), .unset] [(.ref u)])) (fun _ k => XS.iconst X306.here hx rfl (hb hby d_rmT_181) (XS.istore X306.here hx rfl (hb hby d_rmT_182) rfl (l' := #[.val (.ref u), .val (.int x), .val (.int e1), .val (.int (x &&& (3 : Int32))), .val (.int (1 : Int32)), .val (.int (0 : Int32)), .val (.ref b240), .unset]) rfl (XS.aloadN X306.here hx rfl (hb hby d_rmT_184) rfl rfl k))) ?_
            refine own_callV (y := (⟨"com/example/rock_dove/rockdove/store/UnitOfWork", "holdsPersistent", "()Z"⟩ : MethodName)) X306 hx hZ hown (wd_37 hw) (wd_38 hw) (wd_40 hw) (wd_39 hw) (wd_2 hw) (wd_41 hw) (by decide) (rmHP l Z a0 hw [] u (0 : Int32) (0 : Int32) T306.heap n0 (Nat.le_trans (Nat.le_trans (Nat.le_trans Z0 E240.1) KK243.1) KK306.1) q306_3 q306_4) (rfl : T306.heap = T306.heap) q306_0 (W := 0) (by decide) (by decide) (by decide) (by decide) (g := (mkF m 185 #[.val (.ref u), .val (.int x), .val (.int e1), .val (.int (x &&& (3 : Int32))), .val (.int (1 : Int32)), .val (.int (0 : Int32)), .val (.ref b240), .unset] [(.ref u)])) rfl (by rw [hml]; rfl) (argsL := []) (rest := []) rfl (lenOf pd_8 rfl) rfl (by show 2 * 0 + _ ≤ _; exact Nat.le_of_eq rfl) (hb hby d_rmT_185) ?_
            intro v307 T307 L307 hQ307 X307
            obtain ⟨rfl, NN307, e307⟩ := hQ307
            have N307 := Fr.app N306 NN307
            show own_Dn p e below s (fun v h L => ∃ x y : Int32, v = some (.int (own_hp x y)) ∧ Fr n0 L ∧ n0 ≤ h.size ∧ own_U Z n0 dc h u L1 L2 (k + 1) x y ∧ 0 ≤ x.toInt ∧ x.toInt ≤ ((k + 1 : Nat) : Int) ∧ 0 ≤ y.toInt ∧ y.toInt ≤ ((k + 1 : Nat) : Int) ∧ Sta Z h "java/util/ArrayList" "DEFAULTCAPACITY_EMPTY_ELEMENTDATA" "[Ljava/lang/Object;" (.ref dc) ∧ own_A Z h dc 0) ({ frames := 6, cells := 7, slots := 44, locals := 88 } : Room).cells ({ frames := 6, cells := 7, slots := 44, locals := 88 } : Room).slots (T307.setTop (mkF m 188 #[.val (.ref u), .val (.int x), .val (.int e1), .val (.int (x &&& (3 : Int32))), .val (.int (1 : Int32)), .val (.int (0 : Int32)), .val (.ref b240), .unset] [(.int (own_hp (0 : Int32) (0 : Int32)))]))
            refine own_st (q' := T307.setTop (mkF m 190 #[.val (.ref u), .val (.int x), .val (.int e1), .val (.int (x &&& (3 : Int32))), .val (.int (1 : Int32)), .val (.int (0 : Int32)), .val (.ref b240), .unset] [(.int (0 : Int32)), (.int (own_hp (0 : Int32) (0 : Int32)))])) (fun _ k => XS.iload X307.here hx rfl (hb hby d_rmT_188) rfl k) ?_
            have HPF : (own_hp (0 : Int32) (0 : Int32)) = (0 : Int32) := (by decide)
            refine own_st (q' := T307.setTop (mkF m 205 #[.val (.ref u), .val (.int x), .val (.int e1), .val (.int (x &&& (3 : Int32))), .val (.int (1 : Int32)), .val (.int (0 : Int32)), .val (.ref b240), .unset] [(.int (0 : Int32))])) (fun _ k => XS.icmpYes X307.here hx rfl (pc0 := 190) (pc' := 195) rfl (hb hby d_rmT_190) rfl (teq (HPF : (own_hp (0 : Int32) (0 : Int32)) = (0 : Int32))).1 (by decide) (by decide) (XS.iload X307.here hx rfl (hb hby d_rmT_195) rfl (XS.ifYes X307.here hx rfl (pc0 := 197) (pc' := 204) rfl (hb hby d_rmT_197) rfl ((if0 _ _).trans (teq ((by decide : (0 : Int32) = (0 : Int32)) : (0 : Int32) = (0 : Int32))).1) (by decide) (by decide) (XS.iconst X307.here hx rfl (hb hby d_rmT_204) k)))) ?_
            exact own_retI X307 hx hlk hret (hb hby d_rmT_205) e307 (by exact ⟨(0 : Int32), (0 : Int32), congrArg (fun z => some (Value.int z)) HPF.symm, N307, (Nat.le_trans (Nat.le_trans (Nat.le_trans Z0 E240.1) KK243.1) KK306.1), UU306, (own_zu (k + 1)).1, (own_zu (k + 1)).2, (own_zu (k + 1)).1, (own_zu (k + 1)).2, q306_8, q306_9⟩) (by decide) (by decide)
    · skip
      have hc21_239I : ¬ (e1).toInt = (1 : Int) := own_eqF hc21_239
      refine own_st (q' := s₁.setTop (mkF m 31 #[.val (.ref u), .val (.int x), .val (.int e1), .val (.int (x &&& (3 : Int32))), .val (.int (1 : Int32)), .val (.int (0 : Int32)), .unset, .unset] [])) (fun _ k => XS.icmpYes X0.here hx rfl (pc0 := 21) (pc' := 28) rfl (hb hby d_rmT_21) rfl (feq hc21_239).2 (by decide) (by decide) (XS.iconst X0.here hx rfl (hb hby d_rmT_28) (XS.istore X0.here hx rfl (hb hby d_rmT_29) rfl (l' := #[.val (.ref u), .val (.int x), .val (.int e1), .val (.int (x &&& (3 : Int32))), .val (.int (1 : Int32)), .val (.int (0 : Int32)), .unset, .unset]) rfl k))) ?_
      obtain ⟨T308, h308, X308, e308, E308, A308, D308, -, st308⟩ := newO X0 hx hZ hown (wd_50 hw) (wd_51 hw) (wd_52 hw) e0 (g := (mkF m 31 #[.val (.ref u), .val (.int x), .val (.int e1), .val (.int (x &&& (3 : Int32))), .val (.int (1 : Int32)), .val (.int (0 : Int32)), .unset, .unset] [])) rfl (hb hby d_rmT_31) (by decide) (by decide)
      obtain ⟨b308, g308⟩ : ∃ z, z = h0.size := ⟨_, rfl⟩
      rw [← g308] at A308 D308 st308
      have lt_u_b308 : u < b308 := Nat.lt_of_lt_of_le EU.lt (Nat.le_of_eq g308.symm)
      have lt_L1_b308 : L1 < b308 := Nat.lt_of_lt_of_le HL1.1.lt (Nat.le_of_eq g308.symm)
      have lt_L2_b308 : L2 < b308 := Nat.lt_of_lt_of_le HL2.1.lt (Nat.le_of_eq g308.symm)
      have lt_dc_b308 : dc < b308 := Nat.lt_of_lt_of_le A0.lt (Nat.le_of_eq g308.symm)
      have ge_b308 : n0 ≤ b308 := Nat.le_trans Z0 (Nat.le_of_eq g308.symm)
      have F_sequence_b308 : Fld Z h308 b308 "com/example/rock_dove/rockdove/store/StoredMessage" "sequence" "J" (.long (0 : Int64)) := D308 (Or.inr (wd_63 hw)) (ty := .long) (by decide)
      have F_objectId_b308 : Fld Z h308 b308 "com/example/rock_dove/rockdove/store/StoredMessage" "objectId" "I" (.int (0 : Int32)) := D308 (Or.inr (wd_65 hw)) (ty := .int) (by decide)
      have F_persistent_b308 : Fld Z h308 b308 "com/example/rock_dove/rockdove/store/StoredMessage" "persistent" "Z" (.int (0 : Int32)) := D308 (Or.inr (wd_67 hw)) (ty := .boolean) (by decide)
      have F_unit_b308 : Fld Z h308 b308 "com/example/rock_dove/rockdove/store/StoredMessage" "unit" "J" (.long (0 : Int64)) := D308 (Or.inr (wd_69 hw)) (ty := .long) (by decide)
      have F_descriptorLength_b308 : Fld Z h308 b308 "com/example/rock_dove/rockdove/store/StoredMessage" "descriptorLength" "I" (.int (0 : Int32)) := D308 (Or.inr (wd_71 hw)) (ty := .int) (by decide)
      have F_dataLength_b308 : Fld Z h308 b308 "com/example/rock_dove/rockdove/store/StoredMessage" "dataLength" "I" (.int (0 : Int32)) := D308 (Or.inr (wd_73 hw)) (ty := .int) (by decide)
      refine own_st (q' := T308.setTop (mkF m 34 #[.val (.ref u), .val (.int x), .val (.int e1), .val (.int (x &&& (3 : Int32))), .val (.int (1 : Int32)), .val (.int (0 : Int32)), .unset, .unset] [(.ref b308)])) st308 ?_
      refine own_st (q' := T308.setTop (mkF m 40 #[.val (.ref u), .val (.int x), .val (.int e1), .val (.int (x &&& (3 : Int32))), .val (.int (1 : Int32)), .val (.int (0 : Int32)), .unset, .unset] [(.long (0 : Int64)), (.int (1 : Int32)), (.int (0 : Int32)), (.long (1 : Int64)), (.ref b308), (.ref b308)])) (fun _ k => XS.dup X308.here hx rfl (hb hby d_rmT_34) rfl rfl (XS.lconst X308.here hx rfl (hb hby d_rmT_35) (XS.iconst X308.here hx rfl (hb hby d_rmT_36) (XS.iload X308.here hx rfl (hb hby d_rmT_37) rfl (XS.lconst X308.here hx rfl (hb hby d_rmT_39) k))))) ?_
      refine own_st (q' := T308.setTop (mkF m 42 #[.val (.ref u), .val (.int x), .val (.int e1), .val (.int (x &&& (3 : Int32))), .val (.int (1 : Int32)), .val (.int (0 : Int32)), .unset, .unset] [(.int (0 : Int32)), (.int (0 : Int32)), (.long (0 : Int64)), (.int (1 : Int32)), (.int (0 : Int32)), (.long (1 : Int64)), (.ref b308), (.ref b308)])) (fun _ k => XS.iconst X308.here hx rfl (hb hby d_rmT_40) (XS.iconst X308.here hx rfl (hb hby d_rmT_41) k)) ?_
      have f309 := (Fs.ext E308)
      have f310 := (A0.ext E308)
      refine own_callI (y := (⟨"com/example/rock_dove/rockdove/store/StoredMessage", "<init>", "(JIZJII)V"⟩ : MethodName)) X308 hx hZ hown rfl (wd_53 hw) (wd_54 hw) (wd_52 hw) (wd_55 hw) (by decide) (rmSI1 l Z a0 hw [] b308 dc h308 n0 (Nat.le_trans Z0 E308.1) A308 ge_b308 F_sequence_b308 F_objectId_b308 F_persistent_b308 F_unit_b308 F_descriptorLength_b308 F_dataLength_b308 f309 f310) e308 (W := 1) (by decide) (by decide) (by decide) (by decide) (g := (mkF m 42 #[.val (.ref u), .val (.int x), .val (.int e1), .val (.int (x &&& (3 : Int32))), .val (.int (1 : Int32)), .val (.int (0 : Int32)), .unset, .unset] [(.int (0 : Int32)), (.int (0 : Int32)), (.long (0 : Int64)), (.int (1 : Int32)), (.int (0 : Int32)), (.long (1 : Int64)), (.ref b308), (.ref b308)])) rfl (by rw [hml]; rfl) (a := b308) (argsL := [(.long (1 : Int64)), (.int (0 : Int32)), (.int (1 : Int32)), (.long (0 : Int64)), (.int (0 : Int32)), (.int (0 : Int32))]) (rest := [(.ref b308)]) rfl (lenOf pd_10 rfl) rfl (by show 2 * 0 + _ ≤ _; exact Nat.le_of_eq rfl) (hb hby d_rmT_42) ?_
      intro v311 T311 L311 hQ311 X311
      obtain ⟨rfl, NN311, KK311, q311_0, q311_1, q311_2, q311_3⟩ := hQ311
      have N311 := Fr.app N0 NN311
      show own_Dn p e below s (fun v h L => ∃ x y : Int32, v = some (.int (own_hp x y)) ∧ Fr n0 L ∧ n0 ≤ h.size ∧ own_U Z n0 dc h u L1 L2 (k + 1) x y ∧ 0 ≤ x.toInt ∧ x.toInt ≤ ((k + 1 : Nat) : Int) ∧ 0 ≤ y.toInt ∧ y.toInt ≤ ((k + 1 : Nat) : Int) ∧ Sta Z h "java/util/ArrayList" "DEFAULTCAPACITY_EMPTY_ELEMENTDATA" "[Ljava/lang/Object;" (.ref dc) ∧ own_A Z h dc 0) ({ frames := 6, cells := 7, slots := 44, locals := 88 } : Room).cells ({ frames := 6, cells := 7, slots := 44, locals := 88 } : Room).slots (T311.setTop (mkF m 45 #[.val (.ref u), .val (.int x), .val (.int e1), .val (.int (x &&& (3 : Int32))), .val (.int (1 : Int32)), .val (.int (0 : Int32)), .unset, .unset] [(.ref b308)]))
      refine own_st (q' := T311.setTop (mkF m 48 #[.val (.ref u), .val (.int x), .val (.int e1), .val (.int (x &&& (3 : Int32))), .val (.int (1 : Int32)), .val (.int (0 : Int32)), .val (.ref b308), .unset] [(.int (x &&& (3 : Int32)))])) (fun _ k => XS.astore X311.here hx rfl (hb hby d_rmT_45) rfl rfl (l' := #[.val (.ref u), .val (.int x), .val (.int e1), .val (.int (x &&& (3 : Int32))), .val (.int (1 : Int32)), .val (.int (0 : Int32)), .val (.ref b308), .unset]) rfl (XS.iloadN X311.here hx rfl (hb hby d_rmT_47) rfl k)) ?_
      by_cases hc48_312 : (x &&& (3 : Int32)) = (0 : Int32)
      · skip
        have hc48_312I : ((x &&& (3 : Int32))).toInt = (0 : Int) := own_eqT hc48_312
        refine own_st (q' := T311.setTop (mkF m 54 #[.val (.ref u), .val (.int x), .val (.int e1), .val (.int (x &&& (3 : Int32))), .val (.int (1 : Int32)), .val (.int (0 : Int32)), .val (.ref b308), .unset] [(.ref b308), (.ref u)])) (fun _ k => XS.ifNo X311.here hx rfl (hb hby d_rmT_48) rfl ((if0 _ _).trans (teq hc48_312).2) (XS.aloadN X311.here hx rfl (hb hby d_rmT_51) rfl rfl (XS.aload X311.here hx rfl (hb hby d_rmT_52) rfl rfl k))) ?_
        have f313 := ((EU.ext E308).keep KK311)
        have f314 := ((U_pu.ext E308).keep KK311 (ninS (Nat.ne_of_lt lt_u_b308) nin0))
        have f315 := ((U_re.ext E308).keep KK311 (ninS (Nat.ne_of_lt lt_u_b308) nin0))
        have f316 := ((U_pp.ext E308).keep KK311 (ninS (Nat.ne_of_lt lt_u_b308) nin0))
        have f317 := ((U_pr.ext E308).keep KK311 (ninS (Nat.ne_of_lt lt_u_b308) nin0))
        have f318 := ((U_id.ext E308).keep KK311 (ninS (Nat.ne_of_lt lt_u_b308) nin0))
        have f319 := ((HL1.ext E308).keep KK311 (ninS (Nat.ne_of_lt lt_L1_b308) nin0))
        have f320 := ((HL2.ext E308).keep KK311 (ninS (Nat.ne_of_lt lt_L2_b308) nin0))
        refine own_callV (y := (⟨"com/example/rock_dove/rockdove/store/UnitOfWork", "addPut", "(Lcom/example/rock_dove/rockdove/store/StoredMessage;)V"⟩ : MethodName)) X311 hx hZ hown (wd_74 hw) (wd_75 hw) (wd_77 hw) (wd_76 hw) (wd_2 hw) (wd_78 hw) (by decide) (rmAP1 l Z a0 hw [] u L1 L2 b308 dc ea1 ea2 k pp pr iD T311.heap n0 (Nat.le_trans (Nat.le_trans Z0 E308.1) KK311.1) f313 gU f314 f315 f316 f317 f318 f319 f320 ne12 (by omega) q311_0 q311_1 q311_2 q311_3) (rfl : T311.heap = T311.heap) f313 (W := 0) (by decide) (by decide) (by decide) (by decide) (g := (mkF m 54 #[.val (.ref u), .val (.int x), .val (.int e1), .val (.int (x &&& (3 : Int32))), .val (.int (1 : Int32)), .val (.int (0 : Int32)), .val (.ref b308), .unset] [(.ref b308), (.ref u)])) rfl (by rw [hml]; rfl) (argsL := [(.ref b308)]) (rest := []) rfl (lenOf pd_11 rfl) rfl (by show 2 * 0 + _ ≤ _; exact Nat.le_of_eq rfl) (hb hby d_rmT_54) ?_
        intro v321 T321 L321 hQ321 X321
        obtain ⟨rfl, NN321, ZZ321, UU321, SS321, AA321⟩ := hQ321
        have N321 := Fr.app N311 NN321
        have UC321 := UU321
        obtain ⟨EU321, -, pu321, re321, pp321, pr321, -⟩ := UC321
        show own_Dn p e below s (fun v h L => ∃ x y : Int32, v = some (.int (own_hp x y)) ∧ Fr n0 L ∧ n0 ≤ h.size ∧ own_U Z n0 dc h u L1 L2 (k + 1) x y ∧ 0 ≤ x.toInt ∧ x.toInt ≤ ((k + 1 : Nat) : Int) ∧ 0 ≤ y.toInt ∧ y.toInt ≤ ((k + 1 : Nat) : Int) ∧ Sta Z h "java/util/ArrayList" "DEFAULTCAPACITY_EMPTY_ELEMENTDATA" "[Ljava/lang/Object;" (.ref dc) ∧ own_A Z h dc 0) ({ frames := 6, cells := 7, slots := 44, locals := 88 } : Room).cells ({ frames := 6, cells := 7, slots := 44, locals := 88 } : Room).slots (T321.setTop (mkF m 57 #[.val (.ref u), .val (.int x), .val (.int e1), .val (.int (x &&& (3 : Int32))), .val (.int (1 : Int32)), .val (.int (0 : Int32)), .val (.ref b308), .unset] []))
        refine own_st (q' := T321.setTop (mkF m 68 #[.val (.ref u), .val (.int x), .val (.int e1), .val (.int (x &&& (3 : Int32))), .val (.int (1 : Int32)), .val (.int (0 : Int32)), .val (.ref b308), .unset] [(.int (1 : Int32))])) (fun _ k => XS.iload X321.here hx rfl (hb hby d_rmT_57) rfl (XS.ifNo X321.here hx rfl (hb hby d_rmT_59) rfl ((if0 _ _).trans (teq ((by decide : (0 : Int32) = (0 : Int32)) : (0 : Int32) = (0 : Int32))).2) (XS.iload X321.here hx rfl (hb hby d_rmT_62) rfl (XS.ifNo X321.here hx rfl (hb hby d_rmT_64) rfl ((if0 _ _).trans (feq ((by decide : ¬ ((1 : Int32) = (0 : Int32))) : ¬ ((1 : Int32) = (0 : Int32)))).1) (XS.iconst X321.here hx rfl (hb hby d_rmT_67) k))))) ?_
        refine own_st (q' := T321.setTop (mkF m 185 #[.val (.ref u), .val (.int x), .val (.int e1), .val (.int (x &&& (3 : Int32))), .val (.int (1 : Int32)), .val (.int (1 : Int32)), .val (.ref b308), .unset] [(.ref u)])) (fun _ k => XS.goto X321.here hx rfl (pc0 := 68) (pc' := 72) rfl (hb hby d_rmT_68) (by decide) (by decide) (XS.istore X321.here hx rfl (hb hby d_rmT_72) rfl (l' := #[.val (.ref u), .val (.int x), .val (.int e1), .val (.int (x &&& (3 : Int32))), .val (.int (1 : Int32)), .val (.int (1 : Int32)), .val (.ref b308), .unset]) rfl (XS.goto X321.here hx rfl (pc0 := 74) (pc' := 184) rfl (hb hby d_rmT_74) (by decide) (by decide) (XS.aloadN X321.here hx rfl (hb hby d_rmT_184) rfl rfl k)))) ?_
        refine own_callV (y := (⟨"com/example/rock_dove/rockdove/store/UnitOfWork", "holdsPersistent", "()Z"⟩ : MethodName)) X321 hx hZ hown (wd_37 hw) (wd_38 hw) (wd_40 hw) (wd_39 hw) (wd_2 hw) (wd_41 hw) (by decide) (rmHP l Z a0 hw [] u (pp + (1 : Int32)) pr T321.heap n0 ZZ321 pp321 pr321) (rfl : T321.heap = T321.heap) EU321 (W := 0) (by decide) (by decide) (by decide) (by decide) (g := (mkF m 185 #[.val (.ref u), .val (.int x), .val (.int e1), .val (.int (x &&& (3 : Int32))), .val (.int (1 : Int32)), .val (.int (1 : Int32)), .val (.ref b308), .unset] [(.ref u)])) rfl (by rw [hml]; rfl) (argsL := []) (rest := []) rfl (lenOf pd_8 rfl) rfl (by show 2 * 0 + _ ≤ _; exact Nat.le_of_eq rfl) (hb hby d_rmT_185) ?_
        intro v322 T322 L322 hQ322 X322
        obtain ⟨rfl, NN322, e322⟩ := hQ322
        have N322 := Fr.app N321 NN322
        show own_Dn p e below s (fun v h L => ∃ x y : Int32, v = some (.int (own_hp x y)) ∧ Fr n0 L ∧ n0 ≤ h.size ∧ own_U Z n0 dc h u L1 L2 (k + 1) x y ∧ 0 ≤ x.toInt ∧ x.toInt ≤ ((k + 1 : Nat) : Int) ∧ 0 ≤ y.toInt ∧ y.toInt ≤ ((k + 1 : Nat) : Int) ∧ Sta Z h "java/util/ArrayList" "DEFAULTCAPACITY_EMPTY_ELEMENTDATA" "[Ljava/lang/Object;" (.ref dc) ∧ own_A Z h dc 0) ({ frames := 6, cells := 7, slots := 44, locals := 88 } : Room).cells ({ frames := 6, cells := 7, slots := 44, locals := 88 } : Room).slots (T322.setTop (mkF m 188 #[.val (.ref u), .val (.int x), .val (.int e1), .val (.int (x &&& (3 : Int32))), .val (.int (1 : Int32)), .val (.int (1 : Int32)), .val (.ref b308), .unset] [(.int (own_hp (pp + (1 : Int32)) pr))]))
        refine own_st (q' := T322.setTop (mkF m 190 #[.val (.ref u), .val (.int x), .val (.int e1), .val (.int (x &&& (3 : Int32))), .val (.int (1 : Int32)), .val (.int (1 : Int32)), .val (.ref b308), .unset] [(.int (1 : Int32)), (.int (own_hp (pp + (1 : Int32)) pr))])) (fun _ k => XS.iload X322.here hx rfl (hb hby d_rmT_188) rfl k) ?_
        have HPF : (own_hp (pp + (1 : Int32)) pr) = (1 : Int32) := (own_hpA b1 b2 (by omega))
        refine own_st (q' := T322.setTop (mkF m 205 #[.val (.ref u), .val (.int x), .val (.int e1), .val (.int (x &&& (3 : Int32))), .val (.int (1 : Int32)), .val (.int (1 : Int32)), .val (.ref b308), .unset] [(.int (1 : Int32))])) (fun _ k => XS.icmpYes X322.here hx rfl (pc0 := 190) (pc' := 195) rfl (hb hby d_rmT_190) rfl (teq (HPF : (own_hp (pp + (1 : Int32)) pr) = (1 : Int32))).1 (by decide) (by decide) (XS.iload X322.here hx rfl (hb hby d_rmT_195) rfl (XS.ifNo X322.here hx rfl (hb hby d_rmT_197) rfl ((if0 _ _).trans (feq ((by decide : ¬ ((1 : Int32) = (0 : Int32))) : ¬ ((1 : Int32) = (0 : Int32)))).1) (XS.iconst X322.here hx rfl (hb hby d_rmT_200) (XS.goto X322.here hx rfl (pc0 := 201) (pc' := 205) rfl (hb hby d_rmT_201) (by decide) (by decide) k))))) ?_
        exact own_retI X322 hx hlk hret (hb hby d_rmT_205) e322 (by exact ⟨(pp + (1 : Int32)), pr, congrArg (fun z => some (Value.int z)) HPF.symm, N322, ZZ321, UU321, (own_inc b1 b2 (by omega)).1, (own_inc b1 b2 (by omega)).2, (own_up b3 b4).1, (own_up b3 b4).2, SS321, AA321⟩) (by decide) (by decide)
      · skip
        have hc48_312I : ¬ ((x &&& (3 : Int32))).toInt = (0 : Int) := own_eqF hc48_312
        refine own_st (q' := T311.setTop (mkF m 79 #[.val (.ref u), .val (.int x), .val (.int e1), .val (.int (x &&& (3 : Int32))), .val (.int (1 : Int32)), .val (.int (0 : Int32)), .val (.ref b308), .unset] [(.int (1 : Int32)), (.int (x &&& (3 : Int32)))])) (fun _ k => XS.ifYes X311.here hx rfl (pc0 := 48) (pc' := 77) rfl (hb hby d_rmT_48) rfl ((if0 _ _).trans (feq hc48_312).2) (by decide) (by decide) (XS.iloadN X311.here hx rfl (hb hby d_rmT_77) rfl (XS.iconst X311.here hx rfl (hb hby d_rmT_78) k))) ?_
        by_cases hc79_323 : (x &&& (3 : Int32)) = (1 : Int32)
        · skip
          have hc79_323I : ((x &&& (3 : Int32))).toInt = (1 : Int) := own_eqT hc79_323
          refine own_st (q' := T311.setTop (mkF m 85 #[.val (.ref u), .val (.int x), .val (.int e1), .val (.int (x &&& (3 : Int32))), .val (.int (1 : Int32)), .val (.int (0 : Int32)), .val (.ref b308), .unset] [(.ref b308), (.ref u)])) (fun _ k => XS.icmpNo X311.here hx rfl (hb hby d_rmT_79) rfl (teq hc79_323).2 (XS.aloadN X311.here hx rfl (hb hby d_rmT_82) rfl rfl (XS.aload X311.here hx rfl (hb hby d_rmT_83) rfl rfl k))) ?_
          have f324 := ((EU.ext E308).keep KK311)
          have f325 := ((U_pu.ext E308).keep KK311 (ninS (Nat.ne_of_lt lt_u_b308) nin0))
          have f326 := ((U_re.ext E308).keep KK311 (ninS (Nat.ne_of_lt lt_u_b308) nin0))
          have f327 := ((U_pp.ext E308).keep KK311 (ninS (Nat.ne_of_lt lt_u_b308) nin0))
          have f328 := ((U_pr.ext E308).keep KK311 (ninS (Nat.ne_of_lt lt_u_b308) nin0))
          have f329 := ((U_id.ext E308).keep KK311 (ninS (Nat.ne_of_lt lt_u_b308) nin0))
          have f330 := ((HL1.ext E308).keep KK311 (ninS (Nat.ne_of_lt lt_L1_b308) nin0))
          have f331 := ((HL2.ext E308).keep KK311 (ninS (Nat.ne_of_lt lt_L2_b308) nin0))
          refine own_callV (y := (⟨"com/example/rock_dove/rockdove/store/UnitOfWork", "addRemoval", "(Lcom/example/rock_dove/rockdove/store/StoredMessage;)V"⟩ : MethodName)) X311 hx hZ hown (wd_134 hw) (wd_135 hw) (wd_137 hw) (wd_136 hw) (wd_2 hw) (wd_138 hw) (by decide) (rmAR1 l Z a0 hw [] u L1 L2 b308 dc ea1 ea2 k pp pr iD T311.heap n0 (Nat.le_trans (Nat.le_trans Z0 E308.1) KK311.1) f324 gU f325 f326 f327 f328 f329 f330 f331 ne12 (by omega) q311_0 q311_1 q311_2 q311_3) (rfl : T311.heap = T311.heap) f324 (W := 0) (by decide) (by decide) (by decide) (by decide) (g := (mkF m 85 #[.val (.ref u), .val (.int x), .val (.int e1), .val (.int (x &&& (3 : Int32))), .val (.int (1 : Int32)), .val (.int (0 : Int32)), .val (.ref b308), .unset] [(.ref b308), (.ref u)])) rfl (by rw [hml]; rfl) (argsL := [(.ref b308)]) (rest := []) rfl (lenOf pd_11 rfl) rfl (by show 2 * 0 + _ ≤ _; exact Nat.le_of_eq rfl) (hb hby d_rmT_85) ?_
          intro v332 T332 L332 hQ332 X332
          obtain ⟨rfl, NN332, ZZ332, UU332, SS332, AA332⟩ := hQ332
          have N332 := Fr.app N311 NN332
          have UC332 := UU332
          obtain ⟨EU332, -, pu332, re332, pp332, pr332, -⟩ := UC332
          show own_Dn p e below s (fun v h L => ∃ x y : Int32, v = some (.int (own_hp x y)) ∧ Fr n0 L ∧ n0 ≤ h.size ∧ own_U Z n0 dc h u L1 L2 (k + 1) x y ∧ 0 ≤ x.toInt ∧ x.toInt ≤ ((k + 1 : Nat) : Int) ∧ 0 ≤ y.toInt ∧ y.toInt ≤ ((k + 1 : Nat) : Int) ∧ Sta Z h "java/util/ArrayList" "DEFAULTCAPACITY_EMPTY_ELEMENTDATA" "[Ljava/lang/Object;" (.ref dc) ∧ own_A Z h dc 0) ({ frames := 6, cells := 7, slots := 44, locals := 88 } : Room).cells ({ frames := 6, cells := 7, slots := 44, locals := 88 } : Room).slots (T332.setTop (mkF m 88 #[.val (.ref u), .val (.int x), .val (.int e1), .val (.int (x &&& (3 : Int32))), .val (.int (1 : Int32)), .val (.int (0 : Int32)), .val (.ref b308), .unset] []))
          refine own_st (q' := T332.setTop (mkF m 99 #[.val (.ref u), .val (.int x), .val (.int e1), .val (.int (x &&& (3 : Int32))), .val (.int (1 : Int32)), .val (.int (0 : Int32)), .val (.ref b308), .unset] [(.int (1 : Int32))])) (fun _ k => XS.iload X332.here hx rfl (hb hby d_rmT_88) rfl (XS.ifNo X332.here hx rfl (hb hby d_rmT_90) rfl ((if0 _ _).trans (teq ((by decide : (0 : Int32) = (0 : Int32)) : (0 : Int32) = (0 : Int32))).2) (XS.iload X332.here hx rfl (hb hby d_rmT_93) rfl (XS.ifNo X332.here hx rfl (hb hby d_rmT_95) rfl ((if0 _ _).trans (feq ((by decide : ¬ ((1 : Int32) = (0 : Int32))) : ¬ ((1 : Int32) = (0 : Int32)))).1) (XS.iconst X332.here hx rfl (hb hby d_rmT_98) k))))) ?_
          refine own_st (q' := T332.setTop (mkF m 185 #[.val (.ref u), .val (.int x), .val (.int e1), .val (.int (x &&& (3 : Int32))), .val (.int (1 : Int32)), .val (.int (1 : Int32)), .val (.ref b308), .unset] [(.ref u)])) (fun _ k => XS.goto X332.here hx rfl (pc0 := 99) (pc' := 103) rfl (hb hby d_rmT_99) (by decide) (by decide) (XS.istore X332.here hx rfl (hb hby d_rmT_103) rfl (l' := #[.val (.ref u), .val (.int x), .val (.int e1), .val (.int (x &&& (3 : Int32))), .val (.int (1 : Int32)), .val (.int (1 : Int32)), .val (.ref b308), .unset]) rfl (XS.goto X332.here hx rfl (pc0 := 105) (pc' := 184) rfl (hb hby d_rmT_105) (by decide) (by decide) (XS.aloadN X332.here hx rfl (hb hby d_rmT_184) rfl rfl k)))) ?_
          refine own_callV (y := (⟨"com/example/rock_dove/rockdove/store/UnitOfWork", "holdsPersistent", "()Z"⟩ : MethodName)) X332 hx hZ hown (wd_37 hw) (wd_38 hw) (wd_40 hw) (wd_39 hw) (wd_2 hw) (wd_41 hw) (by decide) (rmHP l Z a0 hw [] u pp (pr + (1 : Int32)) T332.heap n0 ZZ332 pp332 pr332) (rfl : T332.heap = T332.heap) EU332 (W := 0) (by decide) (by decide) (by decide) (by decide) (g := (mkF m 185 #[.val (.ref u), .val (.int x), .val (.int e1), .val (.int (x &&& (3 : Int32))), .val (.int (1 : Int32)), .val (.int (1 : Int32)), .val (.ref b308), .unset] [(.ref u)])) rfl (by rw [hml]; rfl) (argsL := []) (rest := []) rfl (lenOf pd_8 rfl) rfl (by show 2 * 0 + _ ≤ _; exact Nat.le_of_eq rfl) (hb hby d_rmT_185) ?_
          intro v333 T333 L333 hQ333 X333
          obtain ⟨rfl, NN333, e333⟩ := hQ333
          have N333 := Fr.app N332 NN333
          show own_Dn p e below s (fun v h L => ∃ x y : Int32, v = some (.int (own_hp x y)) ∧ Fr n0 L ∧ n0 ≤ h.size ∧ own_U Z n0 dc h u L1 L2 (k + 1) x y ∧ 0 ≤ x.toInt ∧ x.toInt ≤ ((k + 1 : Nat) : Int) ∧ 0 ≤ y.toInt ∧ y.toInt ≤ ((k + 1 : Nat) : Int) ∧ Sta Z h "java/util/ArrayList" "DEFAULTCAPACITY_EMPTY_ELEMENTDATA" "[Ljava/lang/Object;" (.ref dc) ∧ own_A Z h dc 0) ({ frames := 6, cells := 7, slots := 44, locals := 88 } : Room).cells ({ frames := 6, cells := 7, slots := 44, locals := 88 } : Room).slots (T333.setTop (mkF m 188 #[.val (.ref u), .val (.int x), .val (.int e1), .val (.int (x &&& (3 : Int32))), .val (.int (1 : Int32)), .val (.int (1 : Int32)), .val (.ref b308), .unset] [(.int (own_hp pp (pr + (1 : Int32))))]))
          refine own_st (q' := T333.setTop (mkF m 190 #[.val (.ref u), .val (.int x), .val (.int e1), .val (.int (x &&& (3 : Int32))), .val (.int (1 : Int32)), .val (.int (1 : Int32)), .val (.ref b308), .unset] [(.int (1 : Int32)), (.int (own_hp pp (pr + (1 : Int32))))])) (fun _ k => XS.iload X333.here hx rfl (hb hby d_rmT_188) rfl k) ?_
          have HPF : (own_hp pp (pr + (1 : Int32))) = (1 : Int32) := (own_hpB b3 b4 (by omega))
          refine own_st (q' := T333.setTop (mkF m 205 #[.val (.ref u), .val (.int x), .val (.int e1), .val (.int (x &&& (3 : Int32))), .val (.int (1 : Int32)), .val (.int (1 : Int32)), .val (.ref b308), .unset] [(.int (1 : Int32))])) (fun _ k => XS.icmpYes X333.here hx rfl (pc0 := 190) (pc' := 195) rfl (hb hby d_rmT_190) rfl (teq (HPF : (own_hp pp (pr + (1 : Int32))) = (1 : Int32))).1 (by decide) (by decide) (XS.iload X333.here hx rfl (hb hby d_rmT_195) rfl (XS.ifNo X333.here hx rfl (hb hby d_rmT_197) rfl ((if0 _ _).trans (feq ((by decide : ¬ ((1 : Int32) = (0 : Int32))) : ¬ ((1 : Int32) = (0 : Int32)))).1) (XS.iconst X333.here hx rfl (hb hby d_rmT_200) (XS.goto X333.here hx rfl (pc0 := 201) (pc' := 205) rfl (hb hby d_rmT_201) (by decide) (by decide) k))))) ?_
          exact own_retI X333 hx hlk hret (hb hby d_rmT_205) e333 (by exact ⟨pp, (pr + (1 : Int32)), congrArg (fun z => some (Value.int z)) HPF.symm, N333, ZZ332, UU332, (own_up b1 b2).1, (own_up b1 b2).2, (own_inc b3 b4 (by omega)).1, (own_inc b3 b4 (by omega)).2, SS332, AA332⟩) (by decide) (by decide)
        · skip
          have hc79_323I : ¬ ((x &&& (3 : Int32))).toInt = (1 : Int) := own_eqF hc79_323
          refine own_st (q' := T311.setTop (mkF m 110 #[.val (.ref u), .val (.int x), .val (.int e1), .val (.int (x &&& (3 : Int32))), .val (.int (1 : Int32)), .val (.int (0 : Int32)), .val (.ref b308), .unset] [(.int (2 : Int32)), (.int (x &&& (3 : Int32)))])) (fun _ k => XS.icmpYes X311.here hx rfl (pc0 := 79) (pc' := 108) rfl (hb hby d_rmT_79) rfl (feq hc79_323).2 (by decide) (by decide) (XS.iloadN X311.here hx rfl (hb hby d_rmT_108) rfl (XS.iconst X311.here hx rfl (hb hby d_rmT_109) k))) ?_
          by_cases hc110_334 : (x &&& (3 : Int32)) = (2 : Int32)
          · skip
            have hc110_334I : ((x &&& (3 : Int32))).toInt = (2 : Int) := own_eqT hc110_334
            refine own_st (q' := T311.setTop (mkF m 113 #[.val (.ref u), .val (.int x), .val (.int e1), .val (.int (x &&& (3 : Int32))), .val (.int (1 : Int32)), .val (.int (0 : Int32)), .val (.ref b308), .unset] [])) (fun _ k => XS.icmpNo X311.here hx rfl (hb hby d_rmT_110) rfl (teq hc110_334).2 k) ?_
            obtain ⟨T335, h335, X335, e335, E335, A335, D335, -, st335⟩ := newO X311 hx hZ hown (wd_0 hw) (wd_1 hw) (wd_2 hw) (rfl : T311.heap = T311.heap) (g := (mkF m 113 #[.val (.ref u), .val (.int x), .val (.int e1), .val (.int (x &&& (3 : Int32))), .val (.int (1 : Int32)), .val (.int (0 : Int32)), .val (.ref b308), .unset] [])) rfl (hb hby d_rmT_113) (by decide) (by decide)
            obtain ⟨b335, g335⟩ : ∃ z, z = T311.heap.size := ⟨_, rfl⟩
            rw [← g335] at A335 D335 st335
            have f336 := ((EU.ext E308).keep KK311)
            have lt_u_b335 : u < b335 := Nat.lt_of_lt_of_le f336.lt (Nat.le_of_eq g335.symm)
            have f337 := ((HL1.1.ext E308).keep KK311)
            have lt_L1_b335 : L1 < b335 := Nat.lt_of_lt_of_le f337.lt (Nat.le_of_eq g335.symm)
            have f338 := ((HL2.1.ext E308).keep KK311)
            have lt_L2_b335 : L2 < b335 := Nat.lt_of_lt_of_le f338.lt (Nat.le_of_eq g335.symm)
            have lt_dc_b335 : dc < b335 := Nat.lt_of_lt_of_le q311_3.lt (Nat.le_of_eq g335.symm)
            have lt_b308_b335 : b308 < b335 := Nat.lt_of_lt_of_le q311_0.lt (Nat.le_of_eq g335.symm)
            have ge_b335 : n0 ≤ b335 := Nat.le_trans (Nat.le_trans (Nat.le_trans Z0 E308.1) KK311.1) (Nat.le_of_eq g335.symm)
            have F_puts_b335 : Fld Z h335 b335 "com/example/rock_dove/rockdove/store/UnitOfWork" "puts" "Ljava/util/List;" .null := D335 (Or.inr (wd_34 hw)) (ty := (.object "java/util/List")) (by decide)
            have F_removals_b335 : Fld Z h335 b335 "com/example/rock_dove/rockdove/store/UnitOfWork" "removals" "Ljava/util/List;" .null := D335 (Or.inr (wd_36 hw)) (ty := (.object "java/util/List")) (by decide)
            have F_persistentPuts_b335 : Fld Z h335 b335 "com/example/rock_dove/rockdove/store/UnitOfWork" "persistentPuts" "I" (.int (0 : Int32)) := D335 (Or.inl (wd_43 hw)) (ty := .int) (by decide)
            have F_persistentRemovals_b335 : Fld Z h335 b335 "com/example/rock_dove/rockdove/store/UnitOfWork" "persistentRemovals" "I" (.int (0 : Int32)) := D335 (Or.inl (wd_45 hw)) (ty := .int) (by decide)
            have F_id_b335 : Fld Z h335 b335 "com/example/rock_dove/rockdove/store/UnitOfWork" "id" "J" (.long (0 : Int64)) := D335 (Or.inl (wd_133 hw)) (ty := .long) (by decide)
            refine own_st (q' := T335.setTop (mkF m 116 #[.val (.ref u), .val (.int x), .val (.int e1), .val (.int (x &&& (3 : Int32))), .val (.int (1 : Int32)), .val (.int (0 : Int32)), .val (.ref b308), .unset] [(.ref b335)])) st335 ?_
            refine own_st (q' := T335.setTop (mkF m 117 #[.val (.ref u), .val (.int x), .val (.int e1), .val (.int (x &&& (3 : Int32))), .val (.int (1 : Int32)), .val (.int (0 : Int32)), .val (.ref b308), .unset] [(.ref b335), (.ref b335)])) (fun _ k => XS.dup X335.here hx rfl (hb hby d_rmT_116) rfl rfl k) ?_
            have f339 := (q311_2.ext E335)
            have f340 := (q311_3.ext E335)
            refine own_callI (y := (⟨"com/example/rock_dove/rockdove/store/UnitOfWork", "<init>", "()V"⟩ : MethodName)) X335 hx hZ hown rfl (wd_3 hw) (wd_4 hw) (wd_2 hw) (wd_5 hw) (by decide) (rmUI l Z a0 hw [] b335 dc h335 n0 (Nat.le_trans (Nat.le_trans (Nat.le_trans Z0 E308.1) KK311.1) E335.1) A335 ge_b335 F_puts_b335 F_removals_b335 F_persistentPuts_b335 F_persistentRemovals_b335 F_id_b335 f339 f340) e335 (W := 1) (by decide) (by decide) (by decide) (by decide) (g := (mkF m 117 #[.val (.ref u), .val (.int x), .val (.int e1), .val (.int (x &&& (3 : Int32))), .val (.int (1 : Int32)), .val (.int (0 : Int32)), .val (.ref b308), .unset] [(.ref b335), (.ref b335)])) rfl (by rw [hml]; rfl) (a := b335) (argsL := []) (rest := [(.ref b335)]) rfl (lenOf pd_0 rfl) rfl (by show 2 * 0 + _ ≤ _; exact Nat.le_of_eq rfl) (hb hby d_rmT_117) ?_
            intro v341 T341 L341 hQ341 X341
            obtain ⟨x1341, x2341, rfl, NN341, KK341, q341_0, q341_1, q341_2, q341_3, q341_4, q341_5, q341_6, q341_7, q341_8, q341_9, q341_10, q341_11, q341_12⟩ := hQ341
            have f342 := (f337.ext E335)
            have f343 := (f338.ext E335)
            have f344 := (q311_0.ext E335)
            have f345 := (f336.ext E335)
            have N341 := Fr.app N311 NN341
            have FC341 := q341_10
            obtain ⟨EF341, gF341, mF341, fF341, sF341, dF341⟩ := FC341
            show own_Dn p e below s (fun v h L => ∃ x y : Int32, v = some (.int (own_hp x y)) ∧ Fr n0 L ∧ n0 ≤ h.size ∧ own_U Z n0 dc h u L1 L2 (k + 1) x y ∧ 0 ≤ x.toInt ∧ x.toInt ≤ ((k + 1 : Nat) : Int) ∧ 0 ≤ y.toInt ∧ y.toInt ≤ ((k + 1 : Nat) : Int) ∧ Sta Z h "java/util/ArrayList" "DEFAULTCAPACITY_EMPTY_ELEMENTDATA" "[Ljava/lang/Object;" (.ref dc) ∧ own_A Z h dc 0) ({ frames := 6, cells := 7, slots := 44, locals := 88 } : Room).cells ({ frames := 6, cells := 7, slots := 44, locals := 88 } : Room).slots (T341.setTop (mkF m 120 #[.val (.ref u), .val (.int x), .val (.int e1), .val (.int (x &&& (3 : Int32))), .val (.int (1 : Int32)), .val (.int (0 : Int32)), .val (.ref b308), .unset] [(.ref b335)]))
            refine own_st (q' := T341.setTop (mkF m 126 #[.val (.ref u), .val (.int x), .val (.int e1), .val (.int (x &&& (3 : Int32))), .val (.int (1 : Int32)), .val (.int (0 : Int32)), .val (.ref b308), .val (.ref b335)] [(.ref b308), (.ref b335)])) (fun _ k => XS.astore X341.here hx rfl (hb hby d_rmT_120) rfl rfl (l' := #[.val (.ref u), .val (.int x), .val (.int e1), .val (.int (x &&& (3 : Int32))), .val (.int (1 : Int32)), .val (.int (0 : Int32)), .val (.ref b308), .val (.ref b335)]) rfl (XS.aload X341.here hx rfl (hb hby d_rmT_122) rfl rfl (XS.aload X341.here hx rfl (hb hby d_rmT_124) rfl rfl k))) ?_
            have f346 := (f344.keep KK341)
            have f347 := ((q311_1.ext E335).keep KK341 (ninS (Nat.ne_of_lt lt_b308_b335) nin0))
            refine own_callV (y := (⟨"com/example/rock_dove/rockdove/store/UnitOfWork", "addRemoval", "(Lcom/example/rock_dove/rockdove/store/StoredMessage;)V"⟩ : MethodName)) X341 hx hZ hown (wd_134 hw) (wd_135 hw) (wd_137 hw) (wd_136 hw) (wd_2 hw) (wd_138 hw) (by decide) (rmARF1 l Z a0 hw [] b335 x1341 x2341 b308 dc mF341 T341.heap n0 (Nat.le_trans (Nat.le_trans (Nat.le_trans (Nat.le_trans Z0 E308.1) KK311.1) E335.1) KK341.1) q341_3 ge_b335 q341_4 q341_5 q341_6 q341_7 q341_8 EF341 gF341 fF341 sF341 dF341 f346 f347 q341_11 q341_12) (rfl : T341.heap = T341.heap) q341_3 (W := 0) (by decide) (by decide) (by decide) (by decide) (g := (mkF m 126 #[.val (.ref u), .val (.int x), .val (.int e1), .val (.int (x &&& (3 : Int32))), .val (.int (1 : Int32)), .val (.int (0 : Int32)), .val (.ref b308), .val (.ref b335)] [(.ref b308), (.ref b335)])) rfl (by rw [hml]; rfl) (argsL := [(.ref b308)]) (rest := []) rfl (lenOf pd_11 rfl) rfl (by show 2 * 0 + _ ≤ _; exact Nat.le_of_eq rfl) (hb hby d_rmT_126) ?_
            intro v348 T348 L348 hQ348 X348
            obtain ⟨r348, w348, rfl, NN348, KK348, q348_0, q348_1, q348_2, q348_3, q348_4, q348_5, q348_6, q348_7, q348_8, q348_9, q348_10, q348_11, q348_12, q348_13⟩ := hQ348
            have f349 := (f342.keep KK341)
            have f350 := (f343.keep KK341)
            have f351 := (f345.keep KK341)
            have N348 := Fr.app N341 NN348
            show own_Dn p e below s (fun v h L => ∃ x y : Int32, v = some (.int (own_hp x y)) ∧ Fr n0 L ∧ n0 ≤ h.size ∧ own_U Z n0 dc h u L1 L2 (k + 1) x y ∧ 0 ≤ x.toInt ∧ x.toInt ≤ ((k + 1 : Nat) : Int) ∧ 0 ≤ y.toInt ∧ y.toInt ≤ ((k + 1 : Nat) : Int) ∧ Sta Z h "java/util/ArrayList" "DEFAULTCAPACITY_EMPTY_ELEMENTDATA" "[Ljava/lang/Object;" (.ref dc) ∧ own_A Z h dc 0) ({ frames := 6, cells := 7, slots := 44, locals := 88 } : Room).cells ({ frames := 6, cells := 7, slots := 44, locals := 88 } : Room).slots (T348.setTop (mkF m 129 #[.val (.ref u), .val (.int x), .val (.int e1), .val (.int (x &&& (3 : Int32))), .val (.int (1 : Int32)), .val (.int (0 : Int32)), .val (.ref b308), .val (.ref b335)] []))
            refine own_st (q' := T348.setTop (mkF m 131 #[.val (.ref u), .val (.int x), .val (.int e1), .val (.int (x &&& (3 : Int32))), .val (.int (1 : Int32)), .val (.int (0 : Int32)), .val (.ref b308), .val (.ref b335)] [(.ref b335)])) (fun _ k => XS.aload X348.here hx rfl (hb hby d_rmT_129) rfl rfl k) ?_
            refine own_callV (y := (⟨"com/example/rock_dove/rockdove/store/UnitOfWork", "holdsPersistent", "()Z"⟩ : MethodName)) X348 hx hZ hown (wd_37 hw) (wd_38 hw) (wd_40 hw) (wd_39 hw) (wd_2 hw) (wd_41 hw) (by decide) (rmHP l Z a0 hw [] b335 (0 : Int32) (1 : Int32) T348.heap n0 (Nat.le_trans (Nat.le_trans (Nat.le_trans (Nat.le_trans (Nat.le_trans Z0 E308.1) KK311.1) E335.1) KK341.1) KK348.1) q348_4 q348_5) (rfl : T348.heap = T348.heap) q348_1 (W := 0) (by decide) (by decide) (by decide) (by decide) (g := (mkF m 131 #[.val (.ref u), .val (.int x), .val (.int e1), .val (.int (x &&& (3 : Int32))), .val (.int (1 : Int32)), .val (.int (0 : Int32)), .val (.ref b308), .val (.ref b335)] [(.ref b335)])) rfl (by rw [hml]; rfl) (argsL := []) (rest := []) rfl (lenOf pd_8 rfl) rfl (by show 2 * 0 + _ ≤ _; exact Nat.le_of_eq rfl) (hb hby d_rmT_131) ?_
            intro v352 T352 L352 hQ352 X352
            obtain ⟨rfl, NN352, e352⟩ := hQ352
            have N352 := Fr.app N348 NN352
            show own_Dn p e below s (fun v h L => ∃ x y : Int32, v = some (.int (own_hp x y)) ∧ Fr n0 L ∧ n0 ≤ h.size ∧ own_U Z n0 dc h u L1 L2 (k + 1) x y ∧ 0 ≤ x.toInt ∧ x.toInt ≤ ((k + 1 : Nat) : Int) ∧ 0 ≤ y.toInt ∧ y.toInt ≤ ((k + 1 : Nat) : Int) ∧ Sta Z h "java/util/ArrayList" "DEFAULTCAPACITY_EMPTY_ELEMENTDATA" "[Ljava/lang/Object;" (.ref dc) ∧ own_A Z h dc 0) ({ frames := 6, cells := 7, slots := 44, locals := 88 } : Room).cells ({ frames := 6, cells := 7, slots := 44, locals := 88 } : Room).slots (T352.setTop (mkF m 134 #[.val (.ref u), .val (.int x), .val (.int e1), .val (.int (x &&& (3 : Int32))), .val (.int (1 : Int32)), .val (.int (0 : Int32)), .val (.ref b308), .val (.ref b335)] [(.int (own_hp (0 : Int32) (1 : Int32)))]))
            refine own_st (q' := T352.setTop (mkF m 144 #[.val (.ref u), .val (.int x), .val (.int e1), .val (.int (x &&& (3 : Int32))), .val (.int (1 : Int32)), .val (.int (0 : Int32)), .val (.ref b308), .val (.ref b335)] [(.ref b335), (.ref u)])) (fun _ k => XS.iload X352.here hx rfl (hb hby d_rmT_134) rfl (XS.icmpYes X352.here hx rfl (pc0 := 136) (pc' := 141) rfl (hb hby d_rmT_136) rfl (teq (by decide : (own_hp (0 : Int32) (1 : Int32)) = (1 : Int32))).1 (by decide) (by decide) (XS.aloadN X352.here hx rfl (hb hby d_rmT_141) rfl rfl (XS.aload X352.here hx rfl (hb hby d_rmT_142) rfl rfl k)))) ?_
            have f353 := (f351.keep KK348)
            have f354 := (((((U_pu.ext E308).keep KK311 (ninS (Nat.ne_of_lt lt_u_b308) nin0)).ext E335).keep KK341 (ninS (Nat.ne_of_lt lt_u_b335) nin0)).keep KK348 (ninS (Nat.ne_of_lt lt_u_b335) (ninS (Nat.ne_of_lt (Nat.lt_of_lt_of_le f345.lt q341_1)) nin0)))
            have f355 := (((((U_re.ext E308).keep KK311 (ninS (Nat.ne_of_lt lt_u_b308) nin0)).ext E335).keep KK341 (ninS (Nat.ne_of_lt lt_u_b335) nin0)).keep KK348 (ninS (Nat.ne_of_lt lt_u_b335) (ninS (Nat.ne_of_lt (Nat.lt_of_lt_of_le f345.lt q341_1)) nin0)))
            have f356 := (((((U_pp.ext E308).keep KK311 (ninS (Nat.ne_of_lt lt_u_b308) nin0)).ext E335).keep KK341 (ninS (Nat.ne_of_lt lt_u_b335) nin0)).keep KK348 (ninS (Nat.ne_of_lt lt_u_b335) (ninS (Nat.ne_of_lt (Nat.lt_of_lt_of_le f345.lt q341_1)) nin0)))
            have f357 := (((((U_pr.ext E308).keep KK311 (ninS (Nat.ne_of_lt lt_u_b308) nin0)).ext E335).keep KK341 (ninS (Nat.ne_of_lt lt_u_b335) nin0)).keep KK348 (ninS (Nat.ne_of_lt lt_u_b335) (ninS (Nat.ne_of_lt (Nat.lt_of_lt_of_le f345.lt q341_1)) nin0)))
            have f358 := (((((U_id.ext E308).keep KK311 (ninS (Nat.ne_of_lt lt_u_b308) nin0)).ext E335).keep KK341 (ninS (Nat.ne_of_lt lt_u_b335) nin0)).keep KK348 (ninS (Nat.ne_of_lt lt_u_b335) (ninS (Nat.ne_of_lt (Nat.lt_of_lt_of_le f345.lt q341_1)) nin0)))
            have f359 := (((((HL1.ext E308).keep KK311 (ninS (Nat.ne_of_lt lt_L1_b308) nin0)).ext E335).keep KK341 (ninS (Nat.ne_of_lt lt_L1_b335) nin0)).keep KK348 (ninS (Nat.ne_of_lt lt_L1_b335) (ninS (Nat.ne_of_lt (Nat.lt_of_lt_of_le f342.lt q341_1)) nin0)))
            have f360 := (((((HL2.ext E308).keep KK311 (ninS (Nat.ne_of_lt lt_L2_b308) nin0)).ext E335).keep KK341 (ninS (Nat.ne_of_lt lt_L2_b335) nin0)).keep KK348 (ninS (Nat.ne_of_lt lt_L2_b335) (ninS (Nat.ne_of_lt (Nat.lt_of_lt_of_le f343.lt q341_1)) nin0)))
            have f361 := (q341_9.keep KK348 (ninS (Ne.symm (Nat.ne_of_lt (Nat.lt_of_lt_of_le A335.lt q341_0))) (ninS q341_2 nin0)))
            have f362 := (f346.keep KK348)
            refine own_callV (y := (⟨"com/example/rock_dove/rockdove/store/UnitOfWork", "absorb", "(Lcom/example/rock_dove/rockdove/store/UnitOfWork;)V"⟩ : MethodName)) X352 hx hZ hown (wd_139 hw) (wd_140 hw) (wd_142 hw) (wd_141 hw) (wd_2 hw) (wd_143 hw) (by decide) (rmAb1 l Z a0 hw [] u L1 L2 b335 x1341 x2341 b308 dc mir ea1 ea2 r348 k pp pr w348 iD T348.heap n0 (Nat.le_trans (Nat.le_trans (Nat.le_trans (Nat.le_trans (Nat.le_trans Z0 E308.1) KK311.1) E335.1) KK341.1) KK348.1) f353 gU f354 f355 f356 f357 f358 f359 f360 ne12 q348_1 ge_b335 q348_2 q348_3 q348_4 q348_5 q348_6 f361 q348_7 gF341 q348_8 q348_9 q348_10 (Nat.le_trans (Nat.le_trans (Nat.le_trans (Nat.le_trans (Nat.le_trans Z0 E308.1) KK311.1) E335.1) KK341.1) q348_0) (Nat.ne_of_lt lt_u_b335) (Nat.ne_of_lt (Nat.lt_of_lt_of_le f342.lt q341_0)) (Nat.ne_of_lt (Nat.lt_of_lt_of_le f342.lt q341_1)) (Nat.ne_of_lt (Nat.lt_of_lt_of_le f343.lt q341_0)) (Nat.ne_of_lt (Nat.lt_of_lt_of_le f343.lt q341_1)) q341_2 hk q348_11 Mi f362 q348_12 q348_13) e352 f353 (W := 0) (by decide) (by decide) (by decide) (by decide) (g := (mkF m 144 #[.val (.ref u), .val (.int x), .val (.int e1), .val (.int (x &&& (3 : Int32))), .val (.int (1 : Int32)), .val (.int (0 : Int32)), .val (.ref b308), .val (.ref b335)] [(.ref b335), (.ref u)])) rfl (by rw [hml]; rfl) (argsL := [(.ref b335)]) (rest := []) rfl (lenOf pd_12 rfl) rfl (by show 2 * 0 + _ ≤ _; exact Nat.le_of_eq rfl) (hb hby d_rmT_144) ?_
            intro v363 T363 L363 hQ363 X363
            obtain ⟨rfl, NN363, ZZ363, UU363, y363_0, y363_1, y363_2, SS363, AA363⟩ := hQ363
            have N363 := Fr.app N352 NN363
            have UC363 := UU363
            obtain ⟨EU363, -, pu363, re363, pp363, pr363, -⟩ := UC363
            show own_Dn p e below s (fun v h L => ∃ x y : Int32, v = some (.int (own_hp x y)) ∧ Fr n0 L ∧ n0 ≤ h.size ∧ own_U Z n0 dc h u L1 L2 (k + 1) x y ∧ 0 ≤ x.toInt ∧ x.toInt ≤ ((k + 1 : Nat) : Int) ∧ 0 ≤ y.toInt ∧ y.toInt ≤ ((k + 1 : Nat) : Int) ∧ Sta Z h "java/util/ArrayList" "DEFAULTCAPACITY_EMPTY_ELEMENTDATA" "[Ljava/lang/Object;" (.ref dc) ∧ own_A Z h dc 0) ({ frames := 6, cells := 7, slots := 44, locals := 88 } : Room).cells ({ frames := 6, cells := 7, slots := 44, locals := 88 } : Room).slots (T363.setTop (mkF m 147 #[.val (.ref u), .val (.int x), .val (.int e1), .val (.int (x &&& (3 : Int32))), .val (.int (1 : Int32)), .val (.int (0 : Int32)), .val (.ref b308), .val (.ref b335)] []))
            refine own_st (q' := T363.setTop (mkF m 149 #[.val (.ref u), .val (.int x), .val (.int e1), .val (.int (x &&& (3 : Int32))), .val (.int (1 : Int32)), .val (.int (0 : Int32)), .val (.ref b308), .val (.ref b335)] [(.ref b335)])) (fun _ k => XS.aload X363.here hx rfl (hb hby d_rmT_147) rfl rfl k) ?_
            refine own_callV (y := (⟨"com/example/rock_dove/rockdove/store/UnitOfWork", "holdsPersistent", "()Z"⟩ : MethodName)) X363 hx hZ hown (wd_37 hw) (wd_38 hw) (wd_40 hw) (wd_39 hw) (wd_2 hw) (wd_41 hw) (by decide) (rmHP l Z a0 hw [] b335 (0 : Int32) (0 : Int32) T363.heap n0 ZZ363 y363_0 y363_1) (rfl : T363.heap = T363.heap) y363_2 (W := 0) (by decide) (by decide) (by decide) (by decide) (g := (mkF m 149 #[.val (.ref u), .val (.int x), .val (.int e1), .val (.int (x &&& (3 : Int32))), .val (.int (1 : Int32)), .val (.int (0 : Int32)), .val (.ref b308), .val (.ref b335)] [(.ref b335)])) rfl (by rw [hml]; rfl) (argsL := []) (rest := []) rfl (lenOf pd_8 rfl) rfl (by show 2 * 0 + _ ≤ _; exact Nat.le_of_eq rfl) (hb hby d_rmT_149) ?_
            intro v364 T364 L364 hQ364 X364
            obtain ⟨rfl, NN364, e364⟩ := hQ364
            have N364 := Fr.app N363 NN364
            show own_Dn p e below s (fun v h L => ∃ x y : Int32, v = some (.int (own_hp x y)) ∧ Fr n0 L ∧ n0 ≤ h.size ∧ own_U Z n0 dc h u L1 L2 (k + 1) x y ∧ 0 ≤ x.toInt ∧ x.toInt ≤ ((k + 1 : Nat) : Int) ∧ 0 ≤ y.toInt ∧ y.toInt ≤ ((k + 1 : Nat) : Int) ∧ Sta Z h "java/util/ArrayList" "DEFAULTCAPACITY_EMPTY_ELEMENTDATA" "[Ljava/lang/Object;" (.ref dc) ∧ own_A Z h dc 0) ({ frames := 6, cells := 7, slots := 44, locals := 88 } : Room).cells ({ frames := 6, cells := 7, slots := 44, locals := 88 } : Room).slots (T364.setTop (mkF m 152 #[.val (.ref u), .val (.int x), .val (.int e1), .val (.int (x &&& (3 : Int32))), .val (.int (1 : Int32)), .val (.int (0 : Int32)), .val (.ref b308), .val (.ref b335)] [(.int (own_hp (0 : Int32) (0 : Int32)))]))
            refine own_st (q' := T364.setTop (mkF m 167 #[.val (.ref u), .val (.int x), .val (.int e1), .val (.int (x &&& (3 : Int32))), .val (.int (1 : Int32)), .val (.int (0 : Int32)), .val (.ref b308), .val (.ref b335)] [])) (fun _ k => XS.ifYes X364.here hx rfl (pc0 := 152) (pc' := 157) rfl (hb hby d_rmT_152) rfl ((if0 _ _).trans (teq (by decide : (own_hp (0 : Int32) (0 : Int32)) = (0 : Int32))).1) (by decide) (by decide) (XS.iload X364.here hx rfl (hb hby d_rmT_157) rfl (XS.ifNo X364.here hx rfl (hb hby d_rmT_159) rfl ((if0 _ _).trans (teq ((by decide : (0 : Int32) = (0 : Int32)) : (0 : Int32) = (0 : Int32))).2) (XS.iload X364.here hx rfl (hb hby d_rmT_162) rfl (XS.ifNo X364.here hx rfl (hb hby d_rmT_164) rfl ((if0 _ _).trans (feq ((by decide : ¬ ((1 : Int32) = (0 : Int32))) : ¬ ((1 : Int32) = (0 : Int32)))).1) k))))) ?_
            refine own_st (q' := T364.setTop (mkF m 185 #[.val (.ref u), .val (.int x), .val (.int e1), .val (.int (x &&& (3 : Int32))), .val (.int (1 : Int32)), .val (.int (1 : Int32)), .val (.ref b308), .val (.ref b335)] [(.ref u)])) (fun _ k => XS.iconst X364.here hx rfl (hb hby d_rmT_167) (XS.goto X364.here hx rfl (pc0 := 168) (pc' := 172) rfl (hb hby d_rmT_168) (by decide) (by decide) (XS.istore X364.here hx rfl (hb hby d_rmT_172) rfl (l' := #[.val (.ref u), .val (.int x), .val (.int e1), .val (.int (x &&& (3 : Int32))), .val (.int (1 : Int32)), .val (.int (1 : Int32)), .val (.ref b308), .val (.ref b335)]) rfl (XS.goto X364.here hx rfl (pc0 := 174) (pc' := 184) rfl (hb hby d_rmT_174) (by decide) (by decide) (XS.aloadN X364.here hx rfl (hb hby d_rmT_184) rfl rfl k))))) ?_
            refine own_callV (y := (⟨"com/example/rock_dove/rockdove/store/UnitOfWork", "holdsPersistent", "()Z"⟩ : MethodName)) X364 hx hZ hown (wd_37 hw) (wd_38 hw) (wd_40 hw) (wd_39 hw) (wd_2 hw) (wd_41 hw) (by decide) (rmHP l Z a0 hw [] u pp (pr + (1 : Int32)) T363.heap n0 ZZ363 pp363 pr363) e364 EU363 (W := 0) (by decide) (by decide) (by decide) (by decide) (g := (mkF m 185 #[.val (.ref u), .val (.int x), .val (.int e1), .val (.int (x &&& (3 : Int32))), .val (.int (1 : Int32)), .val (.int (1 : Int32)), .val (.ref b308), .val (.ref b335)] [(.ref u)])) rfl (by rw [hml]; rfl) (argsL := []) (rest := []) rfl (lenOf pd_8 rfl) rfl (by show 2 * 0 + _ ≤ _; exact Nat.le_of_eq rfl) (hb hby d_rmT_185) ?_
            intro v365 T365 L365 hQ365 X365
            obtain ⟨rfl, NN365, e365⟩ := hQ365
            have N365 := Fr.app N364 NN365
            show own_Dn p e below s (fun v h L => ∃ x y : Int32, v = some (.int (own_hp x y)) ∧ Fr n0 L ∧ n0 ≤ h.size ∧ own_U Z n0 dc h u L1 L2 (k + 1) x y ∧ 0 ≤ x.toInt ∧ x.toInt ≤ ((k + 1 : Nat) : Int) ∧ 0 ≤ y.toInt ∧ y.toInt ≤ ((k + 1 : Nat) : Int) ∧ Sta Z h "java/util/ArrayList" "DEFAULTCAPACITY_EMPTY_ELEMENTDATA" "[Ljava/lang/Object;" (.ref dc) ∧ own_A Z h dc 0) ({ frames := 6, cells := 7, slots := 44, locals := 88 } : Room).cells ({ frames := 6, cells := 7, slots := 44, locals := 88 } : Room).slots (T365.setTop (mkF m 188 #[.val (.ref u), .val (.int x), .val (.int e1), .val (.int (x &&& (3 : Int32))), .val (.int (1 : Int32)), .val (.int (1 : Int32)), .val (.ref b308), .val (.ref b335)] [(.int (own_hp pp (pr + (1 : Int32))))]))
            refine own_st (q' := T365.setTop (mkF m 190 #[.val (.ref u), .val (.int x), .val (.int e1), .val (.int (x &&& (3 : Int32))), .val (.int (1 : Int32)), .val (.int (1 : Int32)), .val (.ref b308), .val (.ref b335)] [(.int (1 : Int32)), (.int (own_hp pp (pr + (1 : Int32))))])) (fun _ k => XS.iload X365.here hx rfl (hb hby d_rmT_188) rfl k) ?_
            have HPF : (own_hp pp (pr + (1 : Int32))) = (1 : Int32) := (own_hpB b3 b4 (by omega))
            refine own_st (q' := T365.setTop (mkF m 205 #[.val (.ref u), .val (.int x), .val (.int e1), .val (.int (x &&& (3 : Int32))), .val (.int (1 : Int32)), .val (.int (1 : Int32)), .val (.ref b308), .val (.ref b335)] [(.int (1 : Int32))])) (fun _ k => XS.icmpYes X365.here hx rfl (pc0 := 190) (pc' := 195) rfl (hb hby d_rmT_190) rfl (teq (HPF : (own_hp pp (pr + (1 : Int32))) = (1 : Int32))).1 (by decide) (by decide) (XS.iload X365.here hx rfl (hb hby d_rmT_195) rfl (XS.ifNo X365.here hx rfl (hb hby d_rmT_197) rfl ((if0 _ _).trans (feq ((by decide : ¬ ((1 : Int32) = (0 : Int32))) : ¬ ((1 : Int32) = (0 : Int32)))).1) (XS.iconst X365.here hx rfl (hb hby d_rmT_200) (XS.goto X365.here hx rfl (pc0 := 201) (pc' := 205) rfl (hb hby d_rmT_201) (by decide) (by decide) k))))) ?_
            exact own_retI X365 hx hlk hret (hb hby d_rmT_205) e365 (by exact ⟨pp, (pr + (1 : Int32)), congrArg (fun z => some (Value.int z)) HPF.symm, N365, ZZ363, UU363, (own_up b1 b2).1, (own_up b1 b2).2, (own_inc b3 b4 (by omega)).1, (own_inc b3 b4 (by omega)).2, SS363, AA363⟩) (by decide) (by decide)
          · skip
            have hc110_334I : ¬ ((x &&& (3 : Int32))).toInt = (2 : Int) := own_eqF hc110_334
            refine own_st (q' := T311.setTop (mkF m 178 #[.val (.ref u), .val (.int x), .val (.int e1), .val (.int (x &&& (3 : Int32))), .val (.int (1 : Int32)), .val (.int (0 : Int32)), .val (.ref b308), .unset] [(.ref u)])) (fun _ k => XS.icmpYes X311.here hx rfl (pc0 := 110) (pc' := 177) rfl (hb hby d_rmT_110) rfl (feq hc110_334).2 (by decide) (by decide) (XS.aloadN X311.here hx rfl (hb hby d_rmT_177) rfl rfl k)) ?_
            have f366 := ((EU.ext E308).keep KK311)
            have f367 := ((U_pu.ext E308).keep KK311 (ninS (Nat.ne_of_lt lt_u_b308) nin0))
            have f368 := ((U_re.ext E308).keep KK311 (ninS (Nat.ne_of_lt lt_u_b308) nin0))
            have f369 := ((U_pp.ext E308).keep KK311 (ninS (Nat.ne_of_lt lt_u_b308) nin0))
            have f370 := ((U_pr.ext E308).keep KK311 (ninS (Nat.ne_of_lt lt_u_b308) nin0))
            have f371 := ((U_id.ext E308).keep KK311 (ninS (Nat.ne_of_lt lt_u_b308) nin0))
            have f372 := ((HL1.ext E308).keep KK311 (ninS (Nat.ne_of_lt lt_L1_b308) nin0))
            have f373 := ((HL2.ext E308).keep KK311 (ninS (Nat.ne_of_lt lt_L2_b308) nin0))
            refine own_callV (y := (⟨"com/example/rock_dove/rockdove/store/UnitOfWork", "end", "()V"⟩ : MethodName)) X311 hx hZ hown (wd_119 hw) (wd_120 hw) (wd_122 hw) (wd_121 hw) (wd_2 hw) (wd_123 hw) (by decide) (rmEnd l Z a0 hw [] u L1 L2 dc ea1 ea2 k pp pr iD T311.heap n0 (Nat.le_trans (Nat.le_trans Z0 E308.1) KK311.1) f366 gU f367 f368 f369 f370 f371 f372 f373 ne12 (by omega) q311_2 q311_3) (rfl : T311.heap = T311.heap) f366 (W := 0) (by decide) (by decide) (by decide) (by decide) (g := (mkF m 178 #[.val (.ref u), .val (.int x), .val (.int e1), .val (.int (x &&& (3 : Int32))), .val (.int (1 : Int32)), .val (.int (0 : Int32)), .val (.ref b308), .unset] [(.ref u)])) rfl (by rw [hml]; rfl) (argsL := []) (rest := []) rfl (lenOf pd_0 rfl) rfl (by show 2 * 0 + _ ≤ _; exact Nat.le_of_eq rfl) (hb hby d_rmT_178) ?_
            intro v374 T374 L374 hQ374 X374
            obtain ⟨rfl, NN374, KK374, q374_0, q374_1, q374_2, q374_3, q374_4, q374_5, q374_6, q374_7, q374_8, q374_9⟩ := hQ374
            have N374 := Fr.app N311 NN374
            have UU374 : own_U Z n0 dc T374.heap u L1 L2 (k + 1) (0 : Int32) (0 : Int32) := ⟨q374_0, gU, q374_1, q374_2, q374_3, q374_4, ⟨_, q374_5⟩, ⟨_, q374_6.mono (by omega)⟩, ⟨_, q374_7.mono (by omega)⟩⟩
            show own_Dn p e below s (fun v h L => ∃ x y : Int32, v = some (.int (own_hp x y)) ∧ Fr n0 L ∧ n0 ≤ h.size ∧ own_U Z n0 dc h u L1 L2 (k + 1) x y ∧ 0 ≤ x.toInt ∧ x.toInt ≤ ((k + 1 : Nat) : Int) ∧ 0 ≤ y.toInt ∧ y.toInt ≤ ((k + 1 : Nat) : Int) ∧ Sta Z h "java/util/ArrayList" "DEFAULTCAPACITY_EMPTY_ELEMENTDATA" "[Ljava/lang/Object;" (.ref dc) ∧ own_A Z h dc 0) ({ frames := 6, cells := 7, slots := 44, locals := 88 } : Room).cells ({ frames := 6, cells := 7, slots := 44, locals := 88 } : Room).slots (T374.setTop (mkF m 181 #[.val (.ref u), .val (.int x), .val (.int e1), .val (.int (x &&& (3 : Int32))), .val (.int (1 : Int32)), .val (.int (0 : Int32)), .val (.ref b308), .unset] []))
            refine own_st (q' := T374.setTop (mkF m 185 #[.val (.ref u), .val (.int x), .val (.int e1), .val (.int (x &&& (3 : Int32))), .val (.int (1 : Int32)), .val (.int (0 : Int32)), .val (.ref b308), .unset] [(.ref u)])) (fun _ k => XS.iconst X374.here hx rfl (hb hby d_rmT_181) (XS.istore X374.here hx rfl (hb hby d_rmT_182) rfl (l' := #[.val (.ref u), .val (.int x), .val (.int e1), .val (.int (x &&& (3 : Int32))), .val (.int (1 : Int32)), .val (.int (0 : Int32)), .val (.ref b308), .unset]) rfl (XS.aloadN X374.here hx rfl (hb hby d_rmT_184) rfl rfl k))) ?_
            refine own_callV (y := (⟨"com/example/rock_dove/rockdove/store/UnitOfWork", "holdsPersistent", "()Z"⟩ : MethodName)) X374 hx hZ hown (wd_37 hw) (wd_38 hw) (wd_40 hw) (wd_39 hw) (wd_2 hw) (wd_41 hw) (by decide) (rmHP l Z a0 hw [] u (0 : Int32) (0 : Int32) T374.heap n0 (Nat.le_trans (Nat.le_trans (Nat.le_trans Z0 E308.1) KK311.1) KK374.1) q374_3 q374_4) (rfl : T374.heap = T374.heap) q374_0 (W := 0) (by decide) (by decide) (by decide) (by decide) (g := (mkF m 185 #[.val (.ref u), .val (.int x), .val (.int e1), .val (.int (x &&& (3 : Int32))), .val (.int (1 : Int32)), .val (.int (0 : Int32)), .val (.ref b308), .unset] [(.ref u)])) rfl (by rw [hml]; rfl) (argsL := []) (rest := []) rfl (lenOf pd_8 rfl) rfl (by show 2 * 0 + _ ≤ _; exact Nat.le_of_eq rfl) (hb hby d_rmT_185) ?_
            intro v375 T375 L375 hQ375 X375
            obtain ⟨rfl, NN375, e375⟩ := hQ375
            have N375 := Fr.app N374 NN375
            show own_Dn p e below s (fun v h L => ∃ x y : Int32, v = some (.int (own_hp x y)) ∧ Fr n0 L ∧ n0 ≤ h.size ∧ own_U Z n0 dc h u L1 L2 (k + 1) x y ∧ 0 ≤ x.toInt ∧ x.toInt ≤ ((k + 1 : Nat) : Int) ∧ 0 ≤ y.toInt ∧ y.toInt ≤ ((k + 1 : Nat) : Int) ∧ Sta Z h "java/util/ArrayList" "DEFAULTCAPACITY_EMPTY_ELEMENTDATA" "[Ljava/lang/Object;" (.ref dc) ∧ own_A Z h dc 0) ({ frames := 6, cells := 7, slots := 44, locals := 88 } : Room).cells ({ frames := 6, cells := 7, slots := 44, locals := 88 } : Room).slots (T375.setTop (mkF m 188 #[.val (.ref u), .val (.int x), .val (.int e1), .val (.int (x &&& (3 : Int32))), .val (.int (1 : Int32)), .val (.int (0 : Int32)), .val (.ref b308), .unset] [(.int (own_hp (0 : Int32) (0 : Int32)))]))
            refine own_st (q' := T375.setTop (mkF m 190 #[.val (.ref u), .val (.int x), .val (.int e1), .val (.int (x &&& (3 : Int32))), .val (.int (1 : Int32)), .val (.int (0 : Int32)), .val (.ref b308), .unset] [(.int (0 : Int32)), (.int (own_hp (0 : Int32) (0 : Int32)))])) (fun _ k => XS.iload X375.here hx rfl (hb hby d_rmT_188) rfl k) ?_
            have HPF : (own_hp (0 : Int32) (0 : Int32)) = (0 : Int32) := (by decide)
            refine own_st (q' := T375.setTop (mkF m 205 #[.val (.ref u), .val (.int x), .val (.int e1), .val (.int (x &&& (3 : Int32))), .val (.int (1 : Int32)), .val (.int (0 : Int32)), .val (.ref b308), .unset] [(.int (0 : Int32))])) (fun _ k => XS.icmpYes X375.here hx rfl (pc0 := 190) (pc' := 195) rfl (hb hby d_rmT_190) rfl (teq (HPF : (own_hp (0 : Int32) (0 : Int32)) = (0 : Int32))).1 (by decide) (by decide) (XS.iload X375.here hx rfl (hb hby d_rmT_195) rfl (XS.ifYes X375.here hx rfl (pc0 := 197) (pc' := 204) rfl (hb hby d_rmT_197) rfl ((if0 _ _).trans (teq ((by decide : (0 : Int32) = (0 : Int32)) : (0 : Int32) = (0 : Int32))).1) (by decide) (by decide) (XS.iconst X375.here hx rfl (hb hby d_rmT_204) k)))) ?_
            exact own_retI X375 hx hlk hret (hb hby d_rmT_205) e375 (by exact ⟨(0 : Int32), (0 : Int32), congrArg (fun z => some (Value.int z)) HPF.symm, N375, (Nat.le_trans (Nat.le_trans (Nat.le_trans Z0 E308.1) KK311.1) KK374.1), UU374, (own_zu (k + 1)).1, (own_zu (k + 1)).2, (own_zu (k + 1)).1, (own_zu (k + 1)).2, q374_8, q374_9⟩) (by decide) (by decide)
theorem ef_rm0 (m : MethodId) (x0 : Int32) (x1 : Int32) (x2 : Int32) : entryFrame m #[(.int x0), (.int x1), (.int x2)] maxLocals = mkF m 0 #[.val (.int x0), .val (.int x1), .val (.int x2), .unset, .unset] [] := by first | (simp [entryFrame, mkF, argsToLocals, Value.category, maxLocals]; done) | rfl
theorem wd_46 {a0 : Array Value} {Z : State} (hw : ∀ d ∈ tables_1, d.before a0 Z = true) : Cond.before (Jvm.Cond.methodLink "com/example/rock_dove/rockdove/store/UnitOfWorkHoldsPersistentPinLaw" (14 : Nat) ({ cls := "com/example/rock_dove/rockdove/store/UnitOfWorkHoldsPersistentPinLaw", name := "step", desc := "(Lcom/example/rock_dove/rockdove/store/UnitOfWork;II)I" } : Jvm.MethodName)) a0 Z = true := hw _ (List.mem_of_getElem? (i := 46) rfl)
theorem pd_13 : parseMethodDescriptor "(Lcom/example/rock_dove/rockdove/store/UnitOfWork;II)I" = some ⟨[(.object "com/example/rock_dove/rockdove/store/UnitOfWork"), .int, .int], some .int⟩ := by decide +kernel
theorem wd_47 {a0 : Array Value} {Z : State} (hw : ∀ d ∈ tables_1, d.before a0 Z = true) : Cond.before (Jvm.Cond.static ({ cls := "com/example/rock_dove/rockdove/store/UnitOfWorkHoldsPersistentPinLaw", name := "step", desc := "(Lcom/example/rock_dove/rockdove/store/UnitOfWork;II)I" } : Jvm.MethodName)) a0 Z = true := hw _ (List.mem_of_getElem? (i := 47) rfl)
theorem wd_48 {a0 : Array Value} {Z : State} (hw : ∀ d ∈ tables_1, d.before a0 Z = true) : Cond.before (Jvm.Cond.initialized "com/example/rock_dove/rockdove/store/UnitOfWorkHoldsPersistentPinLaw") a0 Z = true := hw _ (List.mem_of_getElem? (i := 48) rfl)
theorem wd_49 {a0 : Array Value} {Z : State} (hw : ∀ d ∈ tables_1, d.before a0 Z = true) : Cond.before (Jvm.Cond.code ({ cls := "com/example/rock_dove/rockdove/store/UnitOfWorkHoldsPersistentPinLaw", name := "step", desc := "(Lcom/example/rock_dove/rockdove/store/UnitOfWork;II)I" } : Jvm.MethodName) method_3_code (8 : Nat) (Option.some Jvm.ClassFile.FieldType.int)) a0 Z = true := hw _ (List.mem_of_getElem? (i := 49) rfl)
set_option maxRecDepth 65536 in
set_option maxHeartbeats 40000000 in
theorem rm0 (l : Launch) (Z : State) (a0 : Array Value) (hw : ∀ d ∈ tables_1, d.before a0 Z = true) (ws : List Jvm.Cond) (x0 x1 x2 : Int32) (dc mir : Addr) (h0 : Heap) (n0 : Nat) (Z0 : n0 ≤ h0.size) (Mi : own_Mi Z mir) (Fs : Sta Z h0 "java/util/ArrayList" "DEFAULTCAPACITY_EMPTY_ELEMENTDATA" "[Ljava/lang/Object;" (.ref dc)) (A0 : own_A Z h0 dc 0) :
    own_Met l Z x ws code maxLocals ret room_1 #[(.int x0), (.int x1), (.int x2)] h0 (fun v h L => v = some (.int 1) ∧ Fr n0 L) := by
  refine own_body (y := x) (plainFor_of_name pn_7) ?_
  intro p e s m below meth c s₁ hx hby hml hown hnm hret hlk hZ X0 e0
  have hml : c.maxLocals = 5 := hml
  have hown : s.vm.findClass "com/example/rock_dove/rockdove/store/UnitOfWorkHoldsPersistentPinLaw" = some m.cls := hown
  have N0 := Fr.nil n0
  refine own_entry (ef_rm0 m x0 x1 x2) ?_
  show own_Dn p e below s (fun v h L => v = some (.int 1) ∧ Fr n0 L) room_1.cells room_1.slots (s₁.setTop (mkF m 0 #[.val (.int x0), .val (.int x1), .val (.int x2), .unset, .unset] []))
  obtain ⟨T101, h101, X101, e101, E101, A101, D101, -, st101⟩ := newO X0 hx hZ hown (wd_0 hw) (wd_1 hw) (wd_2 hw) e0 (g := (mkF m 0 #[.val (.int x0), .val (.int x1), .val (.int x2), .unset, .unset] [])) rfl (hb hby at_0) (by decide) (by decide)
  obtain ⟨b101, g101⟩ : ∃ z, z = h0.size := ⟨_, rfl⟩
  rw [← g101] at A101 D101 st101
  have lt_dc_b101 : dc < b101 := Nat.lt_of_lt_of_le A0.lt (Nat.le_of_eq g101.symm)
  have ge_b101 : n0 ≤ b101 := Nat.le_trans Z0 (Nat.le_of_eq g101.symm)
  have F_puts_b101 : Fld Z h101 b101 "com/example/rock_dove/rockdove/store/UnitOfWork" "puts" "Ljava/util/List;" .null := D101 (Or.inr (wd_34 hw)) (ty := (.object "java/util/List")) (by decide)
  have F_removals_b101 : Fld Z h101 b101 "com/example/rock_dove/rockdove/store/UnitOfWork" "removals" "Ljava/util/List;" .null := D101 (Or.inr (wd_36 hw)) (ty := (.object "java/util/List")) (by decide)
  have F_persistentPuts_b101 : Fld Z h101 b101 "com/example/rock_dove/rockdove/store/UnitOfWork" "persistentPuts" "I" (.int (0 : Int32)) := D101 (Or.inl (wd_43 hw)) (ty := .int) (by decide)
  have F_persistentRemovals_b101 : Fld Z h101 b101 "com/example/rock_dove/rockdove/store/UnitOfWork" "persistentRemovals" "I" (.int (0 : Int32)) := D101 (Or.inl (wd_45 hw)) (ty := .int) (by decide)
  have F_id_b101 : Fld Z h101 b101 "com/example/rock_dove/rockdove/store/UnitOfWork" "id" "J" (.long (0 : Int64)) := D101 (Or.inl (wd_133 hw)) (ty := .long) (by decide)
  refine own_st (q' := T101.setTop (mkF m 3 #[.val (.int x0), .val (.int x1), .val (.int x2), .unset, .unset] [(.ref b101)])) st101 ?_
  refine own_st (q' := T101.setTop (mkF m 4 #[.val (.int x0), .val (.int x1), .val (.int x2), .unset, .unset] [(.ref b101), (.ref b101)])) (fun _ k => XS.dup X101.here hx rfl (hb hby at_3) rfl rfl k) ?_
  have f102 := (Fs.ext E101)
  have f103 := (A0.ext E101)
  refine own_callI (y := (⟨"com/example/rock_dove/rockdove/store/UnitOfWork", "<init>", "()V"⟩ : MethodName)) X101 hx hZ hown rfl (wd_3 hw) (wd_4 hw) (wd_2 hw) (wd_5 hw) (by decide) (rmUI l Z a0 hw [] b101 dc h101 n0 (Nat.le_trans Z0 E101.1) A101 ge_b101 F_puts_b101 F_removals_b101 F_persistentPuts_b101 F_persistentRemovals_b101 F_id_b101 f102 f103) e101 (W := 1) (by decide) (by decide) (by decide) (by decide) (g := (mkF m 4 #[.val (.int x0), .val (.int x1), .val (.int x2), .unset, .unset] [(.ref b101), (.ref b101)])) rfl (by rw [hml]; rfl) (a := b101) (argsL := []) (rest := [(.ref b101)]) rfl (lenOf pd_0 rfl) rfl (by show 2 * 0 + _ ≤ _; exact Nat.le_of_eq rfl) (hb hby at_4) ?_
  intro v104 T104 L104 hQ104 X104
  obtain ⟨x1104, x2104, rfl, NN104, KK104, q104_0, q104_1, q104_2, q104_3, q104_4, q104_5, q104_6, q104_7, q104_8, q104_9, q104_10, q104_11, q104_12⟩ := hQ104
  have N104 := Fr.app N0 NN104
  have FC104 := q104_10
  obtain ⟨EF104, gF104, mF104, fF104, sF104, dF104⟩ := FC104
  show own_Dn p e below s (fun v h L => v = some (.int 1) ∧ Fr n0 L) room_1.cells room_1.slots (T104.setTop (mkF m 7 #[.val (.int x0), .val (.int x1), .val (.int x2), .unset, .unset] [(.ref b101)]))
  refine own_st (q' := T104.setTop (mkF m 9 #[.val (.int x0), .val (.int x1), .val (.int x2), .val (.ref b101), .unset] [(.ref b101)])) (fun _ k => XS.astoreN X104.here hx rfl (hb hby at_7) rfl rfl (l' := #[.val (.int x0), .val (.int x1), .val (.int x2), .val (.ref b101), .unset]) rfl (XS.aloadN X104.here hx rfl (hb hby at_8) rfl rfl k)) ?_
  refine own_callV (y := (⟨"com/example/rock_dove/rockdove/store/UnitOfWork", "holdsPersistent", "()Z"⟩ : MethodName)) X104 hx hZ hown (wd_37 hw) (wd_38 hw) (wd_40 hw) (wd_39 hw) (wd_2 hw) (wd_41 hw) (by decide) (rmHP l Z a0 hw [] b101 (0 : Int32) (0 : Int32) T104.heap n0 (Nat.le_trans (Nat.le_trans Z0 E101.1) KK104.1) q104_6 q104_7) (rfl : T104.heap = T104.heap) q104_3 (W := 0) (by decide) (by decide) (by decide) (by decide) (g := (mkF m 9 #[.val (.int x0), .val (.int x1), .val (.int x2), .val (.ref b101), .unset] [(.ref b101)])) rfl (by rw [hml]; rfl) (argsL := []) (rest := []) rfl (lenOf pd_8 rfl) rfl (by show 2 * 0 + _ ≤ _; exact Nat.le_of_eq rfl) (hb hby at_9) ?_
  intro v105 T105 L105 hQ105 X105
  obtain ⟨rfl, NN105, e105⟩ := hQ105
  have N105 := Fr.app N104 NN105
  show own_Dn p e below s (fun v h L => v = some (.int 1) ∧ Fr n0 L) room_1.cells room_1.slots (T105.setTop (mkF m 12 #[.val (.int x0), .val (.int x1), .val (.int x2), .val (.ref b101), .unset] [(.int (own_hp (0 : Int32) (0 : Int32)))]))
  refine own_st (q' := T105.setTop (mkF m 17 #[.val (.int x0), .val (.int x1), .val (.int x2), .val (.ref b101), .unset] [])) (fun _ k => XS.ifYes X105.here hx rfl (pc0 := 12) (pc' := 17) rfl (hb hby at_12) rfl ((if0 _ _).trans (teq (by decide : (own_hp (0 : Int32) (0 : Int32)) = (0 : Int32))).1) (by decide) (by decide) k) ?_
  have UU0 : own_U Z n0 dc T104.heap b101 x1104 x2104 0 (0 : Int32) (0 : Int32) := ⟨q104_3, ge_b101, q104_4, q104_5, q104_6, q104_7, ⟨_, q104_8⟩, ⟨_, q104_9.toL⟩, ⟨_, q104_10.toL⟩⟩
  have he0 : (0 : Int32) = own_hp (0 : Int32) (0 : Int32) := by decide
  refine own_st (q' := T105.setTop (mkF m 20 #[.val (.int x0), .val (.int x1), .val (.int x2), .val (.ref b101), .unset] [(.int (0 : Int32)), (.int x0), (.ref b101)])) (fun _ k => XS.aloadN X105.here hx rfl (hb hby at_17) rfl rfl (XS.iloadN X105.here hx rfl (hb hby at_18) rfl (XS.iconst X105.here hx rfl (hb hby at_19) k))) ?_
  refine own_callS (y := (⟨"com/example/rock_dove/rockdove/store/UnitOfWorkHoldsPersistentPinLaw", "step", "(Lcom/example/rock_dove/rockdove/store/UnitOfWork;II)I"⟩ : MethodName)) X105 hx hZ hown (wd_46 hw) (wd_47 hw) (wd_48 hw) (wd_49 hw) (by decide) (rmT l Z a0 hw [] b101 x1104 x2104 dc mir 0 x0 (0 : Int32) (0 : Int32) (0 : Int32) T104.heap n0 (Nat.le_trans (Nat.le_trans Z0 E101.1) KK104.1) UU0 q104_2 (by decide) he0 (by decide) (by decide) (by decide) (by decide) Mi q104_11 q104_12) e105 (W := 0) (by decide) (by decide) (by decide) (by decide) (g := (mkF m 20 #[.val (.int x0), .val (.int x1), .val (.int x2), .val (.ref b101), .unset] [(.int (0 : Int32)), (.int x0), (.ref b101)])) rfl (by rw [hml]; rfl) (argsL := [(.ref b101), (.int x0), (.int (0 : Int32))]) (rest := []) rfl (lenOf pd_13 rfl) rfl (by show 2 * 0 + _ ≤ _; exact Nat.le_of_eq rfl) (hb hby at_20) ?_
  intro v106 T106 L106 hQ106 X106
  obtain ⟨xx106, yy106, rfl, NN106, ZZ106, UU106, b1_106, b2_106, b3_106, b4_106, SS106, AA106⟩ := hQ106
  have N106 := Fr.app N105 NN106
  show own_Dn p e below s (fun v h L => v = some (.int 1) ∧ Fr n0 L) room_1.cells room_1.slots (T106.setTop (mkF m 23 #[.val (.int x0), .val (.int x1), .val (.int x2), .val (.ref b101), .unset] [(.int (own_hp xx106 yy106))]))
  refine own_st (q' := T106.setTop (mkF m 34 #[.val (.int x0), .val (.int x1), .val (.int x2), .val (.ref b101), .val (.int (own_hp xx106 yy106))] [(.ref b101)])) (fun _ k => XS.istore X106.here hx rfl (hb hby at_23) rfl (l' := #[.val (.int x0), .val (.int x1), .val (.int x2), .val (.ref b101), .val (.int (own_hp xx106 yy106))]) rfl (XS.iload X106.here hx rfl (hb hby at_25) rfl (XS.iconst X106.here hx rfl (hb hby at_27) (XS.icmpYes X106.here hx rfl (pc0 := 28) (pc' := 33) rfl (hb hby at_28) rfl (feq (own_hp2 _ _ : ¬ ((own_hp xx106 yy106) = (2 : Int32)))).2 (by decide) (by decide) (XS.aloadN X106.here hx rfl (hb hby at_33) rfl rfl k))))) ?_
  refine own_st (q' := T106.setTop (mkF m 37 #[.val (.int x0), .val (.int x1), .val (.int x2), .val (.ref b101), .val (.int (own_hp xx106 yy106))] [(.int (own_hp xx106 yy106)), (.int x1), (.ref b101)])) (fun _ k => XS.iloadN X106.here hx rfl (hb hby at_34) rfl (XS.iload X106.here hx rfl (hb hby at_35) rfl k)) ?_
  refine own_callS (y := (⟨"com/example/rock_dove/rockdove/store/UnitOfWorkHoldsPersistentPinLaw", "step", "(Lcom/example/rock_dove/rockdove/store/UnitOfWork;II)I"⟩ : MethodName)) X106 hx hZ hown (wd_46 hw) (wd_47 hw) (wd_48 hw) (wd_49 hw) (by decide) (rmT l Z a0 hw [] b101 x1104 x2104 dc mir 1 x1 (own_hp xx106 yy106) xx106 yy106 T106.heap n0 ZZ106 UU106 q104_2 (by decide) rfl b1_106 b2_106 b3_106 b4_106 Mi SS106 AA106) (rfl : T106.heap = T106.heap) (W := 0) (by decide) (by decide) (by decide) (by decide) (g := (mkF m 37 #[.val (.int x0), .val (.int x1), .val (.int x2), .val (.ref b101), .val (.int (own_hp xx106 yy106))] [(.int (own_hp xx106 yy106)), (.int x1), (.ref b101)])) rfl (by rw [hml]; rfl) (argsL := [(.ref b101), (.int x1), (.int (own_hp xx106 yy106))]) (rest := []) rfl (lenOf pd_13 rfl) rfl (by show 2 * 0 + _ ≤ _; exact Nat.le_of_eq rfl) (hb hby at_37) ?_
  intro v107 T107 L107 hQ107 X107
  obtain ⟨xx107, yy107, rfl, NN107, ZZ107, UU107, b1_107, b2_107, b3_107, b4_107, SS107, AA107⟩ := hQ107
  have N107 := Fr.app N106 NN107
  show own_Dn p e below s (fun v h L => v = some (.int 1) ∧ Fr n0 L) room_1.cells room_1.slots (T107.setTop (mkF m 40 #[.val (.int x0), .val (.int x1), .val (.int x2), .val (.ref b101), .val (.int (own_hp xx106 yy106))] [(.int (own_hp xx107 yy107))]))
  refine own_st (q' := T107.setTop (mkF m 51 #[.val (.int x0), .val (.int x1), .val (.int x2), .val (.ref b101), .val (.int (own_hp xx107 yy107))] [(.ref b101)])) (fun _ k => XS.istore X107.here hx rfl (hb hby at_40) rfl (l' := #[.val (.int x0), .val (.int x1), .val (.int x2), .val (.ref b101), .val (.int (own_hp xx107 yy107))]) rfl (XS.iload X107.here hx rfl (hb hby at_42) rfl (XS.iconst X107.here hx rfl (hb hby at_44) (XS.icmpYes X107.here hx rfl (pc0 := 45) (pc' := 50) rfl (hb hby at_45) rfl (feq (own_hp2 _ _ : ¬ ((own_hp xx107 yy107) = (2 : Int32)))).2 (by decide) (by decide) (XS.aloadN X107.here hx rfl (hb hby at_50) rfl rfl k))))) ?_
  refine own_st (q' := T107.setTop (mkF m 54 #[.val (.int x0), .val (.int x1), .val (.int x2), .val (.ref b101), .val (.int (own_hp xx107 yy107))] [(.int (own_hp xx107 yy107)), (.int x2), (.ref b101)])) (fun _ k => XS.iloadN X107.here hx rfl (hb hby at_51) rfl (XS.iload X107.here hx rfl (hb hby at_52) rfl k)) ?_
  refine own_callS (y := (⟨"com/example/rock_dove/rockdove/store/UnitOfWorkHoldsPersistentPinLaw", "step", "(Lcom/example/rock_dove/rockdove/store/UnitOfWork;II)I"⟩ : MethodName)) X107 hx hZ hown (wd_46 hw) (wd_47 hw) (wd_48 hw) (wd_49 hw) (by decide) (rmT l Z a0 hw [] b101 x1104 x2104 dc mir 2 x2 (own_hp xx107 yy107) xx107 yy107 T107.heap n0 ZZ107 UU107 q104_2 (by decide) rfl b1_107 b2_107 b3_107 b4_107 Mi SS107 AA107) (rfl : T107.heap = T107.heap) (W := 0) (by decide) (by decide) (by decide) (by decide) (g := (mkF m 54 #[.val (.int x0), .val (.int x1), .val (.int x2), .val (.ref b101), .val (.int (own_hp xx107 yy107))] [(.int (own_hp xx107 yy107)), (.int x2), (.ref b101)])) rfl (by rw [hml]; rfl) (argsL := [(.ref b101), (.int x2), (.int (own_hp xx107 yy107))]) (rest := []) rfl (lenOf pd_13 rfl) rfl (by show 2 * 0 + _ ≤ _; exact Nat.le_of_eq rfl) (hb hby at_54) ?_
  intro v108 T108 L108 hQ108 X108
  obtain ⟨xx108, yy108, rfl, NN108, ZZ108, UU108, b1_108, b2_108, b3_108, b4_108, SS108, AA108⟩ := hQ108
  have N108 := Fr.app N107 NN108
  show own_Dn p e below s (fun v h L => v = some (.int 1) ∧ Fr n0 L) room_1.cells room_1.slots (T108.setTop (mkF m 57 #[.val (.int x0), .val (.int x1), .val (.int x2), .val (.ref b101), .val (.int (own_hp xx107 yy107))] [(.int (own_hp xx108 yy108))]))
  refine own_st (q' := T108.setTop (mkF m 66 #[.val (.int x0), .val (.int x1), .val (.int x2), .val (.ref b101), .val (.int (own_hp xx108 yy108))] [(.int (1 : Int32))])) (fun _ k => XS.istore X108.here hx rfl (hb hby at_57) rfl (l' := #[.val (.int x0), .val (.int x1), .val (.int x2), .val (.ref b101), .val (.int (own_hp xx108 yy108))]) rfl (XS.iload X108.here hx rfl (hb hby at_59) rfl (XS.iconst X108.here hx rfl (hb hby at_61) (XS.icmpNo X108.here hx rfl (hb hby at_62) rfl (feq (own_hp2 _ _ : ¬ ((own_hp xx108 yy108) = (2 : Int32)))).1 (XS.iconst X108.here hx rfl (hb hby at_65) k))))) ?_
  refine own_st (q' := T108.setTop (mkF m 70 #[.val (.int x0), .val (.int x1), .val (.int x2), .val (.ref b101), .val (.int (own_hp xx108 yy108))] [(.int (1 : Int32))])) (fun _ k => XS.goto X108.here hx rfl (pc0 := 66) (pc' := 70) rfl (hb hby at_66) (by decide) (by decide) k) ?_
  exact own_retN X108 hx hlk (t := .boolean) hret (by simp) (hb hby at_70) (rfl : T108.heap = T108.heap) (by exact ⟨rfl, N108⟩) (by decide) (by decide)
theorem own_st1 {args : Array Value} {s : State} {t : Term} {k : Int32} (hv : (Jvm.Cond.eq t (Term.int k)).value args s none s [] = some true) : t.eval args s none [] s = some (.int k) := by
  obtain ⟨x, y, e1, e2, k1, k2⟩ := cmp_v (Or.inl hv)
  have e3 : (Term.int k).eval args s none [] s = some (.int k) := Term.int_eval k
  cases e3.symm.trans e2
  obtain ⟨z, rfl⟩ := k2
  have q := gotT (Cond.eq_ints e1 e3) hv
  subst q
  exact e1
theorem own_dcs {args a0 : Array Value} {s : State} {t : Term} {dc : Addr} (ev : t.eval args s none [] s = some (.ref dc)) (x : (Cond.exactly t "[Ljava/lang/Object;").value args s none s [] = some true) (wa : (Cond.arrayOf t (.object "java/lang/Object")).value args s none s [] = some true) (wl : (Cond.eq (Term.length t) (Term.int (0 : Int32))).value args s none s [] = some true) (wo : (Cond.arrayOver (.object "java/lang/Object")).before a0 s = true) : own_A s s.heap dc 0 := by
  obtain ⟨cl, A⟩ := Arr.start ev wa
  obtain ⟨c1, k1, e1, e2, -⟩ := exa_at ev x
  cases e1.symm.trans A.1
  have hl := own_st1 wl
  obtain ⟨sd, SA, hev, hat, -⟩ := Term.length_spec hl
  cases ev.symm.trans hev
  have h31 := SBG.length_lt hev hat hl
  have h0 : (Term.length t).eval args s none [] s = some (.int (Int32.ofNat SA.slots.size)) := by simp [Term.eval, hev, hat, h31]
  have hz : Int32.ofNat SA.slots.size = 0 := by
    have q := h0.symm.trans hl
    simpa using q
  have hs : SA.slots.size = 0 := by
    have q := congrArg Int32.toInt hz
    rw [Int32.toInt_ofNat_of_lt h31] at q
    have l0 : (0 : Int32).toInt = 0 := rfl
    omega
  have hh : s.heap[dc]? = some SA := by
    unfold State.arrayAt? at hat
    simp only [Option.bind_eq_bind, Option.bind_eq_some_iff] at hat
    obtain ⟨c2, z1, k2, z3, z2⟩ := hat
    split at z2
    · cases z2
    · split at z2
      · cases z2
        exact z1
      · cases z2
  cases hh.symm.trans A.1
  obtain ⟨comp, cA, kA, o1, -, o2, o3, o4⟩ := Cond.arrayOver_spec wo
  cases o4.symm.trans e2
  exact ⟨_, A, ⟨kA, comp, o2, o3, o1⟩, e2, hs⟩
set_option maxRecDepth 65536 in
set_option maxHeartbeats 40000000 in
theorem comes_1 {Post : Tables → Env → Array Value → State → Outcome → State → Prop} (hpost : ∀ tb e args s v u, (limb_1_1.after args s (.returned v) u = true ∧ limb_1_2.after args s (.returned v) u = true ∧ True) → FrameEnd s (.returned v) u (Jvm.fieldLocs frame_1_writes args s ++ Jvm.arrayLocs frame_1_arrays args s ++ Jvm.staticLocs frame_1_statics s) 56 320 → Post tb e args s (.returned v) u) :
    ArmFor flags0 classFile x code maxLocals ret World_1 tables_1 room_1 Calls_1 rest_1 Pre_1 Post := by
  intro l hfl _ _ p e ha hc hk s m args below hf hA hF happ hP
  obtain ⟨hcalls, hrest, hpre⟩ := hP
  obtain ⟨-, -, -, hnamed, -, -, -, hat⟩ := (Spec.applies_iff hf).mp happ
  obtain ⟨hg, hn⟩ := and_e (Cond.before_iff.mp (show (Jvm.Cond.and given_1 narrow_1).before args s = true from hpre))
  obtain ⟨hcount, g0⟩ := and_e hg
  obtain ⟨hi0, g1⟩ := and_e g0
  obtain ⟨hi1, g2⟩ := and_e g1
  have hi2 := g2
  obtain ⟨w0, w1, w2, rfl⟩ : ∃ w0 w1 w2 : Value, args = #[w0, w1, w2] := by
    have hs : args.size = 3 := by simpa [Cond.value, given_1] using hcount
    obtain ⟨L⟩ := args
    match L, hs with
    | [w0, w1, w2], _ => exact ⟨w0, w1, w2, rfl⟩
  have hw := fun d (hd : d ∈ tables_1) => atoms_spec (ws := Jvm.Cond.code x code maxLocals ret :: tables_1) hat d (List.mem_cons_of_mem _ hd)
  have hfit : Fit s := fun {y c} hc i hi => by
    obtain ⟨ha, rfl⟩ := Array.getElem?_eq_some_iff.mp hc
    have q := List.all_eq_true.mp ((Array.all_eq_true_iff_forall_mem.mp hF) _ (Array.getElem_mem ha)) i (List.mem_range.mpr hi)
    simpa [Array.getElem?_eq_getElem hi] using q
  obtain ⟨hsets, hown0⟩ := atoms_of _ (rest_1_c_eq ▸ (show rest_1_c.before _ s = true from hrest))
  have hr0 := Cond.before_iff.mp hown0
  obtain ⟨i0, ei0⟩ := is_v hi0
  obtain rfl : w0 = (.int i0) := Option.some.inj ei0
  obtain ⟨i1, ei1⟩ := is_v hi1
  obtain rfl : w1 = (.int i1) := Option.some.inj ei1
  obtain ⟨i2, ei2⟩ := is_v hi2
  obtain rfl : w2 = (.int i2) := Option.some.inj ei2
  obtain ⟨⟨cM, kM, mir, m1, m2, m3, -⟩, -⟩ := hcalls
  have hMi : own_Mi s mir := ⟨cM, kM, m1, m2, m3⟩
  obtain ⟨dc, ev⟩ := exa_v (Cond.before_iff.mp (hsets _ (List.mem_of_getElem? (i := 7) rfl)))
  have S0 : Sta s s.heap "java/util/ArrayList" "DEFAULTCAPACITY_EMPTY_ELEMENTDATA" "[Ljava/lang/Object;" (.ref dc) := Sta.start ev (Or.inr ⟨(hw _ (List.mem_of_getElem? (i := 11) rfl)), (hsets _ (List.mem_of_getElem? (i := 2) rfl))⟩)
  have D0 : own_A s s.heap dc 0 := own_dcs ev (Cond.before_iff.mp (hsets _ (List.mem_of_getElem? (i := 7) rfl))) (Cond.before_iff.mp (hsets _ (List.mem_of_getElem? (i := 6) rfl))) (Cond.before_iff.mp (hsets _ (List.mem_of_getElem? (i := 8) rfl))) (hw _ (List.mem_of_getElem? (i := 112) rfl))
  obtain ⟨n, o, h1, h2, h3, _, L, rfl, ⟨rfl, N⟩, hq⟩ := rm0 l s _ hw tables_1 i0 i1 i2 dc mir s.heap s.heap.size (Nat.le_refl _) hMi S0 D0 p e ha hc hk s m _ below hf ((Spec.applies_iff_loose hf).mp happ).1 ⟨rfl, State.Warmed39.refl s, rfl⟩ trivial
  refine ⟨n, _, h1, h2, h3, hpost _ _ _ _ _ _ ⟨Cond.after_iff.mpr rfl, Cond.after_iff.mpr (eq_i res_at (Term.int_eval (1)) rfl), trivial⟩ ⟨hq.1, hq.2.1, (hq.2.2.sift fun y hy => Or.inr (N y hy)).mono (by decide) (by decide)⟩⟩
theorem main_1_1 : Claimed_1_1 := comes_1 fun _ _ _ _ _ _ h hF => ⟨h.1, hF⟩
theorem main_1_2 : Claimed_1_2 := comes_1 fun _ _ _ _ _ _ h hF => ⟨h.2.1, hF⟩
end Jvm.Pilot.@@N@@
namespace Jvm.Pilot.@@N@@
open Jvm Jvm.ClassFile Sem Op Lib Jvm.Free Jvm.Stand Jvm.Pilot.@@N@@.Jvm.D
/-! MADE BY PROGRAM (witnessworld.py) out of the Statement's table words and the real class files: 24 classes; the members and pool entries that the words name. The judged class is class 1, her method 1. -/
namespace start1
open Jvm.ClassFile
def u (s : String) : CpInfo := .utf8 (stringToUtf16 s)
/-- a pool by its gaps: so many unusable entries, then the entry; so many at the end -/
def gap : Nat → List CpInfo → List CpInfo
  | 0, r => r
  | n + 1, r => .unusable :: gap n r
def poolList (es : List (Nat × CpInfo)) (last : Nat) : List CpInfo := es.foldr (fun e r => gap e.1 (e.2 :: r)) (gap last [])
def pool (es : List (Nat × CpInfo)) (last : Nat) : Array CpInfo := ⟨poolList es last⟩
def fileOf (pool : Array CpInfo) (this : Nat) (attrs : Array Attribute := #[]) (ms : Array MethodInfo := #[]) (fl : Nat := 33) (sup : Nat := 0) (ifs : Array Nat := #[]) (fds : Array FieldInfo := #[]) : ClassFile where
  minorVersion := 0
  majorVersion := 65
  constantPool := pool
  accessFlags := fl
  thisClass := this
  superClass := sup
  interfaces := ifs
  fields := fds
  methods := ms
  attributes := attrs
def plain (name : String) (sup : Option ClassId) : Class where
  name := name
  kind := .ordinary
  loader := none
  accessFlags := 33
  super := sup
  interfaces := #[]
  cf := none
  fields := #[]
  methods := #[]
  instanceTypes := #[]
  staticTypes := #[]
  resolved := #[]
  callSites := []
  init := .initialized
  statics := none
  mirror := none

def pool0 : Array CpInfo := pool [(5, u "<init>"), (0, u "()V"), (1, .class_ 10), (1, u "java/lang/Object"), (0, u "getClass"), (0, u "()Ljava/lang/Class;")] 111

def k0c0 : Code := { maxStack := 0, maxLocals := 1, code := object_method_1_code, exceptionTable := #[], attributes := #[] }
def k0m0 : Method := { name := "<init>", desc := "()V", sig := { parameters := [], returnType := none }, accessFlags := 1, code := some k0c0 }
def k0m1 : Method := { name := "getClass", desc := "()Ljava/lang/Class;", sig := { parameters := [], returnType := some (.object "java/lang/Class") }, accessFlags := 273, code := none }
/-- java/lang/Object -/
def k0 : Class := { plain "java/lang/Object" none with
  accessFlags := 33
  interfaces := #[]
  cf := some (fileOf pool0 8 #[] #[{ accessFlags := 1, nameIndex := 5, descriptorIndex := 6, attributes := #[] }, { accessFlags := 273, nameIndex := 11, descriptorIndex := 12, attributes := #[] }] 33 0 #[] #[])
  fields := #[]
  methods := #[k0m0, k0m1]
  instanceTypes := #[]
  staticTypes := #[]
  resolved := Array.replicate 124 none
  statics := none }

def pool1 : Array CpInfo := pool [(2, .class_ 4), (0, .nameAndType 5 6), (0, u "java/lang/Object"), (0, u "<init>"), (0, u "()V"), (0, .class_ 8), (0, u "com/example/rock_dove/rockdove/store/UnitOfWork"), (0, .methodref 7 3), (0, .methodref 7 11), (0, .nameAndType 12 13), (0, u "holdsPersistent"), (0, u "()Z"), (0, .methodref 15 16), (0, .class_ 17), (0, .nameAndType 18 19), (0, u "com/example/rock_dove/rockdove/store/UnitOfWorkHoldsPersistentPinLaw"), (0, u "step"), (0, u "(Lcom/example/rock_dove/rockdove/store/UnitOfWork;II)I"), (0, .class_ 21), (0, u "com/example/rock_dove/rockdove/store/StoredMessage"), (0, .methodref 20 23), (0, .nameAndType 5 24), (0, u "(JIZJII)V"), (0, .methodref 7 26), (0, .nameAndType 27 28), (0, u "addPut"), (0, u "(Lcom/example/rock_dove/rockdove/store/StoredMessage;)V"), (0, .methodref 7 30), (0, .nameAndType 31 28), (0, u "addRemoval"), (0, .methodref 7 33), (0, .nameAndType 34 35), (0, u "absorb"), (0, u "(Lcom/example/rock_dove/rockdove/store/UnitOfWork;)V"), (0, .methodref 7 37), (0, .nameAndType 38 6), (0, u "end"), (2, u "law"), (0, u "(III)Z")] 3

def k1m0 : Method := { name := "<init>", desc := "()V", sig := { parameters := [], returnType := none }, accessFlags := 2, code := none }
def k1c1 : Code := { maxStack := 3, maxLocals := 5, code := code, exceptionTable := #[], attributes := #[] }
def k1m1 : Method := { name := "law", desc := "(III)Z", sig := { parameters := [.int, .int, .int], returnType := some .boolean }, accessFlags := 9, code := some k1c1 }
def k1c2 : Code := { maxStack := 10, maxLocals := 8, code := method_3_code, exceptionTable := #[], attributes := #[] }
def k1m2 : Method := { name := "step", desc := "(Lcom/example/rock_dove/rockdove/store/UnitOfWork;II)I", sig := { parameters := [(.object "com/example/rock_dove/rockdove/store/UnitOfWork"), .int, .int], returnType := some .int }, accessFlags := 10, code := some k1c2 }
/-- com/example/rock_dove/rockdove/store/UnitOfWorkHoldsPersistentPinLaw -/
def k1 : Class := { plain "com/example/rock_dove/rockdove/store/UnitOfWorkHoldsPersistentPinLaw" (some 0) with
  accessFlags := 49
  interfaces := #[]
  cf := some (fileOf pool1 15 #[] #[{ accessFlags := 2, nameIndex := 5, descriptorIndex := 6, attributes := #[] }, { accessFlags := 9, nameIndex := 41, descriptorIndex := 42, attributes := #[] }, { accessFlags := 10, nameIndex := 18, descriptorIndex := 19, attributes := #[] }] 49 2 #[] #[])
  fields := #[]
  methods := #[k1m0, k1m1, k1m2]
  instanceTypes := #[]
  staticTypes := #[]
  resolved := Array.replicate 46 none
  statics := none }

def pool2 : Array CpInfo := pool [(1, .methodref 2 3), (0, .class_ 4), (0, .nameAndType 5 6), (0, u "java/lang/Object"), (0, u "<init>"), (0, u "()V"), (0, .class_ 8), (0, u "java/util/ArrayList"), (0, .methodref 7 3), (0, .fieldref 11 12), (0, .class_ 13), (0, .nameAndType 14 15), (0, u "com/example/rock_dove/rockdove/store/UnitOfWork"), (0, u "puts"), (0, u "Ljava/util/List;"), (0, .fieldref 11 17), (0, .nameAndType 18 15), (0, u "removals"), (1, .class_ 22), (1, u "java/util/List"), (2, .interfaceMethodref 20 26), (0, .nameAndType 27 28), (0, u "isEmpty"), (0, u "()Z"), (0, .fieldref 11 30), (0, .nameAndType 31 32), (0, u "persistentPuts"), (0, u "I"), (0, .fieldref 11 34), (0, .nameAndType 35 32), (0, u "persistentRemovals"), (7, .interfaceMethodref 20 44), (0, .nameAndType 45 46), (0, u "addAll"), (0, u "(Ljava/util/Collection;)Z"), (0, .methodref 11 48), (0, .nameAndType 49 6), (0, u "end"), (0, .interfaceMethodref 20 51), (0, .nameAndType 52 53), (0, u "add"), (0, u "(Ljava/lang/Object;)Z"), (0, .methodref 55 56), (0, .class_ 57), (0, .nameAndType 58 28), (0, u "com/example/rock_dove/rockdove/store/StoredMessage"), (0, u "isPersistent"), (0, .fieldref 11 60), (0, .nameAndType 61 62), (0, u "id"), (0, u "J"), (0, .interfaceMethodref 20 64), (0, .nameAndType 65 6), (0, u "clear"), (7, u "holdsPersistent"), (0, u "absorb"), (0, u "(Lcom/example/rock_dove/rockdove/store/UnitOfWork;)V"), (0, u "addPut"), (0, u "(Lcom/example/rock_dove/rockdove/store/StoredMessage;)V"), (0, u "addRemoval")] 6

def k2c0 : Code := { maxStack := 3, maxLocals := 1, code := prog_78_method_1_code, exceptionTable := #[], attributes := #[] }
def k2m0 : Method := { name := "<init>", desc := "()V", sig := { parameters := [], returnType := none }, accessFlags := 1, code := some k2c0 }
def k2c1 : Code := { maxStack := 1, maxLocals := 1, code := prog_78_method_5_code, exceptionTable := #[], attributes := #[] }
def k2m1 : Method := { name := "holdsPersistent", desc := "()Z", sig := { parameters := [], returnType := some .boolean }, accessFlags := 1, code := some k2c1 }
def k2c2 : Code := { maxStack := 3, maxLocals := 2, code := prog_78_method_6_code, exceptionTable := #[], attributes := #[] }
def k2m2 : Method := { name := "absorb", desc := "(Lcom/example/rock_dove/rockdove/store/UnitOfWork;)V", sig := { parameters := [(.object "com/example/rock_dove/rockdove/store/UnitOfWork")], returnType := none }, accessFlags := 1, code := some k2c2 }
def k2c3 : Code := { maxStack := 3, maxLocals := 2, code := prog_78_method_7_code, exceptionTable := #[], attributes := #[] }
def k2m3 : Method := { name := "addPut", desc := "(Lcom/example/rock_dove/rockdove/store/StoredMessage;)V", sig := { parameters := [(.object "com/example/rock_dove/rockdove/store/StoredMessage")], returnType := none }, accessFlags := 0, code := some k2c3 }
def k2c4 : Code := { maxStack := 3, maxLocals := 2, code := prog_78_method_8_code, exceptionTable := #[], attributes := #[] }
def k2m4 : Method := { name := "addRemoval", desc := "(Lcom/example/rock_dove/rockdove/store/StoredMessage;)V", sig := { parameters := [(.object "com/example/rock_dove/rockdove/store/StoredMessage")], returnType := none }, accessFlags := 0, code := some k2c4 }
def k2c5 : Code := { maxStack := 3, maxLocals := 1, code := prog_78_method_12_code, exceptionTable := #[], attributes := #[] }
def k2m5 : Method := { name := "end", desc := "()V", sig := { parameters := [], returnType := none }, accessFlags := 0, code := some k2c5 }
/-- com/example/rock_dove/rockdove/store/UnitOfWork -/
def k2 : Class := { plain "com/example/rock_dove/rockdove/store/UnitOfWork" (some 0) with
  accessFlags := 49
  interfaces := #[]
  cf := some (fileOf pool2 11 #[] #[{ accessFlags := 1, nameIndex := 5, descriptorIndex := 6, attributes := #[] }, { accessFlags := 1, nameIndex := 73, descriptorIndex := 28, attributes := #[] }, { accessFlags := 1, nameIndex := 74, descriptorIndex := 75, attributes := #[] }, { accessFlags := 0, nameIndex := 76, descriptorIndex := 77, attributes := #[] }, { accessFlags := 0, nameIndex := 78, descriptorIndex := 77, attributes := #[] }, { accessFlags := 0, nameIndex := 49, descriptorIndex := 6, attributes := #[] }] 49 2 #[] #[{ accessFlags := 18, nameIndex := 14, descriptorIndex := 15, attributes := #[] }, { accessFlags := 18, nameIndex := 18, descriptorIndex := 15, attributes := #[] }, { accessFlags := 2, nameIndex := 31, descriptorIndex := 32, attributes := #[] }, { accessFlags := 2, nameIndex := 35, descriptorIndex := 32, attributes := #[] }, { accessFlags := 2, nameIndex := 61, descriptorIndex := 62, attributes := #[] }])
  fields := #[{ name := "puts", type := (.object "java/util/List"), accessFlags := 18, slot := 0, constantValue := 0 }, { name := "removals", type := (.object "java/util/List"), accessFlags := 18, slot := 1, constantValue := 0 }, { name := "persistentPuts", type := .int, accessFlags := 2, slot := 2, constantValue := 0 }, { name := "persistentRemovals", type := .int, accessFlags := 2, slot := 3, constantValue := 0 }, { name := "id", type := .long, accessFlags := 2, slot := 4, constantValue := 0 }]
  methods := #[k2m0, k2m1, k2m2, k2m3, k2m4, k2m5]
  instanceTypes := #[(.object "java/util/List"), (.object "java/util/List"), .int, .int, .long]
  staticTypes := #[]
  resolved := Array.replicate 85 none
  statics := none }

def pool3 : Array CpInfo := pool [(8, .class_ 10), (1, u "java/lang/Iterable"), (24, .class_ 36), (0, u "java/lang/Object")] 25

/-- java/lang/Iterable -/
def k3 : Class := { plain "java/lang/Iterable" (some 0) with
  accessFlags := 1537
  interfaces := #[]
  cf := some (fileOf pool3 8 #[] #[] 1537 35 #[] #[])
  fields := #[]
  methods := #[]
  instanceTypes := #[]
  staticTypes := #[]
  resolved := Array.replicate 62 none
  statics := none }

def pool4 : Array CpInfo := pool [(10, .class_ 12), (1, u "java/util/Collection"), (0, u "toArray"), (46, .class_ 61), (0, u "java/lang/Object"), (0, .class_ 63), (0, u "java/lang/Iterable"), (6, u "()[Ljava/lang/Object;")] 44

def k4m0 : Method := { name := "toArray", desc := "()[Ljava/lang/Object;", sig := { parameters := [], returnType := some (.array (.object "java/lang/Object")) }, accessFlags := 1025, code := none }
/-- java/util/Collection -/
def k4 : Class := { plain "java/util/Collection" (some 0) with
  accessFlags := 1537
  interfaces := #[3]
  cf := some (fileOf pool4 10 #[] #[{ accessFlags := 1025, nameIndex := 13, descriptorIndex := 70, attributes := #[] }] 1537 60 #[62] #[])
  fields := #[]
  methods := #[k4m0]
  instanceTypes := #[]
  staticTypes := #[]
  resolved := Array.replicate 115 none
  statics := none }

def pool5 : Array CpInfo := pool [(1, .methodref 2 3), (0, .class_ 4), (0, .nameAndType 5 6), (0, u "java/lang/Object"), (0, u "<init>"), (0, u "()V"), (1, .class_ 10), (1, u "java/util/AbstractCollection"), (66, .class_ 78), (0, u "java/util/Collection")] 81

def k5c0 : Code := { maxStack := 1, maxLocals := 1, code := jdk_22_method_1_code, exceptionTable := #[], attributes := #[] }
def k5m0 : Method := { name := "<init>", desc := "()V", sig := { parameters := [], returnType := none }, accessFlags := 4, code := some k5c0 }
/-- java/util/AbstractCollection -/
def k5 : Class := { plain "java/util/AbstractCollection" (some 0) with
  accessFlags := 1057
  interfaces := #[4]
  cf := some (fileOf pool5 8 #[] #[{ accessFlags := 4, nameIndex := 5, descriptorIndex := 6, attributes := #[] }] 1057 2 #[77] #[])
  fields := #[]
  methods := #[k5m0]
  instanceTypes := #[]
  staticTypes := #[]
  resolved := Array.replicate 160 none
  statics := none }

def pool6 : Array CpInfo := pool [(8, .class_ 10), (1, u "java/util/SequencedCollection"), (15, .class_ 27), (0, u "java/lang/Object"), (0, .class_ 29), (0, u "java/util/Collection")] 27

/-- java/util/SequencedCollection -/
def k6 : Class := { plain "java/util/SequencedCollection" (some 0) with
  accessFlags := 1537
  interfaces := #[4]
  cf := some (fileOf pool6 8 #[] #[] 1537 26 #[28] #[])
  fields := #[]
  methods := #[]
  instanceTypes := #[]
  staticTypes := #[]
  resolved := Array.replicate 57 none
  statics := none }

def pool7 : Array CpInfo := pool [(8, .class_ 10), (1, u "java/util/List"), (7, u "()Z"), (41, u "add"), (3, u "(Ljava/lang/Object;)Z"), (2, u "isEmpty"), (4, u "()V"), (30, .class_ 104), (0, u "java/lang/Object"), (15, .class_ 121), (0, u "java/util/SequencedCollection"), (9, u "(Ljava/util/Collection;)Z"), (1, u "addAll"), (35, u "clear")] 81

def k7m0 : Method := { name := "isEmpty", desc := "()Z", sig := { parameters := [], returnType := some .boolean }, accessFlags := 1025, code := none }
def k7m1 : Method := { name := "add", desc := "(Ljava/lang/Object;)Z", sig := { parameters := [(.object "java/lang/Object")], returnType := some .boolean }, accessFlags := 1025, code := none }
def k7m2 : Method := { name := "addAll", desc := "(Ljava/util/Collection;)Z", sig := { parameters := [(.object "java/util/Collection")], returnType := some .boolean }, accessFlags := 1025, code := none }
def k7m3 : Method := { name := "clear", desc := "()V", sig := { parameters := [], returnType := none }, accessFlags := 1025, code := none }
/-- java/util/List -/
def k7 : Class := { plain "java/util/List" (some 0) with
  accessFlags := 1537
  interfaces := #[6]
  cf := some (fileOf pool7 8 #[] #[{ accessFlags := 1025, nameIndex := 67, descriptorIndex := 18, attributes := #[] }, { accessFlags := 1025, nameIndex := 60, descriptorIndex := 64, attributes := #[] }, { accessFlags := 1025, nameIndex := 133, descriptorIndex := 131, attributes := #[] }, { accessFlags := 1025, nameIndex := 169, descriptorIndex := 72, attributes := #[] }] 1537 103 #[120] #[])
  fields := #[]
  methods := #[k7m0, k7m1, k7m2, k7m3]
  instanceTypes := #[]
  staticTypes := #[]
  resolved := Array.replicate 251 none
  statics := none }

def pool8 : Array CpInfo := pool [(1, .methodref 2 3), (0, .class_ 4), (0, .nameAndType 5 6), (0, u "java/util/AbstractCollection"), (0, u "<init>"), (0, u "()V"), (0, .fieldref 8 9), (0, .class_ 10), (0, .nameAndType 11 12), (0, u "java/util/AbstractList"), (0, u "modCount"), (0, u "I"), (64, .class_ 78), (0, u "java/util/AbstractList$Itr"), (3, .class_ 83), (0, u "java/util/AbstractList$ListItr"), (9, .class_ 94), (0, u "java/util/AbstractList$RandomAccessSubList"), (3, .class_ 99), (0, u "java/util/AbstractList$SubList"), (33, .class_ 134), (0, u "java/util/List"), (73, .class_ 209), (0, u "java/util/AbstractList$SubList$1"), (0, .class_ 211), (0, u "java/util/AbstractList$RandomAccessSpliterator")] 6

def k8c0 : Code := { maxStack := 2, maxLocals := 1, code := jdk_39_method_1_code, exceptionTable := #[], attributes := #[] }
def k8m0 : Method := { name := "<init>", desc := "()V", sig := { parameters := [], returnType := none }, accessFlags := 4, code := some k8c0 }
/-- java/util/AbstractList -/
def k8 : Class := { plain "java/util/AbstractList" (some 5) with
  accessFlags := 1057
  interfaces := #[7]
  cf := some (fileOf pool8 8 #[.nestMembers #[93, 98, 208, 210, 82, 77]] #[{ accessFlags := 4, nameIndex := 5, descriptorIndex := 6, attributes := #[] }] 1057 2 #[133] #[{ accessFlags := 132, nameIndex := 11, descriptorIndex := 12, attributes := #[] }])
  fields := #[{ name := "modCount", type := .int, accessFlags := 132, slot := 0, constantValue := 0 }]
  methods := #[k8m0]
  instanceTypes := #[.int]
  staticTypes := #[]
  resolved := Array.replicate 218 none
  statics := none }

def pool9 : Array CpInfo := pool [(1, .class_ 2), (0, u "java/util/RandomAccess"), (0, .class_ 4), (0, u "java/lang/Object")] 2

/-- java/util/RandomAccess -/
def k9 : Class := { plain "java/util/RandomAccess" (some 0) with
  accessFlags := 1537
  interfaces := #[]
  cf := some (fileOf pool9 1 #[] #[] 1537 3 #[] #[])
  fields := #[]
  methods := #[]
  instanceTypes := #[]
  staticTypes := #[]
  resolved := Array.replicate 7 none
  statics := none }

def pool10 : Array CpInfo := pool [(1, .class_ 2), (0, u "java/lang/Cloneable"), (0, .class_ 4), (0, u "java/lang/Object")] 2

/-- java/lang/Cloneable -/
def k10 : Class := { plain "java/lang/Cloneable" (some 0) with
  accessFlags := 1537
  interfaces := #[]
  cf := some (fileOf pool10 1 #[] #[] 1537 3 #[] #[])
  fields := #[]
  methods := #[]
  instanceTypes := #[]
  staticTypes := #[]
  resolved := Array.replicate 7 none
  statics := none }

def pool11 : Array CpInfo := pool [(1, .class_ 2), (0, u "java/io/Serializable"), (0, .class_ 4), (0, u "java/lang/Object")] 2

/-- java/io/Serializable -/
def k11 : Class := { plain "java/io/Serializable" (some 0) with
  accessFlags := 1537
  interfaces := #[]
  cf := some (fileOf pool11 1 #[] #[] 1537 3 #[] #[])
  fields := #[]
  methods := #[]
  instanceTypes := #[]
  staticTypes := #[]
  resolved := Array.replicate 7 none
  statics := none }

def pool12 : Array CpInfo := pool [(1, .methodref 2 3), (0, .class_ 4), (0, .nameAndType 5 6), (0, u "java/util/AbstractList"), (0, u "<init>"), (0, u "()V"), (0, .class_ 8), (0, u "java/lang/Object"), (0, .fieldref 10 11), (0, .class_ 12), (0, .nameAndType 13 14), (0, u "java/util/ArrayList"), (0, u "elementData"), (0, u "[Ljava/lang/Object;"), (2, u "EMPTY_ELEMENTDATA"), (21, .fieldref 10 40), (0, .nameAndType 41 14), (0, u "DEFAULTCAPACITY_EMPTY_ELEMENTDATA"), (0, .interfaceMethodref 43 44), (0, .class_ 45), (0, .nameAndType 46 47), (0, u "java/util/Collection"), (0, u "toArray"), (0, u "()[Ljava/lang/Object;"), (0, .fieldref 10 49), (0, .nameAndType 50 51), (0, u "size"), (0, u "I"), (6, .class_ 60), (1, u "java/util/Arrays"), (0, u "copyOf"), (1, .fieldref 10 64), (0, .nameAndType 65 51), (0, u "modCount"), (0, .methodref 58 67), (0, .nameAndType 61 68), (0, u "([Ljava/lang/Object;I)[Ljava/lang/Object;"), (0, .methodref 10 70), (0, .nameAndType 71 72), (0, u "grow"), (0, u "(I)[Ljava/lang/Object;"), (6, .methodref 80 81), (0, .class_ 82), (0, .nameAndType 83 84), (0, u "java/lang/Math"), (0, u "max"), (0, u "(II)I"), (11, u "(Ljava/lang/Object;)Z"), (15, .methodref 113 114), (0, .class_ 115), (0, .nameAndType 116 117), (0, u "java/lang/System"), (0, u "arraycopy"), (0, u "(Ljava/lang/Object;ILjava/lang/Object;II)V"), (11, .methodref 10 130), (0, .nameAndType 71 47), (0, .methodref 10 132), (0, .nameAndType 133 134), (0, u "add"), (0, u "(Ljava/lang/Object;[Ljava/lang/Object;I)V"), (13, .class_ 149), (0, u "java/util/List"), (23, u "()Z"), (88, .class_ 263), (0, u "java/util/ArrayList$ListItr"), (3, .class_ 268), (0, u "java/util/ArrayList$Itr"), (7, .class_ 277), (0, u "java/util/ArrayList$SubList"), (12, .class_ 291), (0, u "java/util/ArrayList$ArrayListSpliterator"), (37, .class_ 330), (0, u "java/util/RandomAccess"), (0, .class_ 332), (0, u "java/lang/Cloneable"), (0, .class_ 334), (0, u "java/io/Serializable"), (0, u "serialVersionUID"), (0, u "J"), (3, u "DEFAULT_CAPACITY"), (22, u "isEmpty"), (55, u "clear"), (0, u "addAll"), (0, u "(Ljava/util/Collection;)Z"), (78, .class_ 501), (0, u "java/util/ArrayList$SubList$2"), (0, .class_ 503), (0, u "java/util/ArrayList$SubList$1")] 5

def k12c0 : Code := { maxStack := 2, maxLocals := 1, code := jdk_38_method_2_code, exceptionTable := #[], attributes := #[] }
def k12m0 : Method := { name := "<init>", desc := "()V", sig := { parameters := [], returnType := none }, accessFlags := 1, code := some k12c0 }
def k12c1 : Code := { maxStack := 4, maxLocals := 4, code := jdk_38_method_6_code, exceptionTable := #[], attributes := #[] }
def k12m1 : Method := { name := "grow", desc := "(I)[Ljava/lang/Object;", sig := { parameters := [.int], returnType := some (.array (.object "java/lang/Object")) }, accessFlags := 2, code := some k12c1 }
def k12c2 : Code := { maxStack := 3, maxLocals := 1, code := jdk_38_method_7_code, exceptionTable := #[], attributes := #[] }
def k12m2 : Method := { name := "grow", desc := "()[Ljava/lang/Object;", sig := { parameters := [], returnType := some (.array (.object "java/lang/Object")) }, accessFlags := 2, code := some k12c2 }
def k12c3 : Code := { maxStack := 1, maxLocals := 1, code := jdk_38_method_9_code, exceptionTable := #[], attributes := #[] }
def k12m3 : Method := { name := "isEmpty", desc := "()Z", sig := { parameters := [], returnType := some .boolean }, accessFlags := 1, code := some k12c3 }
def k12c4 : Code := { maxStack := 2, maxLocals := 1, code := jdk_38_method_16_code, exceptionTable := #[], attributes := #[] }
def k12m4 : Method := { name := "toArray", desc := "()[Ljava/lang/Object;", sig := { parameters := [], returnType := some (.array (.object "java/lang/Object")) }, accessFlags := 1, code := some k12c4 }
def k12c5 : Code := { maxStack := 3, maxLocals := 4, code := jdk_38_method_24_code, exceptionTable := #[], attributes := #[] }
def k12m5 : Method := { name := "add", desc := "(Ljava/lang/Object;[Ljava/lang/Object;I)V", sig := { parameters := [(.object "java/lang/Object"), (.array (.object "java/lang/Object")), .int], returnType := none }, accessFlags := 2, code := some k12c5 }
def k12c6 : Code := { maxStack := 4, maxLocals := 2, code := jdk_38_method_25_code, exceptionTable := #[], attributes := #[] }
def k12m6 : Method := { name := "add", desc := "(Ljava/lang/Object;)Z", sig := { parameters := [(.object "java/lang/Object")], returnType := some .boolean }, accessFlags := 1, code := some k12c6 }
def k12c7 : Code := { maxStack := 3, maxLocals := 4, code := jdk_38_method_40_code, exceptionTable := #[], attributes := #[] }
def k12m7 : Method := { name := "clear", desc := "()V", sig := { parameters := [], returnType := none }, accessFlags := 1, code := some k12c7 }
def k12c8 : Code := { maxStack := 5, maxLocals := 6, code := jdk_38_method_41_code, exceptionTable := #[], attributes := #[] }
def k12m8 : Method := { name := "addAll", desc := "(Ljava/util/Collection;)Z", sig := { parameters := [(.object "java/util/Collection")], returnType := some .boolean }, accessFlags := 1, code := some k12c8 }
/-- java/util/ArrayList -/
def k12 : Class := { plain "java/util/ArrayList" (some 8) with
  accessFlags := 33
  interfaces := #[7, 9, 10, 11]
  cf := some (fileOf pool12 10 #[.nestMembers #[290, 276, 500, 502, 262, 267]] #[{ accessFlags := 1, nameIndex := 5, descriptorIndex := 6, attributes := #[] }, { accessFlags := 2, nameIndex := 71, descriptorIndex := 72, attributes := #[] }, { accessFlags := 2, nameIndex := 71, descriptorIndex := 47, attributes := #[] }, { accessFlags := 1, nameIndex := 363, descriptorIndex := 173, attributes := #[] }, { accessFlags := 1, nameIndex := 46, descriptorIndex := 47, attributes := #[] }, { accessFlags := 2, nameIndex := 133, descriptorIndex := 134, attributes := #[] }, { accessFlags := 1, nameIndex := 133, descriptorIndex := 96, attributes := #[] }, { accessFlags := 1, nameIndex := 419, descriptorIndex := 6, attributes := #[] }, { accessFlags := 1, nameIndex := 420, descriptorIndex := 421, attributes := #[] }] 33 2 #[148, 329, 331, 333] #[{ accessFlags := 26, nameIndex := 335, descriptorIndex := 336, attributes := #[] }, { accessFlags := 26, nameIndex := 340, descriptorIndex := 51, attributes := #[] }, { accessFlags := 26, nameIndex := 17, descriptorIndex := 14, attributes := #[] }, { accessFlags := 26, nameIndex := 41, descriptorIndex := 14, attributes := #[] }, { accessFlags := 128, nameIndex := 13, descriptorIndex := 14, attributes := #[] }, { accessFlags := 2, nameIndex := 50, descriptorIndex := 51, attributes := #[] }])
  fields := #[{ name := "serialVersionUID", type := .long, accessFlags := 26, slot := 0, constantValue := 0 }, { name := "DEFAULT_CAPACITY", type := .int, accessFlags := 26, slot := 1, constantValue := 0 }, { name := "EMPTY_ELEMENTDATA", type := (.array (.object "java/lang/Object")), accessFlags := 26, slot := 2, constantValue := 0 }, { name := "DEFAULTCAPACITY_EMPTY_ELEMENTDATA", type := (.array (.object "java/lang/Object")), accessFlags := 26, slot := 3, constantValue := 0 }, { name := "elementData", type := (.array (.object "java/lang/Object")), accessFlags := 128, slot := 1, constantValue := 0 }, { name := "size", type := .int, accessFlags := 2, slot := 2, constantValue := 0 }]
  methods := #[k12m0, k12m1, k12m2, k12m3, k12m4, k12m5, k12m6, k12m7, k12m8]
  instanceTypes := #[.int, (.array (.object "java/lang/Object")), .int]
  staticTypes := #[.long, .int, (.array (.object "java/lang/Object")), (.array (.object "java/lang/Object"))]
  resolved := Array.replicate 509 none
  statics := some 0 }

def pool13 : Array CpInfo := pool [(1, .methodref 2 3), (0, .class_ 4), (0, .nameAndType 5 6), (0, u "java/lang/Object"), (0, u "<init>"), (0, u "()V"), (1, .class_ 10), (1, u "com/example/rock_dove/rockdove/store/Entry"), (0, u "segment"), (0, u "Lcom/example/rock_dove/rockdove/store/Segment;"), (2, u "position"), (0, u "J"), (2, u "size"), (0, u "I")] 9

def k13c0 : Code := { maxStack := 1, maxLocals := 1, code := prog_61_method_1_code, exceptionTable := #[], attributes := #[] }
def k13m0 : Method := { name := "<init>", desc := "()V", sig := { parameters := [], returnType := none }, accessFlags := 0, code := some k13c0 }
/-- com/example/rock_dove/rockdove/store/Entry -/
def k13 : Class := { plain "com/example/rock_dove/rockdove/store/Entry" (some 0) with
  accessFlags := 32
  interfaces := #[]
  cf := some (fileOf pool13 8 #[] #[{ accessFlags := 0, nameIndex := 5, descriptorIndex := 6, attributes := #[] }] 32 2 #[] #[{ accessFlags := 2, nameIndex := 11, descriptorIndex := 12, attributes := #[] }, { accessFlags := 2, nameIndex := 15, descriptorIndex := 16, attributes := #[] }, { accessFlags := 2, nameIndex := 19, descriptorIndex := 20, attributes := #[] }])
  fields := #[{ name := "segment", type := (.object "com/example/rock_dove/rockdove/store/Segment"), accessFlags := 2, slot := 0, constantValue := 0 }, { name := "position", type := .long, accessFlags := 2, slot := 1, constantValue := 0 }, { name := "size", type := .int, accessFlags := 2, slot := 2, constantValue := 0 }]
  methods := #[k13m0]
  instanceTypes := #[(.object "com/example/rock_dove/rockdove/store/Segment"), .long, .int]
  staticTypes := #[]
  resolved := Array.replicate 30 none
  statics := none }

def pool14 : Array CpInfo := pool [(1, .methodref 2 3), (0, .class_ 4), (0, .nameAndType 5 6), (0, u "com/example/rock_dove/rockdove/store/Entry"), (0, u "<init>"), (0, u "()V"), (0, .fieldref 8 9), (0, .class_ 10), (0, .nameAndType 11 12), (0, u "com/example/rock_dove/rockdove/store/StoredMessage"), (0, u "sequence"), (0, u "J"), (0, .fieldref 8 14), (0, .nameAndType 15 16), (0, u "objectId"), (0, u "I"), (0, .fieldref 8 18), (0, .nameAndType 19 20), (0, u "persistent"), (0, u "Z"), (0, .fieldref 8 22), (0, .nameAndType 23 12), (0, u "unit"), (0, .fieldref 8 25), (0, .nameAndType 26 16), (0, u "descriptorLength"), (0, .fieldref 8 28), (0, .nameAndType 29 16), (0, u "dataLength"), (16, u "(JIZJII)V"), (26, u "backoutCount"), (2, u "backoutRecord"), (0, u "Lcom/example/rock_dove/rockdove/store/Entry;"), (2, u "movedAt"), (33, u "ENTRY"), (2, u "OBJECT"), (1, u "FLAGS"), (1, u "UNIT"), (1, u "SEGMENT"), (1, u "POSITION"), (1, u "SIZE"), (1, u "DESCRIPTOR_LENGTH"), (1, u "DATA_LENGTH"), (1, u "BACKOUT_COUNT"), (1, u "BACKOUT_SEGMENT"), (1, u "BACKOUT_POSITION"), (1, u "PERSISTENT"), (0, u "B"), (8, u "isPersistent"), (0, u "()Z")] 6

def k14c0 : Code := { maxStack := 3, maxLocals := 9, code := prog_76_method_1_code, exceptionTable := #[], attributes := #[] }
def k14m0 : Method := { name := "<init>", desc := "(JIZJII)V", sig := { parameters := [.long, .int, .boolean, .long, .int, .int], returnType := none }, accessFlags := 0, code := some k14c0 }
def k14c1 : Code := { maxStack := 1, maxLocals := 1, code := prog_76_method_5_code, exceptionTable := #[], attributes := #[] }
def k14m1 : Method := { name := "isPersistent", desc := "()Z", sig := { parameters := [], returnType := some .boolean }, accessFlags := 1, code := some k14c1 }
/-- com/example/rock_dove/rockdove/store/StoredMessage -/
def k14 : Class := { plain "com/example/rock_dove/rockdove/store/StoredMessage" (some 13) with
  accessFlags := 49
  interfaces := #[]
  cf := some (fileOf pool14 8 #[] #[{ accessFlags := 0, nameIndex := 5, descriptorIndex := 46, attributes := #[] }, { accessFlags := 1, nameIndex := 149, descriptorIndex := 150, attributes := #[] }] 49 2 #[] #[{ accessFlags := 24, nameIndex := 114, descriptorIndex := 16, attributes := #[] }, { accessFlags := 26, nameIndex := 117, descriptorIndex := 16, attributes := #[] }, { accessFlags := 26, nameIndex := 119, descriptorIndex := 16, attributes := #[] }, { accessFlags := 26, nameIndex := 121, descriptorIndex := 16, attributes := #[] }, { accessFlags := 26, nameIndex := 123, descriptorIndex := 16, attributes := #[] }, { accessFlags := 26, nameIndex := 125, descriptorIndex := 16, attributes := #[] }, { accessFlags := 26, nameIndex := 127, descriptorIndex := 16, attributes := #[] }, { accessFlags := 26, nameIndex := 129, descriptorIndex := 16, attributes := #[] }, { accessFlags := 26, nameIndex := 131, descriptorIndex := 16, attributes := #[] }, { accessFlags := 26, nameIndex := 133, descriptorIndex := 16, attributes := #[] }, { accessFlags := 26, nameIndex := 135, descriptorIndex := 16, attributes := #[] }, { accessFlags := 26, nameIndex := 137, descriptorIndex := 16, attributes := #[] }, { accessFlags := 26, nameIndex := 139, descriptorIndex := 140, attributes := #[] }, { accessFlags := 18, nameIndex := 11, descriptorIndex := 12, attributes := #[] }, { accessFlags := 18, nameIndex := 15, descriptorIndex := 16, attributes := #[] }, { accessFlags := 18, nameIndex := 19, descriptorIndex := 20, attributes := #[] }, { accessFlags := 18, nameIndex := 23, descriptorIndex := 12, attributes := #[] }, { accessFlags := 18, nameIndex := 26, descriptorIndex := 16, attributes := #[] }, { accessFlags := 18, nameIndex := 29, descriptorIndex := 16, attributes := #[] }, { accessFlags := 2, nameIndex := 73, descriptorIndex := 16, attributes := #[] }, { accessFlags := 2, nameIndex := 76, descriptorIndex := 77, attributes := #[] }, { accessFlags := 2, nameIndex := 80, descriptorIndex := 12, attributes := #[] }])
  fields := #[{ name := "ENTRY", type := .int, accessFlags := 24, slot := 0, constantValue := 0 }, { name := "OBJECT", type := .int, accessFlags := 26, slot := 1, constantValue := 0 }, { name := "FLAGS", type := .int, accessFlags := 26, slot := 2, constantValue := 0 }, { name := "UNIT", type := .int, accessFlags := 26, slot := 3, constantValue := 0 }, { name := "SEGMENT", type := .int, accessFlags := 26, slot := 4, constantValue := 0 }, { name := "POSITION", type := .int, accessFlags := 26, slot := 5, constantValue := 0 }, { name := "SIZE", type := .int, accessFlags := 26, slot := 6, constantValue := 0 }, { name := "DESCRIPTOR_LENGTH", type := .int, accessFlags := 26, slot := 7, constantValue := 0 }, { name := "DATA_LENGTH", type := .int, accessFlags := 26, slot := 8, constantValue := 0 }, { name := "BACKOUT_COUNT", type := .int, accessFlags := 26, slot := 9, constantValue := 0 }, { name := "BACKOUT_SEGMENT", type := .int, accessFlags := 26, slot := 10, constantValue := 0 }, { name := "BACKOUT_POSITION", type := .int, accessFlags := 26, slot := 11, constantValue := 0 }, { name := "PERSISTENT", type := .byte, accessFlags := 26, slot := 12, constantValue := 0 }, { name := "sequence", type := .long, accessFlags := 18, slot := 3, constantValue := 0 }, { name := "objectId", type := .int, accessFlags := 18, slot := 4, constantValue := 0 }, { name := "persistent", type := .boolean, accessFlags := 18, slot := 5, constantValue := 0 }, { name := "unit", type := .long, accessFlags := 18, slot := 6, constantValue := 0 }, { name := "descriptorLength", type := .int, accessFlags := 18, slot := 7, constantValue := 0 }, { name := "dataLength", type := .int, accessFlags := 18, slot := 8, constantValue := 0 }, { name := "backoutCount", type := .int, accessFlags := 2, slot := 9, constantValue := 0 }, { name := "backoutRecord", type := (.object "com/example/rock_dove/rockdove/store/Entry"), accessFlags := 2, slot := 10, constantValue := 0 }, { name := "movedAt", type := .long, accessFlags := 2, slot := 11, constantValue := 0 }]
  methods := #[k14m0, k14m1]
  instanceTypes := #[(.object "com/example/rock_dove/rockdove/store/Segment"), .long, .int, .long, .int, .boolean, .long, .int, .int, .int, (.object "com/example/rock_dove/rockdove/store/Entry"), .long]
  staticTypes := #[.int, .int, .int, .int, .int, .int, .int, .int, .int, .int, .int, .int, .byte]
  resolved := Array.replicate 157 none
  statics := none }

def pool15 : Array CpInfo := pool [(1, .class_ 2), (0, u "java/lang/Math"), (1, .class_ 6), (1, u "java/lang/Object"), (0, u "<init>"), (0, u "()V"), (89, .class_ 100), (1, u "java/lang/Math$RandomNumberGeneratorHolder"), (71, u "negativeZeroFloatBits"), (0, u "J"), (2, u "negativeZeroDoubleBits"), (21, u "max"), (2, u "min"), (43, u "$assertionsDisabled"), (0, u "Z"), (88, u "(II)I"), (2, u "twoToTheDoubleScaleDown"), (0, u "D"), (4, u "twoToTheDoubleScaleUp"), (9, u "E"), (3, u "PI"), (2, u "TAU"), (2, u "DEGREES_TO_RADIANS"), (0, u "RADIANS_TO_DEGREES")] 94

def k15m0 : Method := { name := "<init>", desc := "()V", sig := { parameters := [], returnType := none }, accessFlags := 2, code := none }
def k15c1 : Code := { maxStack := 2, maxLocals := 2, code := jdk_29_method_65_code, exceptionTable := #[], attributes := #[] }
def k15m1 : Method := { name := "max", desc := "(II)I", sig := { parameters := [.int, .int], returnType := some .int }, accessFlags := 9, code := some k15c1 }
def k15c2 : Code := { maxStack := 2, maxLocals := 2, code := jdk_29_method_69_code, exceptionTable := #[], attributes := #[] }
def k15m2 : Method := { name := "min", desc := "(II)I", sig := { parameters := [.int, .int], returnType := some .int }, accessFlags := 9, code := some k15c2 }
/-- java/lang/Math -/
def k15 : Class := { plain "java/lang/Math" (some 0) with
  accessFlags := 49
  interfaces := #[]
  cf := some (fileOf pool15 1 #[.nestMembers #[98]] #[{ accessFlags := 2, nameIndex := 7, descriptorIndex := 8, attributes := #[] }, { accessFlags := 9, nameIndex := 198, descriptorIndex := 335, attributes := #[] }, { accessFlags := 9, nameIndex := 201, descriptorIndex := 335, attributes := #[] }] 49 4 #[] #[{ accessFlags := 25, nameIndex := 354, descriptorIndex := 339, attributes := #[] }, { accessFlags := 25, nameIndex := 358, descriptorIndex := 339, attributes := #[] }, { accessFlags := 25, nameIndex := 361, descriptorIndex := 339, attributes := #[] }, { accessFlags := 26, nameIndex := 364, descriptorIndex := 339, attributes := #[] }, { accessFlags := 26, nameIndex := 365, descriptorIndex := 339, attributes := #[] }, { accessFlags := 26, nameIndex := 172, descriptorIndex := 173, attributes := #[] }, { accessFlags := 26, nameIndex := 176, descriptorIndex := 173, attributes := #[] }, { accessFlags := 8, nameIndex := 344, descriptorIndex := 339, attributes := #[] }, { accessFlags := 8, nameIndex := 338, descriptorIndex := 339, attributes := #[] }, { accessFlags := 4120, nameIndex := 245, descriptorIndex := 246, attributes := #[] }])
  fields := #[{ name := "E", type := .double, accessFlags := 25, slot := 0, constantValue := 0 }, { name := "PI", type := .double, accessFlags := 25, slot := 1, constantValue := 0 }, { name := "TAU", type := .double, accessFlags := 25, slot := 2, constantValue := 0 }, { name := "DEGREES_TO_RADIANS", type := .double, accessFlags := 26, slot := 3, constantValue := 0 }, { name := "RADIANS_TO_DEGREES", type := .double, accessFlags := 26, slot := 4, constantValue := 0 }, { name := "negativeZeroFloatBits", type := .long, accessFlags := 26, slot := 5, constantValue := 0 }, { name := "negativeZeroDoubleBits", type := .long, accessFlags := 26, slot := 6, constantValue := 0 }, { name := "twoToTheDoubleScaleUp", type := .double, accessFlags := 8, slot := 7, constantValue := 0 }, { name := "twoToTheDoubleScaleDown", type := .double, accessFlags := 8, slot := 8, constantValue := 0 }, { name := "$assertionsDisabled", type := .boolean, accessFlags := 4120, slot := 9, constantValue := 0 }]
  methods := #[k15m0, k15m1, k15m2]
  instanceTypes := #[]
  staticTypes := #[.double, .double, .double, .double, .double, .long, .long, .double, .double, .boolean]
  resolved := Array.replicate 460 none
  statics := none }

def pool16 : Array CpInfo := pool [(2, .class_ 4), (1, u "java/lang/Object"), (0, u "<init>"), (0, u "()V"), (7, .class_ 16), (1, u "java/util/Arrays"), (57, .class_ 76), (1, u "java/util/Arrays$NaturalOrder"), (9, .methodref 2 87), (0, .nameAndType 88 89), (0, u "getClass"), (0, u "()Ljava/lang/Class;"), (20, .class_ 111), (0, u "[Ljava/lang/Object;"), (1, .class_ 115), (1, u "java/util/Arrays$LegacyMergeSort"), (1, u "Z"), (32, .methodref 151 152), (0, .class_ 153), (0, .nameAndType 154 155), (0, u "java/lang/System"), (0, u "arraycopy"), (0, u "(Ljava/lang/Object;ILjava/lang/Object;II)V"), (144, .methodref 14 301), (0, .nameAndType 302 303), (0, u "copyOf"), (0, u "([Ljava/lang/Object;ILjava/lang/Class;)[Ljava/lang/Object;"), (0, .methodref 305 306), (0, .class_ 307), (0, .nameAndType 308 309), (0, u "java/lang/Math"), (0, u "min"), (0, u "(II)I"), (65, .class_ 376), (0, u "java/util/Arrays$ArrayList"), (68, u "$assertionsDisabled"), (269, u "MIN_ARRAY_SORT_GRAN"), (0, u "I"), (2, u "INSERTIONSORT_THRESHOLD"), (140, u "([Ljava/lang/Object;I)[Ljava/lang/Object;"), (114, .class_ 976), (0, u "java/util/Arrays$ArrayItr")] 52

def k16m0 : Method := { name := "<init>", desc := "()V", sig := { parameters := [], returnType := none }, accessFlags := 2, code := none }
def k16c1 : Code := { maxStack := 3, maxLocals := 2, code := jdk_65_method_119_code, exceptionTable := #[], attributes := #[] }
def k16m1 : Method := { name := "copyOf", desc := "([Ljava/lang/Object;I)[Ljava/lang/Object;", sig := { parameters := [(.array (.object "java/lang/Object")), .int], returnType := some (.array (.object "java/lang/Object")) }, accessFlags := 9, code := some k16c1 }
def k16c2 : Code := { maxStack := 6, maxLocals := 4, code := jdk_65_method_120_code, exceptionTable := #[], attributes := #[] }
def k16m2 : Method := { name := "copyOf", desc := "([Ljava/lang/Object;ILjava/lang/Class;)[Ljava/lang/Object;", sig := { parameters := [(.array (.object "java/lang/Object")), .int, (.object "java/lang/Class")], returnType := some (.array (.object "java/lang/Object")) }, accessFlags := 9, code := some k16c2 }
/-- java/util/Arrays -/
def k16 : Class := { plain "java/util/Arrays" (some 0) with
  accessFlags := 49
  interfaces := #[]
  cf := some (fileOf pool16 14 #[.nestMembers #[975, 375, 113, 74]] #[{ accessFlags := 2, nameIndex := 5, descriptorIndex := 6, attributes := #[] }, { accessFlags := 9, nameIndex := 302, descriptorIndex := 860, attributes := #[] }, { accessFlags := 9, nameIndex := 302, descriptorIndex := 303, attributes := #[] }] 49 2 #[] #[{ accessFlags := 26, nameIndex := 715, descriptorIndex := 716, attributes := #[] }, { accessFlags := 26, nameIndex := 719, descriptorIndex := 716, attributes := #[] }, { accessFlags := 4120, nameIndex := 445, descriptorIndex := 117, attributes := #[] }])
  fields := #[{ name := "MIN_ARRAY_SORT_GRAN", type := .int, accessFlags := 26, slot := 0, constantValue := 0 }, { name := "INSERTIONSORT_THRESHOLD", type := .int, accessFlags := 26, slot := 1, constantValue := 0 }, { name := "$assertionsDisabled", type := .boolean, accessFlags := 4120, slot := 2, constantValue := 0 }]
  methods := #[k16m0, k16m1, k16m2]
  instanceTypes := #[]
  staticTypes := #[.int, .int, .boolean]
  resolved := Array.replicate 1029 none
  statics := none }

def pool17 : Array CpInfo := pool [(2, .class_ 4), (1, u "java/lang/Object"), (0, u "<init>"), (0, u "()V"), (1, .class_ 10), (1, u "java/lang/System"), (0, u "allowSecurityManager"), (0, u "I"), (16, u "cons"), (0, u "Ljava/io/Console;"), (77, .class_ 110), (1, u "java/lang/System$CallersHolder"), (43, u "initialErrStream"), (0, u "Ljava/io/PrintStream;"), (19, u "security"), (0, u "Ljava/lang/SecurityManager;"), (31, .class_ 209), (0, u "java/lang/System$1"), (7, u "props"), (0, u "Ljava/util/Properties;"), (2, u "lineSeparator"), (0, u "Ljava/lang/String;"), (96, .class_ 321), (1, u "java/lang/System$LoggerFinder"), (5, .class_ 328), (0, u "java/lang/System$Logger"), (67, u "err"), (2, u "out"), (91, u "notSupportedJnuEncoding"), (15, u "in"), (17, u "initialIn"), (0, u "Ljava/io/InputStream;"), (35, u "bootLayer"), (0, u "Ljava/lang/ModuleLayer;"), (99, .class_ 664), (0, u "java/lang/System$2"), (9, u "NEVER"), (2, u "MAYBE"), (49, u "arraycopy"), (0, u "(Ljava/lang/Object;ILjava/lang/Object;II)V"), (72, .class_ 802), (0, u "java/lang/System$Logger$Level")] 31

def k17m0 : Method := { name := "<init>", desc := "()V", sig := { parameters := [], returnType := none }, accessFlags := 2, code := none }
def k17m1 : Method := { name := "arraycopy", desc := "(Ljava/lang/Object;ILjava/lang/Object;II)V", sig := { parameters := [(.object "java/lang/Object"), .int, (.object "java/lang/Object"), .int, .int], returnType := none }, accessFlags := 265, code := none }
/-- java/lang/System -/
def k17 : Class := { plain "java/lang/System" (some 0) with
  accessFlags := 49
  interfaces := #[]
  cf := some (fileOf pool17 8 #[.nestMembers #[319, 327, 801, 108, 663, 208]] #[{ accessFlags := 2, nameIndex := 5, descriptorIndex := 6, attributes := #[] }, { accessFlags := 265, nameIndex := 727, descriptorIndex := 728, attributes := #[] }] 49 2 #[] #[{ accessFlags := 25, nameIndex := 507, descriptorIndex := 526, attributes := #[] }, { accessFlags := 25, nameIndex := 399, descriptorIndex := 155, attributes := #[] }, { accessFlags := 25, nameIndex := 396, descriptorIndex := 155, attributes := #[] }, { accessFlags := 10, nameIndex := 525, descriptorIndex := 526, attributes := #[] }, { accessFlags := 26, nameIndex := 674, descriptorIndex := 12, attributes := #[] }, { accessFlags := 26, nameIndex := 677, descriptorIndex := 12, attributes := #[] }, { accessFlags := 10, nameIndex := 11, descriptorIndex := 12, attributes := #[] }, { accessFlags := 74, nameIndex := 175, descriptorIndex := 176, attributes := #[] }, { accessFlags := 10, nameIndex := 491, descriptorIndex := 222, attributes := #[] }, { accessFlags := 74, nameIndex := 29, descriptorIndex := 30, attributes := #[] }, { accessFlags := 74, nameIndex := 154, descriptorIndex := 155, attributes := #[] }, { accessFlags := 10, nameIndex := 217, descriptorIndex := 218, attributes := #[] }, { accessFlags := 10, nameIndex := 221, descriptorIndex := 222, attributes := #[] }, { accessFlags := 8, nameIndex := 562, descriptorIndex := 563, attributes := #[] }])
  fields := #[{ name := "in", type := (.object "java/io/InputStream"), accessFlags := 25, slot := 0, constantValue := 0 }, { name := "out", type := (.object "java/io/PrintStream"), accessFlags := 25, slot := 1, constantValue := 0 }, { name := "err", type := (.object "java/io/PrintStream"), accessFlags := 25, slot := 2, constantValue := 0 }, { name := "initialIn", type := (.object "java/io/InputStream"), accessFlags := 10, slot := 3, constantValue := 0 }, { name := "NEVER", type := .int, accessFlags := 26, slot := 4, constantValue := 0 }, { name := "MAYBE", type := .int, accessFlags := 26, slot := 5, constantValue := 0 }, { name := "allowSecurityManager", type := .int, accessFlags := 10, slot := 6, constantValue := 0 }, { name := "security", type := (.object "java/lang/SecurityManager"), accessFlags := 74, slot := 7, constantValue := 0 }, { name := "notSupportedJnuEncoding", type := (.object "java/lang/String"), accessFlags := 10, slot := 8, constantValue := 0 }, { name := "cons", type := (.object "java/io/Console"), accessFlags := 74, slot := 9, constantValue := 0 }, { name := "initialErrStream", type := (.object "java/io/PrintStream"), accessFlags := 74, slot := 10, constantValue := 0 }, { name := "props", type := (.object "java/util/Properties"), accessFlags := 10, slot := 11, constantValue := 0 }, { name := "lineSeparator", type := (.object "java/lang/String"), accessFlags := 10, slot := 12, constantValue := 0 }, { name := "bootLayer", type := (.object "java/lang/ModuleLayer"), accessFlags := 8, slot := 13, constantValue := 0 }]
  methods := #[k17m0, k17m1]
  instanceTypes := #[]
  staticTypes := #[(.object "java/io/InputStream"), (.object "java/io/PrintStream"), (.object "java/io/PrintStream"), (.object "java/io/InputStream"), .int, .int, .int, (.object "java/lang/SecurityManager"), (.object "java/lang/String"), (.object "java/io/Console"), (.object "java/io/PrintStream"), (.object "java/util/Properties"), (.object "java/lang/String"), (.object "java/lang/ModuleLayer")]
  resolved := Array.replicate 834 none
  statics := none }

def pool18 : Array CpInfo := pool [(1, .class_ 2), (0, u "java/lang/Class"), (0, .class_ 4), (0, u "java/lang/Object")] 0

/-- java/lang/Class -/
def k18 : Class := { plain "java/lang/Class" (some 0) with
  accessFlags := 49
  interfaces := #[]
  cf := some (fileOf pool18 1 #[] #[] 49 3 #[] #[])
  fields := #[]
  methods := #[]
  instanceTypes := #[]
  staticTypes := #[]
  resolved := Array.replicate 5 none
  statics := none }

/-- the primitive byte -/
def k19 : Class := { plain "byte" none with kind := .primitive 'B', accessFlags := 0x411 }
/-- [B -/
def k20 : Class := { plain "[B" (some 0) with kind := .array 19 .byte, interfaces := #[10, 11], accessFlags := 1041 }

/-- the primitive int -/
def k21 : Class := { plain "int" none with kind := .primitive 'I', accessFlags := 0x411 }
/-- [I -/
def k22 : Class := { plain "[I" (some 0) with kind := .array 21 .int, interfaces := #[10, 11], accessFlags := 1041 }

/-- [Ljava/lang/Object; -/
def k23 : Class := { plain "[Ljava/lang/Object;" (some 0) with kind := .array 0 (.object "java/lang/Object"), interfaces := #[10, 11], accessFlags := 1041, mirror := some 1 }

def heap : Heap := #[{ cls := 12, slots := #[.long 0, .int 0, .ref 2, .ref 3], vm := .statics 12 },
  { cls := 18, slots := #[], vm := .mirror 23 },
  { cls := 23, slots := #[], vm := .none },
  { cls := 23, slots := #[], vm := .none }]
def classes : Array Class := #[k0, k1, k2, k3, k4, k5, k6, k7, k8, k9, k10, k11, k12, k13, k14, k15, k16, k17, k18, k19, k20, k21, k22, k23]
def interned : List (Array UInt16 × Addr) := []
def slotsUsed : Nat := 4
def theMethod : MethodId := ⟨1, 1⟩
def args0 : Array Value := #[.int 2, .int 0, .int 0]
def aboutOver (below : List Frame) : State where
  vm := { classes := classes, interned := interned.toArray }
  heap := heap
  slotsUsed := slotsUsed
  threads := #[{ frames := .invoking theMethod args0 :: below }]
def below0 : List Frame := [.native { method := ⟨0, 0⟩, args := #[] }]
def about1 : State := aboutOver below0
def p0 : Program := .bare "" "" ""
def e0 : Env := launch0.env 0 0 0
theorem w_frames : about1.frames = Frame.invoking theMethod args0 :: below0 := rfl
set_option maxRecDepth 65536 in
theorem w_args : argsFit about1.vm theMethod args0 = true := by decide +kernel
set_option maxRecDepth 65536 in
theorem w_heap : heapFits about1 = true := by decide +kernel
set_option maxRecDepth 65536 in
theorem w_runnable : about1.curStatus? = some .runnable := by decide +kernel
set_option maxRecDepth 65536 in
theorem w_alone : about1.alone = true := by decide +kernel
set_option maxRecDepth 65536 in
theorem w_named : about1.methodNamed? x = some theMethod := by decide +kernel
set_option maxRecDepth 65536 in
theorem w_hears : about1.hears theMethod below0 = true := by decide +kernel
set_option maxRecDepth 65536 in
theorem w_ripe : about1.ripe theMethod args0 below0 = true := by decide +kernel
theorem w_running : about1.status = .running := rfl
set_option maxRecDepth 65536 in
theorem w_room : about1.hasRoom e0.platform room_1 = true :=
  launch0.hasRoom_least _ room_1 (by decide +kernel) (by decide +kernel) (by decide +kernel) (by decide +kernel) (by decide +kernel) (by decide +kernel)
theorem allAtoms_all (ts : List Jvm.Cond) (a : Array Jvm.Value) (st : Jvm.State) : (allAtoms ts).before a st = ts.all (fun c => c.before a st) := by
  induction ts with
  | nil => rfl
  | cons c t ih =>
    show (Jvm.Cond.and c (allAtoms t)).before a st = _
    rw [Jvm.Cond.before_and, ih, List.all_cons]
def words1 : List Jvm.Cond := Jvm.Cond.code x code maxLocals ret :: tables_1
/-- a 'code' word, met by the world's own term for the bytes: nothing is compared byte by byte -/
theorem code_word {y : MethodName} {bytes : ByteArray} {mx : Nat} {rt : Option FieldType} {a : Array Value} {s : State} {m : MethodId} {meth : Method} {c : Code} (h1 : s.methodNamed? y = some m) (h2 : s.vm.method? m = some meth) (h3 : meth.code = some c) (h4 : c.code = bytes)
    (h5 : (c.maxLocals == mx && c.exceptionTable.isEmpty && decide (c.maxStack ≤ mostOperands) && decide (meth.sig.returnType = rt) && !meth.locks && decide (parseMethodDescriptor y.desc = some meth.sig)) = true) : (Jvm.Cond.code y bytes mx rt).before a s = true := by
  simp only [Bool.and_eq_true, beq_iff_eq, Bool.not_eq_true', decide_eq_true_eq] at h5
  obtain ⟨⟨⟨⟨⟨g1, g2⟩, g3⟩, g4⟩, g5⟩, g6⟩ := h5
  simp [Cond.before, Cond.holds, Cond.value, h1, h2, h3, h4, g1, g2, g3, g4, g5, g6]
def isCode : Jvm.Cond → Bool
  | .code _ _ _ _ => true
  | _ => false
theorem all_split {L : List Jvm.Cond} {P : Jvm.Cond → Bool} (h1 : L.all (fun c => isCode c || P c) = true) (h2 : ∀ c ∈ L.filter isCode, P c = true) : L.all P = true := by
  refine List.all_eq_true.mpr fun c hc => ?_
  have h := List.all_eq_true.mp h1 c hc
  rcases Bool.eq_false_or_eq_true (isCode c) with hi | hi
  · exact h2 c (List.mem_filter.mpr ⟨hc, hi⟩)
  · simpa [hi] using h
set_option maxRecDepth 65536 in
theorem w_c0 : (Jvm.Cond.code x code maxLocals ret).before args0 about1 = true := code_word (m := ⟨1, 1⟩) (meth := k1m1) (c := k1c1) (by decide +kernel) rfl rfl rfl (by decide +kernel)
set_option maxRecDepth 65536 in
theorem w_c1 : (Jvm.Cond.code ({ cls := "com/example/rock_dove/rockdove/store/UnitOfWork", name := "<init>", desc := "()V" } : Jvm.MethodName) prog_78_method_1_code (1 : Nat) (Option.none : Option Jvm.ClassFile.FieldType)).before args0 about1 = true := code_word (m := ⟨2, 0⟩) (meth := k2m0) (c := k2c0) (by decide +kernel) rfl rfl rfl (by decide +kernel)
set_option maxRecDepth 65536 in
theorem w_c2 : (Jvm.Cond.code ({ cls := "java/lang/Object", name := "<init>", desc := "()V" } : Jvm.MethodName) object_method_1_code (1 : Nat) (Option.none : Option Jvm.ClassFile.FieldType)).before args0 about1 = true := code_word (m := ⟨0, 0⟩) (meth := k0m0) (c := k0c0) (by decide +kernel) rfl rfl rfl (by decide +kernel)
set_option maxRecDepth 65536 in
theorem w_c3 : (Jvm.Cond.code ({ cls := "java/util/ArrayList", name := "<init>", desc := "()V" } : Jvm.MethodName) jdk_38_method_2_code (1 : Nat) (Option.none : Option Jvm.ClassFile.FieldType)).before args0 about1 = true := code_word (m := ⟨12, 0⟩) (meth := k12m0) (c := k12c0) (by decide +kernel) rfl rfl rfl (by decide +kernel)
set_option maxRecDepth 65536 in
theorem w_c4 : (Jvm.Cond.code ({ cls := "java/util/AbstractList", name := "<init>", desc := "()V" } : Jvm.MethodName) jdk_39_method_1_code (1 : Nat) (Option.none : Option Jvm.ClassFile.FieldType)).before args0 about1 = true := code_word (m := ⟨8, 0⟩) (meth := k8m0) (c := k8c0) (by decide +kernel) rfl rfl rfl (by decide +kernel)
set_option maxRecDepth 65536 in
theorem w_c5 : (Jvm.Cond.code ({ cls := "java/util/AbstractCollection", name := "<init>", desc := "()V" } : Jvm.MethodName) jdk_22_method_1_code (1 : Nat) (Option.none : Option Jvm.ClassFile.FieldType)).before args0 about1 = true := code_word (m := ⟨5, 0⟩) (meth := k5m0) (c := k5c0) (by decide +kernel) rfl rfl rfl (by decide +kernel)
set_option maxRecDepth 65536 in
theorem w_c6 : (Jvm.Cond.code ({ cls := "com/example/rock_dove/rockdove/store/UnitOfWork", name := "holdsPersistent", desc := "()Z" } : Jvm.MethodName) prog_78_method_5_code (1 : Nat) (Option.some Jvm.ClassFile.FieldType.boolean)).before args0 about1 = true := code_word (m := ⟨2, 1⟩) (meth := k2m1) (c := k2c1) (by decide +kernel) rfl rfl rfl (by decide +kernel)
set_option maxRecDepth 65536 in
theorem w_c7 : (Jvm.Cond.code ({ cls := "com/example/rock_dove/rockdove/store/UnitOfWorkHoldsPersistentPinLaw", name := "step", desc := "(Lcom/example/rock_dove/rockdove/store/UnitOfWork;II)I" } : Jvm.MethodName) method_3_code (8 : Nat) (Option.some Jvm.ClassFile.FieldType.int)).before args0 about1 = true := code_word (m := ⟨1, 2⟩) (meth := k1m2) (c := k1c2) (by decide +kernel) rfl rfl rfl (by decide +kernel)
set_option maxRecDepth 65536 in
theorem w_c8 : (Jvm.Cond.code ({ cls := "com/example/rock_dove/rockdove/store/StoredMessage", name := "<init>", desc := "(JIZJII)V" } : Jvm.MethodName) prog_76_method_1_code (9 : Nat) (Option.none : Option Jvm.ClassFile.FieldType)).before args0 about1 = true := code_word (m := ⟨14, 0⟩) (meth := k14m0) (c := k14c0) (by decide +kernel) rfl rfl rfl (by decide +kernel)
set_option maxRecDepth 65536 in
theorem w_c9 : (Jvm.Cond.code ({ cls := "com/example/rock_dove/rockdove/store/Entry", name := "<init>", desc := "()V" } : Jvm.MethodName) prog_61_method_1_code (1 : Nat) (Option.none : Option Jvm.ClassFile.FieldType)).before args0 about1 = true := code_word (m := ⟨13, 0⟩) (meth := k13m0) (c := k13c0) (by decide +kernel) rfl rfl rfl (by decide +kernel)
set_option maxRecDepth 65536 in
theorem w_c10 : (Jvm.Cond.code ({ cls := "com/example/rock_dove/rockdove/store/UnitOfWork", name := "addPut", desc := "(Lcom/example/rock_dove/rockdove/store/StoredMessage;)V" } : Jvm.MethodName) prog_78_method_7_code (2 : Nat) (Option.none : Option Jvm.ClassFile.FieldType)).before args0 about1 = true := code_word (m := ⟨2, 3⟩) (meth := k2m3) (c := k2c3) (by decide +kernel) rfl rfl rfl (by decide +kernel)
set_option maxRecDepth 65536 in
theorem w_c11 : (Jvm.Cond.code ({ cls := "java/util/ArrayList", name := "add", desc := "(Ljava/lang/Object;)Z" } : Jvm.MethodName) jdk_38_method_25_code (2 : Nat) (Option.some Jvm.ClassFile.FieldType.boolean)).before args0 about1 = true := code_word (m := ⟨12, 6⟩) (meth := k12m6) (c := k12c6) (by decide +kernel) rfl rfl rfl (by decide +kernel)
set_option maxRecDepth 65536 in
theorem w_c12 : (Jvm.Cond.code ({ cls := "java/util/ArrayList", name := "add", desc := "(Ljava/lang/Object;[Ljava/lang/Object;I)V" } : Jvm.MethodName) jdk_38_method_24_code (4 : Nat) (Option.none : Option Jvm.ClassFile.FieldType)).before args0 about1 = true := code_word (m := ⟨12, 5⟩) (meth := k12m5) (c := k12c5) (by decide +kernel) rfl rfl rfl (by decide +kernel)
set_option maxRecDepth 65536 in
theorem w_c13 : (Jvm.Cond.code ({ cls := "java/util/ArrayList", name := "grow", desc := "()[Ljava/lang/Object;" } : Jvm.MethodName) jdk_38_method_7_code (1 : Nat) (Option.some (Jvm.ClassFile.FieldType.array (Jvm.ClassFile.FieldType.object "java/lang/Object")))).before args0 about1 = true := code_word (m := ⟨12, 2⟩) (meth := k12m2) (c := k12c2) (by decide +kernel) rfl rfl rfl (by decide +kernel)
set_option maxRecDepth 65536 in
theorem w_c14 : (Jvm.Cond.code ({ cls := "java/util/ArrayList", name := "grow", desc := "(I)[Ljava/lang/Object;" } : Jvm.MethodName) jdk_38_method_6_code (4 : Nat) (Option.some (Jvm.ClassFile.FieldType.array (Jvm.ClassFile.FieldType.object "java/lang/Object")))).before args0 about1 = true := code_word (m := ⟨12, 1⟩) (meth := k12m1) (c := k12c1) (by decide +kernel) rfl rfl rfl (by decide +kernel)
set_option maxRecDepth 65536 in
theorem w_c15 : (Jvm.Cond.code ({ cls := "java/lang/Math", name := "max", desc := "(II)I" } : Jvm.MethodName) jdk_29_method_65_code (2 : Nat) (Option.some Jvm.ClassFile.FieldType.int)).before args0 about1 = true := code_word (m := ⟨15, 1⟩) (meth := k15m1) (c := k15c1) (by decide +kernel) rfl rfl rfl (by decide +kernel)
set_option maxRecDepth 65536 in
theorem w_c16 : (Jvm.Cond.code ({ cls := "com/example/rock_dove/rockdove/store/StoredMessage", name := "isPersistent", desc := "()Z" } : Jvm.MethodName) prog_76_method_5_code (1 : Nat) (Option.some Jvm.ClassFile.FieldType.boolean)).before args0 about1 = true := code_word (m := ⟨14, 1⟩) (meth := k14m1) (c := k14c1) (by decide +kernel) rfl rfl rfl (by decide +kernel)
set_option maxRecDepth 65536 in
theorem w_c17 : (Jvm.Cond.code ({ cls := "com/example/rock_dove/rockdove/store/UnitOfWork", name := "end", desc := "()V" } : Jvm.MethodName) prog_78_method_12_code (1 : Nat) (Option.none : Option Jvm.ClassFile.FieldType)).before args0 about1 = true := code_word (m := ⟨2, 5⟩) (meth := k2m5) (c := k2c5) (by decide +kernel) rfl rfl rfl (by decide +kernel)
set_option maxRecDepth 65536 in
theorem w_c18 : (Jvm.Cond.code ({ cls := "java/util/ArrayList", name := "clear", desc := "()V" } : Jvm.MethodName) jdk_38_method_40_code (4 : Nat) (Option.none : Option Jvm.ClassFile.FieldType)).before args0 about1 = true := code_word (m := ⟨12, 7⟩) (meth := k12m7) (c := k12c7) (by decide +kernel) rfl rfl rfl (by decide +kernel)
set_option maxRecDepth 65536 in
theorem w_c19 : (Jvm.Cond.code ({ cls := "com/example/rock_dove/rockdove/store/UnitOfWork", name := "addRemoval", desc := "(Lcom/example/rock_dove/rockdove/store/StoredMessage;)V" } : Jvm.MethodName) prog_78_method_8_code (2 : Nat) (Option.none : Option Jvm.ClassFile.FieldType)).before args0 about1 = true := code_word (m := ⟨2, 4⟩) (meth := k2m4) (c := k2c4) (by decide +kernel) rfl rfl rfl (by decide +kernel)
set_option maxRecDepth 65536 in
theorem w_c20 : (Jvm.Cond.code ({ cls := "com/example/rock_dove/rockdove/store/UnitOfWork", name := "absorb", desc := "(Lcom/example/rock_dove/rockdove/store/UnitOfWork;)V" } : Jvm.MethodName) prog_78_method_6_code (2 : Nat) (Option.none : Option Jvm.ClassFile.FieldType)).before args0 about1 = true := code_word (m := ⟨2, 2⟩) (meth := k2m2) (c := k2c2) (by decide +kernel) rfl rfl rfl (by decide +kernel)
set_option maxRecDepth 65536 in
theorem w_c21 : (Jvm.Cond.code ({ cls := "java/util/ArrayList", name := "isEmpty", desc := "()Z" } : Jvm.MethodName) jdk_38_method_9_code (1 : Nat) (Option.some Jvm.ClassFile.FieldType.boolean)).before args0 about1 = true := code_word (m := ⟨12, 3⟩) (meth := k12m3) (c := k12c3) (by decide +kernel) rfl rfl rfl (by decide +kernel)
set_option maxRecDepth 65536 in
theorem w_c22 : (Jvm.Cond.code ({ cls := "java/util/ArrayList", name := "addAll", desc := "(Ljava/util/Collection;)Z" } : Jvm.MethodName) jdk_38_method_41_code (6 : Nat) (Option.some Jvm.ClassFile.FieldType.boolean)).before args0 about1 = true := code_word (m := ⟨12, 8⟩) (meth := k12m8) (c := k12c8) (by decide +kernel) rfl rfl rfl (by decide +kernel)
set_option maxRecDepth 65536 in
theorem w_c23 : (Jvm.Cond.code ({ cls := "java/util/ArrayList", name := "toArray", desc := "()[Ljava/lang/Object;" } : Jvm.MethodName) jdk_38_method_16_code (1 : Nat) (Option.some (Jvm.ClassFile.FieldType.array (Jvm.ClassFile.FieldType.object "java/lang/Object")))).before args0 about1 = true := code_word (m := ⟨12, 4⟩) (meth := k12m4) (c := k12c4) (by decide +kernel) rfl rfl rfl (by decide +kernel)
set_option maxRecDepth 65536 in
theorem w_c24 : (Jvm.Cond.code ({ cls := "java/util/Arrays", name := "copyOf", desc := "([Ljava/lang/Object;I)[Ljava/lang/Object;" } : Jvm.MethodName) jdk_65_method_119_code (2 : Nat) (Option.some (Jvm.ClassFile.FieldType.array (Jvm.ClassFile.FieldType.object "java/lang/Object")))).before args0 about1 = true := code_word (m := ⟨16, 1⟩) (meth := k16m1) (c := k16c1) (by decide +kernel) rfl rfl rfl (by decide +kernel)
set_option maxRecDepth 65536 in
theorem w_c25 : (Jvm.Cond.code ({ cls := "java/util/Arrays", name := "copyOf", desc := "([Ljava/lang/Object;ILjava/lang/Class;)[Ljava/lang/Object;" } : Jvm.MethodName) jdk_65_method_120_code (4 : Nat) (Option.some (Jvm.ClassFile.FieldType.array (Jvm.ClassFile.FieldType.object "java/lang/Object")))).before args0 about1 = true := code_word (m := ⟨16, 2⟩) (meth := k16m2) (c := k16c2) (by decide +kernel) rfl rfl rfl (by decide +kernel)
set_option maxRecDepth 65536 in
theorem w_c26 : (Jvm.Cond.code ({ cls := "java/lang/Math", name := "min", desc := "(II)I" } : Jvm.MethodName) jdk_29_method_69_code (2 : Nat) (Option.some Jvm.ClassFile.FieldType.int)).before args0 about1 = true := code_word (m := ⟨15, 2⟩) (meth := k15m2) (c := k15c2) (by decide +kernel) rfl rfl rfl (by decide +kernel)
def codes1 : List Jvm.Cond := [Jvm.Cond.code x code maxLocals ret, Jvm.Cond.code ({ cls := "com/example/rock_dove/rockdove/store/UnitOfWork", name := "<init>", desc := "()V" } : Jvm.MethodName) prog_78_method_1_code (1 : Nat) (Option.none : Option Jvm.ClassFile.FieldType), Jvm.Cond.code ({ cls := "java/lang/Object", name := "<init>", desc := "()V" } : Jvm.MethodName) object_method_1_code (1 : Nat) (Option.none : Option Jvm.ClassFile.FieldType), Jvm.Cond.code ({ cls := "java/util/ArrayList", name := "<init>", desc := "()V" } : Jvm.MethodName) jdk_38_method_2_code (1 : Nat) (Option.none : Option Jvm.ClassFile.FieldType), Jvm.Cond.code ({ cls := "java/util/AbstractList", name := "<init>", desc := "()V" } : Jvm.MethodName) jdk_39_method_1_code (1 : Nat) (Option.none : Option Jvm.ClassFile.FieldType), Jvm.Cond.code ({ cls := "java/util/AbstractCollection", name := "<init>", desc := "()V" } : Jvm.MethodName) jdk_22_method_1_code (1 : Nat) (Option.none : Option Jvm.ClassFile.FieldType), Jvm.Cond.code ({ cls := "com/example/rock_dove/rockdove/store/UnitOfWork", name := "holdsPersistent", desc := "()Z" } : Jvm.MethodName) prog_78_method_5_code (1 : Nat) (Option.some Jvm.ClassFile.FieldType.boolean), Jvm.Cond.code ({ cls := "com/example/rock_dove/rockdove/store/UnitOfWorkHoldsPersistentPinLaw", name := "step", desc := "(Lcom/example/rock_dove/rockdove/store/UnitOfWork;II)I" } : Jvm.MethodName) method_3_code (8 : Nat) (Option.some Jvm.ClassFile.FieldType.int), Jvm.Cond.code ({ cls := "com/example/rock_dove/rockdove/store/StoredMessage", name := "<init>", desc := "(JIZJII)V" } : Jvm.MethodName) prog_76_method_1_code (9 : Nat) (Option.none : Option Jvm.ClassFile.FieldType), Jvm.Cond.code ({ cls := "com/example/rock_dove/rockdove/store/Entry", name := "<init>", desc := "()V" } : Jvm.MethodName) prog_61_method_1_code (1 : Nat) (Option.none : Option Jvm.ClassFile.FieldType), Jvm.Cond.code ({ cls := "com/example/rock_dove/rockdove/store/UnitOfWork", name := "addPut", desc := "(Lcom/example/rock_dove/rockdove/store/StoredMessage;)V" } : Jvm.MethodName) prog_78_method_7_code (2 : Nat) (Option.none : Option Jvm.ClassFile.FieldType), Jvm.Cond.code ({ cls := "java/util/ArrayList", name := "add", desc := "(Ljava/lang/Object;)Z" } : Jvm.MethodName) jdk_38_method_25_code (2 : Nat) (Option.some Jvm.ClassFile.FieldType.boolean), Jvm.Cond.code ({ cls := "java/util/ArrayList", name := "add", desc := "(Ljava/lang/Object;[Ljava/lang/Object;I)V" } : Jvm.MethodName) jdk_38_method_24_code (4 : Nat) (Option.none : Option Jvm.ClassFile.FieldType), Jvm.Cond.code ({ cls := "java/util/ArrayList", name := "grow", desc := "()[Ljava/lang/Object;" } : Jvm.MethodName) jdk_38_method_7_code (1 : Nat) (Option.some (Jvm.ClassFile.FieldType.array (Jvm.ClassFile.FieldType.object "java/lang/Object"))), Jvm.Cond.code ({ cls := "java/util/ArrayList", name := "grow", desc := "(I)[Ljava/lang/Object;" } : Jvm.MethodName) jdk_38_method_6_code (4 : Nat) (Option.some (Jvm.ClassFile.FieldType.array (Jvm.ClassFile.FieldType.object "java/lang/Object"))), Jvm.Cond.code ({ cls := "java/lang/Math", name := "max", desc := "(II)I" } : Jvm.MethodName) jdk_29_method_65_code (2 : Nat) (Option.some Jvm.ClassFile.FieldType.int), Jvm.Cond.code ({ cls := "com/example/rock_dove/rockdove/store/StoredMessage", name := "isPersistent", desc := "()Z" } : Jvm.MethodName) prog_76_method_5_code (1 : Nat) (Option.some Jvm.ClassFile.FieldType.boolean), Jvm.Cond.code ({ cls := "com/example/rock_dove/rockdove/store/UnitOfWork", name := "end", desc := "()V" } : Jvm.MethodName) prog_78_method_12_code (1 : Nat) (Option.none : Option Jvm.ClassFile.FieldType), Jvm.Cond.code ({ cls := "java/util/ArrayList", name := "clear", desc := "()V" } : Jvm.MethodName) jdk_38_method_40_code (4 : Nat) (Option.none : Option Jvm.ClassFile.FieldType), Jvm.Cond.code ({ cls := "com/example/rock_dove/rockdove/store/UnitOfWork", name := "addRemoval", desc := "(Lcom/example/rock_dove/rockdove/store/StoredMessage;)V" } : Jvm.MethodName) prog_78_method_8_code (2 : Nat) (Option.none : Option Jvm.ClassFile.FieldType), Jvm.Cond.code ({ cls := "com/example/rock_dove/rockdove/store/UnitOfWork", name := "absorb", desc := "(Lcom/example/rock_dove/rockdove/store/UnitOfWork;)V" } : Jvm.MethodName) prog_78_method_6_code (2 : Nat) (Option.none : Option Jvm.ClassFile.FieldType), Jvm.Cond.code ({ cls := "java/util/ArrayList", name := "isEmpty", desc := "()Z" } : Jvm.MethodName) jdk_38_method_9_code (1 : Nat) (Option.some Jvm.ClassFile.FieldType.boolean), Jvm.Cond.code ({ cls := "java/util/ArrayList", name := "addAll", desc := "(Ljava/util/Collection;)Z" } : Jvm.MethodName) jdk_38_method_41_code (6 : Nat) (Option.some Jvm.ClassFile.FieldType.boolean), Jvm.Cond.code ({ cls := "java/util/ArrayList", name := "toArray", desc := "()[Ljava/lang/Object;" } : Jvm.MethodName) jdk_38_method_16_code (1 : Nat) (Option.some (Jvm.ClassFile.FieldType.array (Jvm.ClassFile.FieldType.object "java/lang/Object"))), Jvm.Cond.code ({ cls := "java/util/Arrays", name := "copyOf", desc := "([Ljava/lang/Object;I)[Ljava/lang/Object;" } : Jvm.MethodName) jdk_65_method_119_code (2 : Nat) (Option.some (Jvm.ClassFile.FieldType.array (Jvm.ClassFile.FieldType.object "java/lang/Object"))), Jvm.Cond.code ({ cls := "java/util/Arrays", name := "copyOf", desc := "([Ljava/lang/Object;ILjava/lang/Class;)[Ljava/lang/Object;" } : Jvm.MethodName) jdk_65_method_120_code (4 : Nat) (Option.some (Jvm.ClassFile.FieldType.array (Jvm.ClassFile.FieldType.object "java/lang/Object"))), Jvm.Cond.code ({ cls := "java/lang/Math", name := "min", desc := "(II)I" } : Jvm.MethodName) jdk_29_method_69_code (2 : Nat) (Option.some Jvm.ClassFile.FieldType.int)]
set_option maxRecDepth 65536 in
theorem codes_eq : words1.filter isCode = codes1 := rfl
theorem w_codes : ∀ c ∈ words1.filter isCode, c.before args0 about1 = true := by
  rw [codes_eq]
  intro c hc
  simp only [codes1, List.mem_cons, List.not_mem_nil, or_false] at hc
  rcases hc with rfl | rfl | rfl | rfl | rfl | rfl | rfl | rfl | rfl | rfl | rfl | rfl | rfl | rfl | rfl | rfl | rfl | rfl | rfl | rfl | rfl | rfl | rfl | rfl | rfl | rfl | rfl
  · exact w_c0
  · exact w_c1
  · exact w_c2
  · exact w_c3
  · exact w_c4
  · exact w_c5
  · exact w_c6
  · exact w_c7
  · exact w_c8
  · exact w_c9
  · exact w_c10
  · exact w_c11
  · exact w_c12
  · exact w_c13
  · exact w_c14
  · exact w_c15
  · exact w_c16
  · exact w_c17
  · exact w_c18
  · exact w_c19
  · exact w_c20
  · exact w_c21
  · exact w_c22
  · exact w_c23
  · exact w_c24
  · exact w_c25
  · exact w_c26
set_option maxRecDepth 65536 in
theorem w_t1 : (words1.take 24).all (fun c => isCode c || c.before args0 about1) = true := by decide +kernel
set_option maxRecDepth 65536 in
theorem w_t2 : ((words1.drop 24).take 24).all (fun c => isCode c || c.before args0 about1) = true := by decide +kernel
set_option maxRecDepth 65536 in
theorem w_t3 : (((words1.drop 24).drop 24).take 24).all (fun c => isCode c || c.before args0 about1) = true := by decide +kernel
set_option maxRecDepth 65536 in
theorem w_t4 : ((((words1.drop 24).drop 24).drop 24).take 24).all (fun c => isCode c || c.before args0 about1) = true := by decide +kernel
set_option maxRecDepth 65536 in
theorem w_t5 : (((((words1.drop 24).drop 24).drop 24).drop 24).take 24).all (fun c => isCode c || c.before args0 about1) = true := by decide +kernel
set_option maxRecDepth 65536 in
theorem w_t6 : ((((((words1.drop 24).drop 24).drop 24).drop 24).drop 24).take 24).all (fun c => isCode c || c.before args0 about1) = true := by decide +kernel
set_option maxRecDepth 65536 in
theorem w_t7 : (((((((words1.drop 24).drop 24).drop 24).drop 24).drop 24).drop 24).take 24).all (fun c => isCode c || c.before args0 about1) = true := by decide +kernel
set_option maxRecDepth 65536 in
theorem w_t8 : ((((((((words1.drop 24).drop 24).drop 24).drop 24).drop 24).drop 24).drop 24).take 24).all (fun c => isCode c || c.before args0 about1) = true := by decide +kernel
set_option maxRecDepth 65536 in
theorem w_t9 : ((((((((words1.drop 24).drop 24).drop 24).drop 24).drop 24).drop 24).drop 24).drop 24).all (fun c => isCode c || c.before args0 about1) = true := by decide +kernel
theorem w_tables : (allAtoms (Jvm.Cond.code x code maxLocals ret :: tables_1)).before args0 about1 = true := by
  rw [allAtoms_all]
  show words1.all (fun c => c.before args0 about1) = true
  refine all_split ?_ w_codes
  rw [← List.take_append_drop 24 words1, List.all_append, w_t1, ← List.take_append_drop 24 (words1.drop 24), List.all_append, w_t2, ← List.take_append_drop 24 ((words1.drop 24).drop 24), List.all_append, w_t3, ← List.take_append_drop 24 (((words1.drop 24).drop 24).drop 24), List.all_append, w_t4, ← List.take_append_drop 24 ((((words1.drop 24).drop 24).drop 24).drop 24), List.all_append, w_t5, ← List.take_append_drop 24 (((((words1.drop 24).drop 24).drop 24).drop 24).drop 24), List.all_append, w_t6, ← List.take_append_drop 24 ((((((words1.drop 24).drop 24).drop 24).drop 24).drop 24).drop 24), List.all_append, w_t7, ← List.take_append_drop 24 (((((((words1.drop 24).drop 24).drop 24).drop 24).drop 24).drop 24).drop 24), List.all_append, w_t8, w_t9]
  rfl
set_option maxRecDepth 65536 in
theorem w_rest : rest_1_c.before args0 about1 = true := by decide +kernel
set_option maxRecDepth 65536 in
theorem w_case : (Jvm.Cond.and given_1 narrow_1).before args0 about1 = true := by decide +kernel
theorem w_applies : (headSpec (Jvm.Cond.code x code maxLocals ret :: tables_1) room_1).applies x e0.platform about1 = true :=
  (Spec.applies_iff w_frames).mpr ⟨w_running, w_runnable, w_alone, w_named, w_hears, w_ripe, w_room, w_tables⟩
theorem atStart : AtStart classFile x code maxLocals ret World_1 tables_1 room_1 Calls_1 rest_1 Pre_1 launch0 p0 e0 about1 theMethod args0 below0 :=
  ⟨lists_1, trivial, launch0.admits_env _ _ _, launch0.least_env, fairChoices_fair.cas, fairChoices_fair.clock, w_frames, w_args, w_heap, w_applies, ⟨⟨23, k23, 1, by decide +kernel, rfl, rfl, _, rfl, rfl⟩, trivial⟩, w_rest, w_case⟩
end start1
theorem witness_1 : WitnessClaimed_1 := ⟨start1.p0, start1.e0, start1.about1, start1.theMethod, start1.args0, start1.below0, start1.atStart⟩
end Jvm.Pilot.@@N@@
