import JvmDerived
import JvmDerived.Pilot.@@N@@Statement
import JvmDerived.Pilot.@@N@@Code
set_option linter.unusedVariables false
set_option linter.unusedSimpArgs false
namespace Jvm.RoadKit
open Sem ClassFile Op Lib Jvm.Stand Jvm.Free Jvm.LawKit
section New
variable {p : Program} {l : Launch} {e : Env} {R : Room} {s : State} {m : MethodId} {args : Array Value} {below : List Frame} {meth : Method} {c : Code} {T : State} {locs : List Loc} {cells slots : Nat}
theorem retI (X : Stand p l e R s m args below meth c T locs cells slots) (hx : p.tables.exec = Jvm.exec) {pc : Nat} {Ls : Array Slot} {z : Int32} {rest : List Value} (hret : meth.sig.returnType = some .int) (hd : decode c.code pc = .ok (.ireturn, 1)) {fs : List Frame}
    (hl : ∀ (f : JFrame) (acts : List Action), f.method = m → f.locked = none → f.entered = [] → (doReturn e (T.setTop f) acts (some (.int z))).1 = T.setFrames fs) : Steps p.tables e below (T.setTop (mkF m pc Ls (.int z :: rest))) (T.setFrames fs) := by
  have hm' : T.vm.method? m = some meth := X.method'
  have hn : narrow .int (.int z) = .int z := rfl
  show Steps p.tables e below (T.setTop { method := m, pc := pc, locals := Ls, stack := _ :: rest, locked := none }) _
  jvm_step X.here [X.here.top, hx, hd, hm', hret, hn]
  first | (intro acts; rw [hl _ acts rfl rfl rfl]) | rw [hl _ _ rfl rfl rfl]
  exact Steps.refl _
end New
end Jvm.RoadKit
namespace Jvm.Pilot.@@N@@
open Jvm Jvm.ClassFile Sem Op Lib Jvm.Free Jvm.Stand Jvm.LawKit Jvm.RoadKit Bundle Jvm.Pilot.@@N@@.Jvm.D
section Own
variable {p : Program} {l : Launch} {e : Env} {R : Room} {s : State} {m : MethodId} {args : Array Value} {below : List Frame} {meth : Method} {c : Code} {T : State} {locs : List Loc} {cells slots : Nat} {Q : Option Value → Heap → List Loc → Prop} {nc ns : Nat}
/-- from here the run comes to an end of which Q speaks -/
def own_Dn (p : Program) (e : Env) (below : List Frame) (s : State) (Q : Option Value → Heap → List Loc → Prop) (nc ns : Nat) (q : State) : Prop :=
  ∃ t o, Steps p.tables e below q t ∧ t.status = .running ∧ Ended t below o ∧ ∃ v L, o = .returned v ∧ Q v t.heap L ∧ FrameEnd s o t L nc ns
theorem own_st {q q' : State} (h : ∀ t, Steps p.tables e below q' t → Steps p.tables e below q t) (d : own_Dn p e below s Q nc ns q') : own_Dn p e below s Q nc ns q := by
  obtain ⟨t, o, h1, r⟩ := d
  exact ⟨t, o, h _ h1, r⟩
/-- a body's contract -/
def own_Met (l : Launch) (Z : State) (y : MethodName) (ws : List Jvm.Cond) (bytes : ByteArray) (maxL : Nat) (ret : Option FieldType) (rm : Room) (as : Array Value) (h0 : Heap) (Q : Option Value → Heap → List Loc → Prop) : Prop :=
  MetFree l y (head1 (Jvm.Cond.code y bytes maxL ret :: ws) rm) (fun a U => a = as ∧ Z.Warmed39 U.vm ∧ U.heap = h0) (fun _ _ _ _ _ => True) (fun _ U o U' => ∃ v L, o = .returned v ∧ Q v U'.heap L ∧ FrameEnd U o U' L rm.cells rm.slots)
theorem own_body {Z : State} {y : MethodName} {ws : List Jvm.Cond} {bytes : ByteArray} {maxL : Nat} {ret : Option FieldType} {rm : Room} {as : Array Value} {h0 : Heap} (hp : plainFor y = true)
    (body : ∀ p e s m below meth c s₁, p.tables.exec = Jvm.exec → c.code = bytes → c.maxLocals = maxL → s.vm.findClass y.cls = some m.cls → meth.name = y.name → meth.sig.returnType = ret → meth.locks = false → Z.Warmed39 s.vm → Stand p l e rm s m as below meth c s₁ [] 0 0 → s₁.heap = h0 → own_Dn p e below s Q rm.cells rm.slots (s₁.setTop (entryFrame m as maxL))) :
    own_Met l Z y ws bytes maxL ret rm as h0 Q := by
  refine MetFree.of_bodySF hp hisR ?_
  intro p e s m args below meth c s₁ Bd hml0 hP hK
  obtain ⟨rfl, hZ, hh⟩ := hP
  exact body p e s m below meth c s₁ Bd.exec Bd.bytes hml0 (findClass_of_methodNamed Bd.named) (name_of_methodNamed Bd.named Bd.method).1 Bd.returns Bd.notSynchronized hZ (Stand.of_body Bd) (by rw [← hh, Bd.state]; rfl)
theorem own_entry {m : MethodId} {as : Array Value} {maxL : Nat} {g : JFrame} (q : entryFrame m as maxL = g) (d : own_Dn p e below s Q nc ns (T.setTop g)) : own_Dn p e below s Q nc ns (T.setTop (entryFrame m as maxL)) := q ▸ d
theorem own_retI (X : Stand p l e R s m args below meth c T locs cells slots) (hx : p.tables.exec = Jvm.exec) (hlk : meth.locks = false) {pc : Nat} {Ls : Array Slot} {z : Int32} {rest : List Value} (hret : meth.sig.returnType = some .int) (hd : decode c.code pc = .ok (.ireturn, 1)) {h : Heap} (eT : T.heap = h) (hQ : Q (some (.int z)) h locs) (hc : cells ≤ nc) (hs : slots ≤ ns) :
    own_Dn p e below s Q nc ns (T.setTop (mkF m pc Ls (.int z :: rest))) := by
  obtain ⟨fs, hr, hrun, hended, hW, hsame⟩ := X.leave (v := some (.int z)) (fun h => by rw [hret] at h; cases h) hlk
  subst eT
  exact ⟨_, _, retI X hx hret hd hr, hrun, hended, _, _, rfl, hQ, ⟨_, rfl⟩, hW, hsame.mono hc hs⟩
theorem own_retN (X : Stand p l e R s m args below meth c T locs cells slots) (hx : p.tables.exec = Jvm.exec) (hlk : meth.locks = false) {t : FieldType} {pc : Nat} {Ls : Array Slot} {z : Int32} {rest : List Value} (hret : meth.sig.returnType = some t) (ht : t = .boolean ∨ t = .byte ∨ t = .char ∨ t = .short) (hd : decode c.code pc = .ok (.ireturn, 1)) {h : Heap} (eT : T.heap = h) (hQ : Q (some (.int (nar t z))) h locs) (hc : cells ≤ nc) (hs : slots ≤ ns) :
    own_Dn p e below s Q nc ns (T.setTop (mkF m pc Ls (.int z :: rest))) := by
  obtain ⟨fs, hr, hrun, hended, hW, hsame⟩ := X.leave (v := some (.int (nar t z))) (fun h => by rw [hret] at h; cases h) hlk
  subst eT
  exact ⟨_, _, retN X hx hret ht hd hr, hrun, hended, _, _, rfl, hQ, ⟨_, rfl⟩, hW, hsame.mono hc hs⟩
theorem own_retV (X : Stand p l e R s m args below meth c T locs cells slots) (hx : p.tables.exec = Jvm.exec) (hlk : meth.locks = false) {pc : Nat} {Ls : Array Slot} (hret : meth.sig.returnType = none) (hd : decode c.code pc = .ok (.return_, 1)) {h : Heap} (eT : T.heap = h) (hQ : Q none h locs) (hc : cells ≤ nc) (hs : slots ≤ ns) :
    own_Dn p e below s Q nc ns (T.setTop (mkF m pc Ls [])) := by
  obtain ⟨fs, hr, hrun, hended, hW, hsame⟩ := X.leave (v := none) (fun _ => rfl) hlk
  subst eT
  exact ⟨_, _, X.returnOut hx hret hd hr, hrun, hended, _, _, rfl, hQ, ⟨_, rfl⟩, hW, hsame.mono hc hs⟩
theorem own_retO (X : Stand p l e R s m args below meth c T locs cells slots) (hx : p.tables.exec = Jvm.exec) (hlk : meth.locks = false) {t : FieldType} {w : Value} {i : Instr} {pc : Nat} {Ls : Array Slot} {rest : List Value} (hret : meth.sig.returnType = some t) (hn : narrow t w = w)
    (hi : (i = .ireturn ∧ (t = .int ∨ t = .boolean ∨ t = .byte ∨ t = .char ∨ t = .short) ∧ ∃ z, w = .int z) ∨ (i = .lreturn ∧ t = .long ∧ ∃ z, w = .long z) ∨ (i = .dreturn ∧ t = .double ∧ ∃ z, w = .double z) ∨ (i = .freturn ∧ t = .float ∧ ∃ z, w = .float z) ∨ (i = .areturn ∧ t.isReference = true ∧ w.isRef = true))
    (hd : decode c.code pc = .ok (i, 1)) {h : Heap} (eT : T.heap = h) (hQ : Q (some w) h locs) (hc : cells ≤ nc) (hs : slots ≤ ns) : own_Dn p e below s Q nc ns (T.setTop (mkF m pc Ls (w :: rest))) := by
  obtain ⟨fs, hr, hrun, hended, hW, hsame⟩ := X.leave (v := some w) (fun h => by rw [hret] at h; cases h) hlk
  subst eT
  exact ⟨_, _, retOut X hx hret hn hi hd hr, hrun, hended, _, _, rfl, hQ, ⟨_, rfl⟩, hW, hsame.mono hc hs⟩
theorem own_mono {cells' slots' : Nat} (X : Stand p l e R s m args below meth c T locs cells slots) (h1 : cells ≤ cells') (h2 : slots ≤ slots') : Stand p l e R s m args below meth c T locs cells' slots' :=
  ⟨X.admits, X.cas, X.clock, X.frames, X.room, X.hears, X.method, X.code, X.here, X.tail, X.warmed, X.limits, X.bytes, X.same.mono h1 h2⟩
theorem own_callS {Z : State} {a0 : Array Value} {h : Heap} {own : String} {index : Nat} {y : MethodName} {bytes : ByteArray} {maxL : Nat} {ret : Option FieldType} {rm : Room} {as : Array Value} {Q' : Option Value → Heap → List Loc → Prop}
    (X : Stand p l e R s m args below meth c T locs cells slots) (hx : p.tables.exec = Jvm.exec) (hZ : Z.Warmed39 s.vm) (hown : s.vm.findClass own = some m.cls)
    (w1 : (Cond.methodLink own index y).before a0 Z = true) (w2 : (Cond.static y).before a0 Z = true) (w3 : (Cond.initialized y.cls).before a0 Z = true) (w4 : (Cond.code y bytes maxL ret).before a0 Z = true) (hy : y.cls ≠ "java/lang/invoke/MethodHandle" ∧ y.cls ≠ "java/lang/invoke/VarHandle")
    (M : own_Met l Z y [] bytes maxL ret rm as h Q') (eT : T.heap = h) {W : Nat} (hf : rm.frames + 1 ≤ R.frames) (hl : W + (maxL + 11) + rm.locals ≤ R.locals) (hc : cells + rm.cells ≤ R.cells) (hs : slots + rm.slots ≤ R.slots)
    {g : JFrame} (hg : g.method = m) (hsize : g.locals.size = c.maxLocals) {argsL rest : List Value} (has : argsL.toArray = as) (hlen : ∀ sig, parseMethodDescriptor y.desc = some sig → argsL.length = sig.parameters.length)
    (hstack : g.stack = argsL.reverse ++ rest) (hW : 2 * g.monitorRoom + (rest.map fun v => v.category).sum ≤ W) (hd : decode c.code g.pc = .ok (.invokestatic index, 3))
    (k : ∀ v T' L, Q' v T'.heap L → Stand p l e R s m args below meth c T' (locs ++ L) (cells + rm.cells) (slots + rm.slots) → own_Dn p e below s Q nc ns (T'.setTop { g with pc := g.pc + 3, stack := v.toList ++ rest })) :
    own_Dn p e below s Q nc ns (T.setTop g) := by
  obtain ⟨v, _, ⟨T', L', k', n'⟩, -, X', ⟨Lc, hQ, l1, y1, z1⟩, st⟩ := Jvm.LawKit.callS X hx hown (mvT hZ w1) (mvT hZ w2) (mvT hZ w3) (mvT hZ w4) hy (backOf (W := W) M hZ w4 w3 hf hl) hg hsize (argsL := argsL) (rest := rest) hlen hstack hW hd (fun _ _ => ⟨has, eT, hc, hs⟩)
  dsimp only [Pt.U, Pt.locs, Pt.cells, Pt.slots] at X' l1 y1 z1 st hQ
  subst l1 y1 z1
  exact own_st (fun t q => st t q) (k v T' Lc hQ X')
theorem own_callI {Z : State} {a0 : Array Value} {h : Heap} {own : String} {index : Nat} {y : MethodName} {bytes : ByteArray} {maxL : Nat} {rm : Room} {as : Array Value} {Q' : Option Value → Heap → List Loc → Prop}
    (X : Stand p l e R s m args below meth c T locs cells slots) (hx : p.tables.exec = Jvm.exec) (hZ : Z.Warmed39 s.vm) (hown : s.vm.findClass own = some m.cls) (hy1 : y.name = "<init>")
    (w1 : (Cond.methodLink own index y).before a0 Z = true) (w2 : (Cond.instanceMethod y).before a0 Z = true) (w3 : (Cond.initialized y.cls).before a0 Z = true) (w4 : (Cond.code y bytes maxL none).before a0 Z = true) (hy : y.cls ≠ "java/lang/invoke/MethodHandle" ∧ y.cls ≠ "java/lang/invoke/VarHandle")
    (M : own_Met l Z y [] bytes maxL none rm as h Q') (eT : T.heap = h) {W : Nat} (hf : rm.frames + 1 ≤ R.frames) (hl : W + (maxL + 11) + rm.locals ≤ R.locals) (hc : cells + rm.cells ≤ R.cells) (hs : slots + rm.slots ≤ R.slots)
    {g : JFrame} (hg : g.method = m) (hsize : g.locals.size = c.maxLocals) {a : Addr} {argsL rest : List Value} (has : (.ref a :: argsL).toArray = as) (hlen : ∀ sig, parseMethodDescriptor y.desc = some sig → argsL.length = sig.parameters.length)
    (hstack : g.stack = argsL.reverse ++ .ref a :: rest) (hW : 2 * g.monitorRoom + (rest.map fun v => v.category).sum ≤ W) (hd : decode c.code g.pc = .ok (.invokespecial index, 3))
    (k : ∀ v T' L, Q' v T'.heap L → Stand p l e R s m args below meth c T' (locs ++ L) (cells + rm.cells) (slots + rm.slots) → own_Dn p e below s Q nc ns (T'.setTop { g with pc := g.pc + 3, stack := v.toList ++ rest })) :
    own_Dn p e below s Q nc ns (T.setTop g) := by
  obtain ⟨v, _, ⟨T', L', k', n'⟩, -, X', ⟨Lc, hQ, l1, y1, z1⟩, st⟩ := X.specialBack hx hy1 hown (mvT hZ w1) (mvT hZ w2) (mvT hZ w4) hy (backOf (W := W) M hZ w4 w3 hf hl) hg hsize (Steps.refl _) (a := a) (argsL := argsL) (rest := rest) hlen hstack hW hd (fun _ _ => ⟨has, eT, hc, hs⟩)
  dsimp only [Pt.U, Pt.locs, Pt.cells, Pt.slots] at X' l1 y1 z1 st hQ
  subst l1 y1 z1
  exact own_st (fun t q => st.trans q) (k v T' Lc hQ X')
theorem own_callV {Z : State} {a0 : Array Value} {h : Heap} {own C : String} {index : Nat} {y : MethodName} {bytes : ByteArray} {maxL : Nat} {ret : Option FieldType} {rm : Room} {as : Array Value} {Q' : Option Value → Heap → List Loc → Prop}
    (X : Stand p l e R s m args below meth c T locs cells slots) (hx : p.tables.exec = Jvm.exec) (hZ : Z.Warmed39 s.vm) (hown : s.vm.findClass own = some m.cls)
    (w1 : (Cond.methodLink own index y).before a0 Z = true) (w2 : (Cond.declares y).before a0 Z = true) (w5 : (Cond.selects C y y).before a0 Z = true) (w6 : (Cond.instanceMethod y).before a0 Z = true) (w3 : (Cond.initialized y.cls).before a0 Z = true) (w4 : (Cond.code y bytes maxL ret).before a0 Z = true) (hy : y.cls ≠ "java/lang/invoke/MethodHandle" ∧ y.cls ≠ "java/lang/invoke/VarHandle")
    (M : own_Met l Z y [] bytes maxL ret rm as h Q') (eT : T.heap = h) {b : Addr} (E : Exa Z h b C) {W : Nat} (hf : rm.frames + 1 ≤ R.frames) (hl : W + (maxL + 11) + rm.locals ≤ R.locals) (hc : cells + rm.cells ≤ R.cells) (hs : slots + rm.slots ≤ R.slots)
    {g : JFrame} (hg : g.method = m) (hsize : g.locals.size = c.maxLocals) {argsL rest : List Value} (has : (.ref b :: argsL).toArray = as) (hlen : ∀ sig, parseMethodDescriptor y.desc = some sig → argsL.length = sig.parameters.length)
    (hstack : g.stack = argsL.reverse ++ .ref b :: rest) (hW : 2 * g.monitorRoom + (rest.map fun v => v.category).sum ≤ W) (hd : decode c.code g.pc = .ok (.invokevirtual index, 3))
    (k : ∀ v T' L, Q' v T'.heap L → Stand p l e R s m args below meth c T' (locs ++ L) (cells + rm.cells) (slots + rm.slots) → own_Dn p e below s Q nc ns (T'.setTop { g with pc := g.pc + 3, stack := v.toList ++ rest })) :
    own_Dn p e below s Q nc ns (T.setTop g) := by
  obtain ⟨cq, kq, qa, qb, qc⟩ := isOf hZ eT E
  obtain ⟨v, _, ⟨T', L', k', n'⟩, -, X', ⟨Lc, hQ, l1, y1, z1⟩, st⟩ := X.virtualBack hx hown (mvT hZ w1) (mvT hZ w2) (notFace_of_selects (args := #[]) (mvT hZ w5)) (mvT hZ w5) (mvT hZ w6) hy (backOf (W := W) M hZ w4 w3 hf hl) qa qc hg hsize (Steps.refl _) (argsL := argsL) (rest := rest) hlen hstack hW hd (fun _ _ => ⟨has, eT, hc, hs⟩)
  dsimp only [Pt.U, Pt.locs, Pt.cells, Pt.slots] at X' l1 y1 z1 st hQ
  subst l1 y1 z1
  exact own_st (fun t q => st.trans q) (k v T' Lc hQ X')
theorem own_callF {Z : State} {a0 : Array Value} {h : Heap} {own C : String} {index count : Nat} {xi y : MethodName} {bytes : ByteArray} {maxL : Nat} {ret : Option FieldType} {rm : Room} {as : Array Value} {Q' : Option Value → Heap → List Loc → Prop}
    (X : Stand p l e R s m args below meth c T locs cells slots) (hx : p.tables.exec = Jvm.exec) (hZ : Z.Warmed39 s.vm) (hown : s.vm.findClass own = some m.cls)
    (w1 : (Cond.methodLink own index xi).before a0 Z = true) (w2 : (Cond.declares xi).before a0 Z = true) (wf : (Cond.interfaceMethod xi.cls xi.cls xi.name xi.desc).before a0 Z = true) (w5 : (Cond.selects C xi y).before a0 Z = true) (w6 : (Cond.instanceMethod y).before a0 Z = true)
    (wp : (Cond.publicMethod y).before a0 Z = true) (wu : (Cond.unhidden C xi.name xi.desc).before a0 Z = true) (wk : (Cond.castable C xi.cls).before a0 Z = true) (w3 : (Cond.initialized y.cls).before a0 Z = true) (w4 : (Cond.code y bytes maxL ret).before a0 Z = true) (hy : xi.cls ≠ "java/lang/invoke/MethodHandle" ∧ xi.cls ≠ "java/lang/invoke/VarHandle")
    (M : own_Met l Z y [] bytes maxL ret rm as h Q') (eT : T.heap = h) {b : Addr} (E : Exa Z h b C) {W : Nat} (hf : rm.frames + 1 ≤ R.frames) (hl : W + (maxL + 11) + rm.locals ≤ R.locals) (hc : cells + rm.cells ≤ R.cells) (hs : slots + rm.slots ≤ R.slots)
    {g : JFrame} (hg : g.method = m) (hsize : g.locals.size = c.maxLocals) {argsL rest : List Value} (has : (.ref b :: argsL).toArray = as) (hlen : ∀ sig, parseMethodDescriptor xi.desc = some sig → argsL.length = sig.parameters.length)
    (hstack : g.stack = argsL.reverse ++ .ref b :: rest) (hW : 2 * g.monitorRoom + (rest.map fun v => v.category).sum ≤ W) (hd : decode c.code g.pc = .ok (.invokeinterface index count, 5))
    (k : ∀ v T' L, Q' v T'.heap L → Stand p l e R s m args below meth c T' (locs ++ L) (cells + rm.cells) (slots + rm.slots) → own_Dn p e below s Q nc ns (T'.setTop { g with pc := g.pc + 5, stack := v.toList ++ rest })) :
    own_Dn p e below s Q nc ns (T.setTop g) := by
  obtain ⟨cq, kq, qa, qb, qc⟩ := isOf hZ eT E
  have hfc : ((Cond.interfaceMethod xi.cls xi.cls xi.name xi.desc).onTables && (Cond.interfaceMethod xi.cls xi.cls xi.name xi.desc).keepsFace) = true := by simp [Cond.onTables, Cond.keepsFace, Cond.keeps, Cond.steady, Cond.faceAtom, hy.1, hy.2]
  obtain ⟨v, _, ⟨T', L', k', n'⟩, -, X', ⟨Lc, hQ, l1, y1, z1⟩, st⟩ := X.interfaceBack hx hown (mvT hZ w1) (mvT hZ w2) (mvT hZ wf hfc) (mvT hZ w5) (mvT hZ w6) (mvT hZ wp) (mvT hZ wu) (mvT hZ wk) hy (backOf (W := W) M hZ w4 w3 hf hl) qa qb qc hg hsize (Steps.refl _) (argsL := argsL) (rest := rest) hlen hstack hW hd (fun _ _ => ⟨has, eT, hc, hs⟩)
  dsimp only [Pt.U, Pt.locs, Pt.cells, Pt.slots] at X' l1 y1 z1 st hQ
  subst l1 y1 z1
  exact own_st (fun t q => st.trans q) (k v T' Lc hQ X')
theorem own_lrem {tb : Tables} [Ours tb] {e : Env} {below : List Frame} {T target : State} {m : MethodId} {c : Code} {g : JFrame} (h : At T m c below) (hx : tb.exec = Jvm.exec) (hg : g.method = m) {x y : Int64} {rest : List Value} (hd : decode c.code g.pc = .ok (.lrem, 1)) (hs : g.stack = .long y :: .long x :: rest) (hy : y ≠ 0)
    (hr : Steps tb e below (T.setTop { g with pc := g.pc + 1, stack := .long (x % y) :: rest }) target) : Steps tb e below (T.setTop g) target :=
  Jvm.Free.XT.lrem h hx hg hd hs hy (by rw [lrem_mod]; exact hr)
theorem own_ltT {x y : Int32} (h : x < y) : x.toInt < y.toInt := Int32.lt_iff_toInt_lt.mp h
theorem own_ltF {x y : Int32} (h : ¬ x < y) : y.toInt ≤ x.toInt := by rw [Int32.lt_iff_toInt_lt] at h; omega
theorem own_eqT {x y : Int32} (h : x = y) : x.toInt = y.toInt := congrArg _ h
theorem own_eqF {x y : Int32} (h : ¬ x = y) : ¬ x.toInt = y.toInt := fun q => h (Int32.toInt_inj.mp q)
theorem own_lt {x y : Int32} (h : x.toInt < y.toInt) : x < y := Int32.lt_iff_toInt_lt.mpr h
theorem own_nlt {x y : Int32} (h : y.toInt ≤ x.toInt) : ¬ x < y := by rw [Int32.lt_iff_toInt_lt]; omega
theorem own_eq {x y : Int32} (h : x.toInt = y.toInt) : x = y := Int32.toInt_inj.mp h
theorem own_ne {x y : Int32} (h : ¬ x.toInt = y.toInt) : ¬ x = y := fun q => h (congrArg _ q)
theorem own_cat1 {v : Value} (h : v.isRef = true) : v.category = 1 := by cases v <;> simp_all [Value.isRef, Value.category]
theorem own_dupX2 {tb : Tables} [Ours tb] {e : Env} {below : List Frame} {T target : State} {m : MethodId} {c : Code} {g : JFrame} (h : At T m c below) (hx : tb.exec = Jvm.exec) (hg : g.method = m) {x y z : Value} {rest : List Value} (hd : decode c.code g.pc = .ok (.dup_x2, 1)) (hs : g.stack = x :: y :: z :: rest) (hc : x.category = 1) (hc' : y.category = 1) (hc'' : z.category = 1)
    (hr : Steps tb e below (T.setTop { g with pc := g.pc + 1, stack := x :: y :: z :: x :: rest }) target) : Steps tb e below (T.setTop g) target := by
  subst hg
  jvm_step h [h.top, hx, hd, hs, hc, hc', hc'']
  exact hr
end Own
def own_bo (x : Int32) (le be : Addr) : Addr := if x &&& (15 : Int32) = (2 : Int32) then le else be
theorem pn_0 : plainName "com/example/rock_dove/rockdove/mqi/MQMD" = true := by first | (simp [plainName, overriddenIn]; done) | decide +kernel
theorem ef_rm1 (m : MethodId) (x0 : Int32) : entryFrame m #[(.int x0)] 1 = mkF m 0 #[.val (.int x0)] [] := by first | (simp [entryFrame, mkF, argsToLocals, Value.category]; done) | rfl
theorem d_rm1_0 : decode prog_40_method_4_code 0 = .ok (.iload_n 0, 1) := by decide +kernel
theorem d_rm1_1 : decode prog_40_method_4_code 1 = .ok (.bipush 15, 2) := by decide +kernel
theorem d_rm1_3 : decode prog_40_method_4_code 3 = .ok (.iand, 1) := by decide +kernel
theorem d_rm1_4 : decode prog_40_method_4_code 4 = .ok (.iconst 2, 1) := by decide +kernel
theorem d_rm1_5 : decode prog_40_method_4_code 5 = .ok (.if_icmp .ne 9, 3) := by decide +kernel
theorem d_rm1_8 : decode prog_40_method_4_code 8 = .ok (.getstatic 100, 3) := by decide +kernel
theorem d_rm1_11 : decode prog_40_method_4_code 11 = .ok (.goto 6, 3) := by decide +kernel
theorem d_rm1_14 : decode prog_40_method_4_code 14 = .ok (.getstatic 106, 3) := by decide +kernel
theorem d_rm1_17 : decode prog_40_method_4_code 17 = .ok (.areturn, 1) := by decide +kernel
set_option maxRecDepth 65536 in
set_option maxHeartbeats 40000000 in
theorem rm1 (l : Launch) (Z : State) (a0 : Array Value) (hw : ∀ d ∈ tables_1, d.before a0 Z = true) (ws : List Jvm.Cond) (x0 : Int32) (le be : Addr) (h0 : Heap) (n0 : Nat) (Z0 : n0 ≤ h0.size) (S1 : Sta Z h0 "java/nio/ByteOrder" "LITTLE_ENDIAN" "Ljava/nio/ByteOrder;" (.ref le)) (S2 : Sta Z h0 "java/nio/ByteOrder" "BIG_ENDIAN" "Ljava/nio/ByteOrder;" (.ref be)) :
    own_Met l Z (⟨"com/example/rock_dove/rockdove/mqi/MQMD", "byteOrder", "(I)Ljava/nio/ByteOrder;"⟩ : MethodName) ws prog_40_method_4_code 1 (some (.object "java/nio/ByteOrder")) ({ frames := 0, cells := 0, slots := 0, locals := 0 } : Room) #[(.int x0)] h0 (fun v h L => v = some (.ref (own_bo x0 le be)) ∧ Fr n0 L ∧ h = h0) := by
  refine own_body (y := (⟨"com/example/rock_dove/rockdove/mqi/MQMD", "byteOrder", "(I)Ljava/nio/ByteOrder;"⟩ : MethodName)) (plainFor_of_name pn_0) ?_
  intro p e s m below meth c s₁ hx hby hml hown hnm hret hlk hZ X0 e0
  have hml : c.maxLocals = 1 := hml
  have hown : s.vm.findClass "com/example/rock_dove/rockdove/mqi/MQMD" = some m.cls := hown
  have N0 := Fr.nil n0
  refine own_entry (ef_rm1 m x0) ?_
  show own_Dn p e below s (fun v h L => v = some (.ref (own_bo x0 le be)) ∧ Fr n0 L ∧ h = h0) ({ frames := 0, cells := 0, slots := 0, locals := 0 } : Room).cells ({ frames := 0, cells := 0, slots := 0, locals := 0 } : Room).slots (s₁.setTop (mkF m 0 #[.val (.int x0)] []))
  refine own_st (q' := s₁.setTop (mkF m 1 #[.val (.int x0)] [(.int x0)])) (fun _ k => XS.iloadN X0.here hx rfl (hb hby d_rm1_0) rfl k) ?_
  refine own_st (q' := s₁.setTop (mkF m 3 #[.val (.int x0)] [(.int (15 : Int32)), (.int x0)])) (fun _ k => XS.bipush X0.here hx rfl (hb hby d_rm1_1) k) ?_
  refine own_st (q' := s₁.setTop (mkF m 4 #[.val (.int x0)] [(.int (x0 &&& (15 : Int32)))])) (fun _ k => XS.iand X0.here hx rfl (hb hby d_rm1_3) rfl k) ?_
  refine own_st (q' := s₁.setTop (mkF m 5 #[.val (.int x0)] [(.int (2 : Int32)), (.int (x0 &&& (15 : Int32)))])) (fun _ k => XS.iconst X0.here hx rfl (hb hby d_rm1_4) k) ?_
  by_cases hc5_101 : (x0 &&& (15 : Int32)) = (2 : Int32)
  · skip
    have hc5_101I : ((x0 &&& (15 : Int32))).toInt = (2 : Int) := own_eqT hc5_101
    refine own_st (q' := s₁.setTop (mkF m 8 #[.val (.int x0)] [])) (fun _ k => XS.icmpNo X0.here hx rfl (hb hby d_rm1_5) rfl (teq hc5_101).2 k) ?_
    obtain ⟨T102, X102, e102, st102⟩ := getS2 X0 hx hZ hown (host := "") (Or.inl (hw _ (List.mem_of_getElem? (i := 7) rfl))) Via.refl e0 S1 (g := (mkF m 8 #[.val (.int x0)] [])) rfl (hb hby d_rm1_8)
    refine own_st (q' := T102.setTop (mkF m 11 #[.val (.int x0)] [(.ref le)])) st102 ?_
    refine own_st (q' := T102.setTop (mkF m 17 #[.val (.int x0)] [(.ref le)])) (fun _ k => XS.goto X102.here hx rfl (pc0 := 11) (pc' := 17) rfl (hb hby d_rm1_11) (by decide) (by decide) k) ?_
    exact own_retO X102 hx hlk (i := .areturn) hret rfl (Or.inr (Or.inr (Or.inr (Or.inr ⟨rfl, rfl, rfl⟩)))) (hb hby d_rm1_17) e102 (by exact ⟨(by unfold own_bo; rw [if_pos hc5_101]), N0, rfl⟩) (by decide) (by decide)
  · skip
    have hc5_101I : ¬ ((x0 &&& (15 : Int32))).toInt = (2 : Int) := own_eqF hc5_101
    refine own_st (q' := s₁.setTop (mkF m 14 #[.val (.int x0)] [])) (fun _ k => XS.icmpYes X0.here hx rfl (pc0 := 5) (pc' := 14) rfl (hb hby d_rm1_5) rfl (feq hc5_101).2 (by decide) (by decide) k) ?_
    obtain ⟨T103, X103, e103, st103⟩ := getS2 X0 hx hZ hown (host := "") (Or.inl (hw _ (List.mem_of_getElem? (i := 4) rfl))) Via.refl e0 S2 (g := (mkF m 14 #[.val (.int x0)] [])) rfl (hb hby d_rm1_14)
    refine own_st (q' := T103.setTop (mkF m 17 #[.val (.int x0)] [(.ref be)])) st103 ?_
    exact own_retO X103 hx hlk (i := .areturn) hret rfl (Or.inr (Or.inr (Or.inr (Or.inr ⟨rfl, rfl, rfl⟩)))) (hb hby d_rm1_17) e103 (by exact ⟨(by unfold own_bo; rw [if_neg hc5_101]), N0, rfl⟩) (by decide) (by decide)
theorem own_low (hi lo : Int32) : (hi * (16 : Int32) + (lo &&& (15 : Int32))) &&& (15 : Int32) = lo &&& (15 : Int32) := by
  apply own_eq
  have l1 : (16 : Int32).toInt = 16 := rfl
  have e1 := c_mask (hi * 16 + (lo &&& 15)) 15 4 (by decide) (by decide)
  have e2 := c_mask lo 15 4 (by decide) (by decide)
  have e3 := c_iadd (hi * 16) (lo &&& 15)
  have e4 := c_imul hi 16
  rw [l1] at e4
  rw [e1]
  omega
theorem pn_1 : plainName "com/example/rock_dove/rockdove/mqi/MQMDByteOrderPinLaw" = true := by first | (simp [plainName, overriddenIn]; done) | decide +kernel
theorem ef_rm0 (m : MethodId) (x0 : Int32) (x1 : Int32) : entryFrame m #[(.int x0), (.int x1)] maxLocals = mkF m 0 #[.val (.int x0), .val (.int x1), .unset, .unset, .unset] [] := by first | (simp [entryFrame, mkF, argsToLocals, Value.category, maxLocals]; done) | rfl
theorem pd_0 : parseMethodDescriptor "(I)Ljava/nio/ByteOrder;" = some ⟨[.int], some (.object "java/nio/ByteOrder")⟩ := by decide +kernel
set_option maxRecDepth 65536 in
set_option maxHeartbeats 40000000 in
theorem rm0 (l : Launch) (Z : State) (a0 : Array Value) (hw : ∀ d ∈ tables_1, d.before a0 Z = true) (ws : List Jvm.Cond) (x0 x1 : Int32) (le be : Addr) (h0 : Heap) (n0 : Nat) (Z0 : n0 ≤ h0.size) (S1 : Sta Z h0 "java/nio/ByteOrder" "LITTLE_ENDIAN" "Ljava/nio/ByteOrder;" (.ref le)) (S2 : Sta Z h0 "java/nio/ByteOrder" "BIG_ENDIAN" "Ljava/nio/ByteOrder;" (.ref be)) :
    own_Met l Z x ws code maxLocals ret room_1 #[(.int x0), (.int x1)] h0 (fun v h L => v = some (.int 1) ∧ Fr n0 L) := by
  refine own_body (y := x) (plainFor_of_name pn_1) ?_
  intro p e s m below meth c s₁ hx hby hml hown hnm hret hlk hZ X0 e0
  have hml : c.maxLocals = 5 := hml
  have hown : s.vm.findClass "com/example/rock_dove/rockdove/mqi/MQMDByteOrderPinLaw" = some m.cls := hown
  have N0 := Fr.nil n0
  refine own_entry (ef_rm0 m x0 x1) ?_
  show own_Dn p e below s (fun v h L => v = some (.int 1) ∧ Fr n0 L) room_1.cells room_1.slots (s₁.setTop (mkF m 0 #[.val (.int x0), .val (.int x1), .unset, .unset, .unset] []))
  refine own_st (q' := s₁.setTop (mkF m 1 #[.val (.int x0), .val (.int x1), .unset, .unset, .unset] [(.int x1)])) (fun _ k => XS.iloadN X0.here hx rfl (hb hby at_0) rfl k) ?_
  refine own_st (q' := s₁.setTop (mkF m 3 #[.val (.int x0), .val (.int x1), .unset, .unset, .unset] [(.int (15 : Int32)), (.int x1)])) (fun _ k => XS.bipush X0.here hx rfl (hb hby at_1) k) ?_
  refine own_st (q' := s₁.setTop (mkF m 4 #[.val (.int x0), .val (.int x1), .unset, .unset, .unset] [(.int (x1 &&& (15 : Int32)))])) (fun _ k => XS.iand X0.here hx rfl (hb hby at_3) rfl k) ?_
  refine own_st (q' := s₁.setTop (mkF m 5 #[.val (.int x0), .val (.int x1), .val (.int (x1 &&& (15 : Int32))), .unset, .unset] [])) (fun _ k => XS.istoreN X0.here hx rfl (hb hby at_4) rfl (l' := #[.val (.int x0), .val (.int x1), .val (.int (x1 &&& (15 : Int32))), .unset, .unset]) rfl k) ?_
  refine own_st (q' := s₁.setTop (mkF m 6 #[.val (.int x0), .val (.int x1), .val (.int (x1 &&& (15 : Int32))), .unset, .unset] [(.int x0)])) (fun _ k => XS.iloadN X0.here hx rfl (hb hby at_5) rfl k) ?_
  refine own_st (q' := s₁.setTop (mkF m 8 #[.val (.int x0), .val (.int x1), .val (.int (x1 &&& (15 : Int32))), .unset, .unset] [(.int (16 : Int32)), (.int x0)])) (fun _ k => XS.bipush X0.here hx rfl (hb hby at_6) k) ?_
  refine own_st (q' := s₁.setTop (mkF m 9 #[.val (.int x0), .val (.int x1), .val (.int (x1 &&& (15 : Int32))), .unset, .unset] [(.int (x0 * (16 : Int32)))])) (fun _ k => XS.imul X0.here hx rfl (hb hby at_8) rfl k) ?_
  refine own_st (q' := s₁.setTop (mkF m 10 #[.val (.int x0), .val (.int x1), .val (.int (x1 &&& (15 : Int32))), .unset, .unset] [(.int (x1 &&& (15 : Int32))), (.int (x0 * (16 : Int32)))])) (fun _ k => XS.iloadN X0.here hx rfl (hb hby at_9) rfl k) ?_
  refine own_st (q' := s₁.setTop (mkF m 11 #[.val (.int x0), .val (.int x1), .val (.int (x1 &&& (15 : Int32))), .unset, .unset] [(.int ((x0 * (16 : Int32)) + (x1 &&& (15 : Int32))))])) (fun _ k => XS.iadd X0.here hx rfl (hb hby at_10) rfl k) ?_
  refine own_st (q' := s₁.setTop (mkF m 12 #[.val (.int x0), .val (.int x1), .val (.int (x1 &&& (15 : Int32))), .val (.int ((x0 * (16 : Int32)) + (x1 &&& (15 : Int32)))), .unset] [])) (fun _ k => XS.istoreN X0.here hx rfl (hb hby at_11) rfl (l' := #[.val (.int x0), .val (.int x1), .val (.int (x1 &&& (15 : Int32))), .val (.int ((x0 * (16 : Int32)) + (x1 &&& (15 : Int32)))), .unset]) rfl k) ?_
  refine own_st (q' := s₁.setTop (mkF m 13 #[.val (.int x0), .val (.int x1), .val (.int (x1 &&& (15 : Int32))), .val (.int ((x0 * (16 : Int32)) + (x1 &&& (15 : Int32)))), .unset] [(.int ((x0 * (16 : Int32)) + (x1 &&& (15 : Int32))))])) (fun _ k => XS.iloadN X0.here hx rfl (hb hby at_12) rfl k) ?_
  refine own_callS (y := (⟨"com/example/rock_dove/rockdove/mqi/MQMD", "byteOrder", "(I)Ljava/nio/ByteOrder;"⟩ : MethodName)) X0 hx hZ hown (hw _ (List.mem_of_getElem? (i := 0) rfl)) (hw _ (List.mem_of_getElem? (i := 1) rfl)) (hw _ (List.mem_of_getElem? (i := 2) rfl)) (hw _ (List.mem_of_getElem? (i := 3) rfl)) (by decide) (rm1 l Z a0 hw [] ((x0 * (16 : Int32)) + (x1 &&& (15 : Int32))) le be h0 n0 Z0 S1 S2) e0 (W := 0) (by decide) (by decide) (by decide) (by decide) (g := (mkF m 13 #[.val (.int x0), .val (.int x1), .val (.int (x1 &&& (15 : Int32))), .val (.int ((x0 * (16 : Int32)) + (x1 &&& (15 : Int32)))), .unset] [(.int ((x0 * (16 : Int32)) + (x1 &&& (15 : Int32))))])) rfl (by rw [hml]; rfl) (argsL := [(.int ((x0 * (16 : Int32)) + (x1 &&& (15 : Int32))))]) (rest := []) rfl (lenOf pd_0 rfl) rfl (by show 2 * 0 + _ ≤ _; exact Nat.le_of_eq rfl) (hb hby at_13) ?_
  intro v101 T101 L101 hQ101 X101
  obtain ⟨rfl, NN101, e101⟩ := hQ101
  have N101 := Fr.app N0 NN101
  show own_Dn p e below s (fun v h L => v = some (.int 1) ∧ Fr n0 L) room_1.cells room_1.slots (T101.setTop (mkF m 16 #[.val (.int x0), .val (.int x1), .val (.int (x1 &&& (15 : Int32))), .val (.int ((x0 * (16 : Int32)) + (x1 &&& (15 : Int32)))), .unset] [(.ref (own_bo ((x0 * (16 : Int32)) + (x1 &&& (15 : Int32))) le be))]))
  refine own_st (q' := T101.setTop (mkF m 18 #[.val (.int x0), .val (.int x1), .val (.int (x1 &&& (15 : Int32))), .val (.int ((x0 * (16 : Int32)) + (x1 &&& (15 : Int32)))), .val (.ref (own_bo ((x0 * (16 : Int32)) + (x1 &&& (15 : Int32))) le be))] [])) (fun _ k => XS.astore X101.here hx rfl (hb hby at_16) rfl rfl (l' := #[.val (.int x0), .val (.int x1), .val (.int (x1 &&& (15 : Int32))), .val (.int ((x0 * (16 : Int32)) + (x1 &&& (15 : Int32)))), .val (.ref (own_bo ((x0 * (16 : Int32)) + (x1 &&& (15 : Int32))) le be))]) rfl k) ?_
  refine own_st (q' := T101.setTop (mkF m 19 #[.val (.int x0), .val (.int x1), .val (.int (x1 &&& (15 : Int32))), .val (.int ((x0 * (16 : Int32)) + (x1 &&& (15 : Int32)))), .val (.ref (own_bo ((x0 * (16 : Int32)) + (x1 &&& (15 : Int32))) le be))] [(.int (x1 &&& (15 : Int32)))])) (fun _ k => XS.iloadN X101.here hx rfl (hb hby at_18) rfl k) ?_
  refine own_st (q' := T101.setTop (mkF m 20 #[.val (.int x0), .val (.int x1), .val (.int (x1 &&& (15 : Int32))), .val (.int ((x0 * (16 : Int32)) + (x1 &&& (15 : Int32)))), .val (.ref (own_bo ((x0 * (16 : Int32)) + (x1 &&& (15 : Int32))) le be))] [(.int (2 : Int32)), (.int (x1 &&& (15 : Int32)))])) (fun _ k => XS.iconst X101.here hx rfl (hb hby at_19) k) ?_
  by_cases hc20_102 : (x1 &&& (15 : Int32)) = (2 : Int32)
  · skip
    have hc20_102I : ((x1 &&& (15 : Int32))).toInt = (2 : Int) := own_eqT hc20_102
    refine own_st (q' := T101.setTop (mkF m 23 #[.val (.int x0), .val (.int x1), .val (.int (x1 &&& (15 : Int32))), .val (.int ((x0 * (16 : Int32)) + (x1 &&& (15 : Int32)))), .val (.ref (own_bo ((x0 * (16 : Int32)) + (x1 &&& (15 : Int32))) le be))] [])) (fun _ k => XS.icmpNo X101.here hx rfl (hb hby at_20) rfl (teq hc20_102).2 k) ?_
    refine own_st (q' := T101.setTop (mkF m 25 #[.val (.int x0), .val (.int x1), .val (.int (x1 &&& (15 : Int32))), .val (.int ((x0 * (16 : Int32)) + (x1 &&& (15 : Int32)))), .val (.ref (own_bo ((x0 * (16 : Int32)) + (x1 &&& (15 : Int32))) le be))] [(.ref (own_bo ((x0 * (16 : Int32)) + (x1 &&& (15 : Int32))) le be))])) (fun _ k => XS.aload X101.here hx rfl (hb hby at_23) rfl rfl k) ?_
    obtain ⟨T103, X103, e103, st103⟩ := getS2 X101 hx hZ hown (host := "") (Or.inl (hw _ (List.mem_of_getElem? (i := 8) rfl))) Via.refl e101 S1 (g := (mkF m 25 #[.val (.int x0), .val (.int x1), .val (.int (x1 &&& (15 : Int32))), .val (.int ((x0 * (16 : Int32)) + (x1 &&& (15 : Int32)))), .val (.ref (own_bo ((x0 * (16 : Int32)) + (x1 &&& (15 : Int32))) le be))] [(.ref (own_bo ((x0 * (16 : Int32)) + (x1 &&& (15 : Int32))) le be))])) rfl (hb hby at_25)
    refine own_st (q' := T103.setTop (mkF m 28 #[.val (.int x0), .val (.int x1), .val (.int (x1 &&& (15 : Int32))), .val (.int ((x0 * (16 : Int32)) + (x1 &&& (15 : Int32)))), .val (.ref (own_bo ((x0 * (16 : Int32)) + (x1 &&& (15 : Int32))) le be))] [(.ref le), (.ref (own_bo ((x0 * (16 : Int32)) + (x1 &&& (15 : Int32))) le be))])) st103 ?_
    refine own_st (q' := T103.setTop (mkF m 31 #[.val (.int x0), .val (.int x1), .val (.int (x1 &&& (15 : Int32))), .val (.int ((x0 * (16 : Int32)) + (x1 &&& (15 : Int32)))), .val (.ref (own_bo ((x0 * (16 : Int32)) + (x1 &&& (15 : Int32))) le be))] [])) (fun _ k => Jvm.RoadKit.acmp (g := (mkF m 28 #[.val (.int x0), .val (.int x1), .val (.int (x1 &&& (15 : Int32))), .val (.int ((x0 * (16 : Int32)) + (x1 &&& (15 : Int32)))), .val (.ref (own_bo ((x0 * (16 : Int32)) + (x1 &&& (15 : Int32))) le be))] [(.ref le), (.ref (own_bo ((x0 * (16 : Int32)) + (x1 &&& (15 : Int32))) le be))])) X103 hx rfl rfl rfl (pc0 := 28) (pc' := 31) (same := true) rfl (hb hby at_28) rfl (decide_eq_true (by unfold own_bo; rw [own_low, if_pos hc20_102])) (by decide) (by decide) k) ?_
    refine own_st (q' := T103.setTop (mkF m 32 #[.val (.int x0), .val (.int x1), .val (.int (x1 &&& (15 : Int32))), .val (.int ((x0 * (16 : Int32)) + (x1 &&& (15 : Int32)))), .val (.ref (own_bo ((x0 * (16 : Int32)) + (x1 &&& (15 : Int32))) le be))] [(.int (1 : Int32))])) (fun _ k => XS.iconst X103.here hx rfl (hb hby at_31) k) ?_
    refine own_st (q' := T103.setTop (mkF m 36 #[.val (.int x0), .val (.int x1), .val (.int (x1 &&& (15 : Int32))), .val (.int ((x0 * (16 : Int32)) + (x1 &&& (15 : Int32)))), .val (.ref (own_bo ((x0 * (16 : Int32)) + (x1 &&& (15 : Int32))) le be))] [(.int (1 : Int32))])) (fun _ k => XS.goto X103.here hx rfl (pc0 := 32) (pc' := 36) rfl (hb hby at_32) (by decide) (by decide) k) ?_
    exact own_retN X103 hx hlk (t := .boolean) hret (by simp) (hb hby at_36) e103 (by exact ⟨rfl, N101⟩) (by decide) (by decide)
  · skip
    have hc20_102I : ¬ ((x1 &&& (15 : Int32))).toInt = (2 : Int) := own_eqF hc20_102
    refine own_st (q' := T101.setTop (mkF m 37 #[.val (.int x0), .val (.int x1), .val (.int (x1 &&& (15 : Int32))), .val (.int ((x0 * (16 : Int32)) + (x1 &&& (15 : Int32)))), .val (.ref (own_bo ((x0 * (16 : Int32)) + (x1 &&& (15 : Int32))) le be))] [])) (fun _ k => XS.icmpYes X101.here hx rfl (pc0 := 20) (pc' := 37) rfl (hb hby at_20) rfl (feq hc20_102).2 (by decide) (by decide) k) ?_
    refine own_st (q' := T101.setTop (mkF m 39 #[.val (.int x0), .val (.int x1), .val (.int (x1 &&& (15 : Int32))), .val (.int ((x0 * (16 : Int32)) + (x1 &&& (15 : Int32)))), .val (.ref (own_bo ((x0 * (16 : Int32)) + (x1 &&& (15 : Int32))) le be))] [(.ref (own_bo ((x0 * (16 : Int32)) + (x1 &&& (15 : Int32))) le be))])) (fun _ k => XS.aload X101.here hx rfl (hb hby at_37) rfl rfl k) ?_
    obtain ⟨T104, X104, e104, st104⟩ := getS2 X101 hx hZ hown (host := "") (Or.inl (hw _ (List.mem_of_getElem? (i := 6) rfl))) Via.refl e101 S2 (g := (mkF m 39 #[.val (.int x0), .val (.int x1), .val (.int (x1 &&& (15 : Int32))), .val (.int ((x0 * (16 : Int32)) + (x1 &&& (15 : Int32)))), .val (.ref (own_bo ((x0 * (16 : Int32)) + (x1 &&& (15 : Int32))) le be))] [(.ref (own_bo ((x0 * (16 : Int32)) + (x1 &&& (15 : Int32))) le be))])) rfl (hb hby at_39)
    refine own_st (q' := T104.setTop (mkF m 42 #[.val (.int x0), .val (.int x1), .val (.int (x1 &&& (15 : Int32))), .val (.int ((x0 * (16 : Int32)) + (x1 &&& (15 : Int32)))), .val (.ref (own_bo ((x0 * (16 : Int32)) + (x1 &&& (15 : Int32))) le be))] [(.ref be), (.ref (own_bo ((x0 * (16 : Int32)) + (x1 &&& (15 : Int32))) le be))])) st104 ?_
    refine own_st (q' := T104.setTop (mkF m 45 #[.val (.int x0), .val (.int x1), .val (.int (x1 &&& (15 : Int32))), .val (.int ((x0 * (16 : Int32)) + (x1 &&& (15 : Int32)))), .val (.ref (own_bo ((x0 * (16 : Int32)) + (x1 &&& (15 : Int32))) le be))] [])) (fun _ k => Jvm.RoadKit.acmp (g := (mkF m 42 #[.val (.int x0), .val (.int x1), .val (.int (x1 &&& (15 : Int32))), .val (.int ((x0 * (16 : Int32)) + (x1 &&& (15 : Int32)))), .val (.ref (own_bo ((x0 * (16 : Int32)) + (x1 &&& (15 : Int32))) le be))] [(.ref be), (.ref (own_bo ((x0 * (16 : Int32)) + (x1 &&& (15 : Int32))) le be))])) X104 hx rfl rfl rfl (pc0 := 42) (pc' := 45) (same := true) rfl (hb hby at_42) rfl (decide_eq_true (by unfold own_bo; rw [own_low, if_neg hc20_102])) (by decide) (by decide) k) ?_
    refine own_st (q' := T104.setTop (mkF m 46 #[.val (.int x0), .val (.int x1), .val (.int (x1 &&& (15 : Int32))), .val (.int ((x0 * (16 : Int32)) + (x1 &&& (15 : Int32)))), .val (.ref (own_bo ((x0 * (16 : Int32)) + (x1 &&& (15 : Int32))) le be))] [(.int (1 : Int32))])) (fun _ k => XS.iconst X104.here hx rfl (hb hby at_45) k) ?_
    refine own_st (q' := T104.setTop (mkF m 50 #[.val (.int x0), .val (.int x1), .val (.int (x1 &&& (15 : Int32))), .val (.int ((x0 * (16 : Int32)) + (x1 &&& (15 : Int32)))), .val (.ref (own_bo ((x0 * (16 : Int32)) + (x1 &&& (15 : Int32))) le be))] [(.int (1 : Int32))])) (fun _ k => XS.goto X104.here hx rfl (pc0 := 46) (pc' := 50) rfl (hb hby at_46) (by decide) (by decide) k) ?_
    exact own_retN X104 hx hlk (t := .boolean) hret (by simp) (hb hby at_50) e104 (by exact ⟨rfl, N101⟩) (by decide) (by decide)
set_option maxRecDepth 65536 in
set_option maxHeartbeats 40000000 in
theorem comes_1 {Post : Tables → Env → Array Value → State → Outcome → State → Prop} (hpost : ∀ tb e args s v u, (limb_1_1.after args s (.returned v) u = true ∧ limb_1_2.after args s (.returned v) u = true ∧ True) → FrameEnd s (.returned v) u (Jvm.fieldLocs frame_1_writes args s ++ Jvm.arrayLocs frame_1_arrays args s ++ Jvm.staticLocs frame_1_statics s) 0 0 → Post tb e args s (.returned v) u) :
    ArmFor flags0 classFile x code maxLocals ret World_1 tables_1 room_1 Calls_1 rest_1 Pre_1 Post := by
  intro l hfl _ _ p e ha hc hk s m args below hf hA hF happ hP
  obtain ⟨hcalls, hrest, hpre⟩ := hP
  obtain ⟨-, -, -, hnamed, -, -, -, hat⟩ := (Spec.applies_iff hf).mp happ
  obtain ⟨hg, hn⟩ := and_e (Cond.before_iff.mp (show (Jvm.Cond.and given_1 narrow_1).before args s = true from hpre))
  obtain ⟨hcount, g0⟩ := and_e hg
  obtain ⟨hi0, g1⟩ := and_e g0
  have hi1 := g1
  obtain ⟨w0, w1, rfl⟩ : ∃ w0 w1 : Value, args = #[w0, w1] := by
    have hs : args.size = 2 := by simpa [Cond.value, given_1] using hcount
    obtain ⟨L⟩ := args
    match L, hs with
    | [w0, w1], _ => exact ⟨w0, w1, rfl⟩
  have hw := fun d (hd : d ∈ tables_1) => atoms_spec (ws := Jvm.Cond.code x code maxLocals ret :: tables_1) hat d (List.mem_cons_of_mem _ hd)
  have hfit : Fit s := fun {y c} hc i hi => by
    obtain ⟨ha, rfl⟩ := Array.getElem?_eq_some_iff.mp hc
    have q := List.all_eq_true.mp ((Array.all_eq_true_iff_forall_mem.mp hF) _ (Array.getElem_mem ha)) i (List.mem_range.mpr hi)
    simpa [Array.getElem?_eq_getElem hi] using q
  obtain ⟨hsets, hown0⟩ := atoms_of _ (rest_1_c_eq ▸ (show rest_1_c.before _ s = true from hrest))
  have hr0 := Cond.before_iff.mp hown0
  obtain ⟨i0, ei0⟩ := is_v hi0
  obtain rfl : w0 = (.int i0) := Option.some.inj ei0
  obtain ⟨i1, ei1⟩ := is_v hi1
  obtain rfl : w1 = (.int i1) := Option.some.inj ei1
  obtain ⟨be, ebe⟩ := exa_v (Cond.before_iff.mp (hsets _ (List.mem_of_getElem? (i := 2) rfl)))
  have Sbe := Sta.start ebe (Or.inl (hsets _ (List.mem_of_getElem? (i := 1) rfl)))
  obtain ⟨le, ele⟩ := exa_v (Cond.before_iff.mp (hsets _ (List.mem_of_getElem? (i := 6) rfl)))
  have Sle := Sta.start ele (Or.inl (hsets _ (List.mem_of_getElem? (i := 5) rfl)))
  obtain ⟨n, o, h1, h2, h3, _, L, rfl, ⟨rfl, N⟩, hq⟩ := rm0 l s _ hw tables_1 i0 i1 le be s.heap s.heap.size (Nat.le_refl _) Sle Sbe p e ha hc hk s m _ below hf ((Spec.applies_iff_loose hf).mp happ).1 ⟨rfl, State.Warmed39.refl s, rfl⟩ trivial
  refine ⟨n, _, h1, h2, h3, hpost _ _ _ _ _ _ ⟨Cond.after_iff.mpr rfl, Cond.after_iff.mpr (eq_i res_at (Term.int_eval (1)) rfl), trivial⟩ ⟨hq.1, hq.2.1, (hq.2.2.sift fun y hy => Or.inr (N y hy)).mono (by decide) (by decide)⟩⟩
theorem main_1_1 : Claimed_1_1 := comes_1 fun _ _ _ _ _ _ h hF => ⟨h.1, hF⟩
theorem main_1_2 : Claimed_1_2 := comes_1 fun _ _ _ _ _ _ h hF => ⟨h.2.1, hF⟩
end Jvm.Pilot.@@N@@
namespace Jvm.Pilot.@@N@@
open Jvm Jvm.ClassFile Sem Op Lib Jvm.Free Jvm.Stand Jvm.Pilot.@@N@@.Jvm.D
/-! MADE BY PROGRAM (witnessworld.py) out of the Statement's table words and the real class files: 15 classes; the members and pool entries that the words name. The judged class is class 1, her method 1. -/
namespace start1
open Jvm.ClassFile
def u (s : String) : CpInfo := .utf8 (stringToUtf16 s)
/-- a pool by its gaps: so many unusable entries, then the entry; so many at the end -/
def gap : Nat → List CpInfo → List CpInfo
  | 0, r => r
  | n + 1, r => .unusable :: gap n r
def poolList (es : List (Nat × CpInfo)) (last : Nat) : List CpInfo := es.foldr (fun e r => gap e.1 (e.2 :: r)) (gap last [])
def pool (es : List (Nat × CpInfo)) (last : Nat) : Array CpInfo := ⟨poolList es last⟩
def fileOf (pool : Array CpInfo) (this : Nat) (attrs : Array Attribute := #[]) (ms : Array MethodInfo := #[]) (fl : Nat := 33) (sup : Nat := 0) (ifs : Array Nat := #[]) (fds : Array FieldInfo := #[]) : ClassFile where
  minorVersion := 0
  majorVersion := 65
  constantPool := pool
  accessFlags := fl
  thisClass := this
  superClass := sup
  interfaces := ifs
  fields := fds
  methods := ms
  attributes := attrs
def plain (name : String) (sup : Option ClassId) : Class where
  name := name
  kind := .ordinary
  loader := none
  accessFlags := 33
  super := sup
  interfaces := #[]
  cf := none
  fields := #[]
  methods := #[]
  instanceTypes := #[]
  staticTypes := #[]
  resolved := #[]
  callSites := []
  init := .initialized
  statics := none
  mirror := none

def pool0 : Array CpInfo := pool [(5, u "<init>"), (0, u "()V"), (1, .class_ 10), (1, u "java/lang/Object")] 113

def k0m0 : Method := { name := "<init>", desc := "()V", sig := { parameters := [], returnType := none }, accessFlags := 1, code := none }
/-- java/lang/Object -/
def k0 : Class := { plain "java/lang/Object" none with
  accessFlags := 33
  interfaces := #[]
  cf := some (fileOf pool0 8 #[] #[{ accessFlags := 1, nameIndex := 5, descriptorIndex := 6, attributes := #[] }] 33 0 #[] #[])
  fields := #[]
  methods := #[k0m0]
  instanceTypes := #[]
  staticTypes := #[]
  resolved := Array.replicate 124 none
  statics := none }

def pool1 : Array CpInfo := pool [(2, .class_ 4), (1, u "java/lang/Object"), (0, u "<init>"), (0, u "()V"), (0, .methodref 8 9), (0, .class_ 10), (0, .nameAndType 11 12), (0, u "com/example/rock_dove/rockdove/mqi/MQMD"), (0, u "byteOrder"), (0, u "(I)Ljava/nio/ByteOrder;"), (0, .fieldref 14 15), (0, .class_ 16), (0, .nameAndType 17 18), (0, u "java/nio/ByteOrder"), (0, u "LITTLE_ENDIAN"), (0, u "Ljava/nio/ByteOrder;"), (0, .fieldref 14 20), (0, .nameAndType 21 18), (0, u "BIG_ENDIAN"), (0, .class_ 23), (0, u "com/example/rock_dove/rockdove/mqi/MQMDByteOrderPinLaw"), (2, u "law"), (0, u "(II)Z")] 3

def k1m0 : Method := { name := "<init>", desc := "()V", sig := { parameters := [], returnType := none }, accessFlags := 2, code := none }
def k1c1 : Code := { maxStack := 2, maxLocals := 5, code := code, exceptionTable := #[], attributes := #[] }
def k1m1 : Method := { name := "law", desc := "(II)Z", sig := { parameters := [.int, .int], returnType := some .boolean }, accessFlags := 9, code := some k1c1 }
/-- com/example/rock_dove/rockdove/mqi/MQMDByteOrderPinLaw -/
def k1 : Class := { plain "com/example/rock_dove/rockdove/mqi/MQMDByteOrderPinLaw" (some 0) with
  accessFlags := 49
  interfaces := #[]
  cf := some (fileOf pool1 22 #[] #[{ accessFlags := 2, nameIndex := 5, descriptorIndex := 6, attributes := #[] }, { accessFlags := 9, nameIndex := 26, descriptorIndex := 27, attributes := #[] }] 49 2 #[] #[])
  fields := #[]
  methods := #[k1m0, k1m1]
  instanceTypes := #[]
  staticTypes := #[]
  resolved := Array.replicate 31 none
  statics := none }

def pool2 : Array CpInfo := pool [(4, .class_ 6), (1, u "java/lang/Object"), (0, u "<init>"), (0, u "()V"), (1, .class_ 12), (1, u "com/example/rock_dove/rockdove/mqi/MQMD"), (0, u "INITIAL"), (0, u "[B"), (7, u "image"), (8, u "numbers"), (0, u "Ljava/nio/ByteBuffer;"), (5, .class_ 40), (1, u "com/example/rock_dove/rockdove/mqi/MQMD$Field"), (7, .class_ 50), (1, u "com/example/rock_dove/rockdove/mqi/MQMD$Kind"), (4, u "I"), (44, .fieldref 101 102), (0, .class_ 103), (0, .nameAndType 104 105), (0, u "java/nio/ByteOrder"), (0, u "LITTLE_ENDIAN"), (0, u "Ljava/nio/ByteOrder;"), (0, .fieldref 101 107), (0, .nameAndType 108 105), (0, u "BIG_ENDIAN"), (6, u "STRUC_ID"), (32, u "NUMBERS"), (0, u "[Lcom/example/rock_dove/rockdove/mqi/MQMD$Field;"), (174, u "VERSION_1"), (2, u "VERSION_2"), (1, u "VERSION_1_LENGTH"), (1, u "VERSION_2_LENGTH"), (1, u "NATIVE_ENCODING"), (1, u "INTEGER_ENCODING"), (4, u "byteOrder"), (0, u "(I)Ljava/nio/ByteOrder;")] 88

def k2m0 : Method := { name := "<init>", desc := "()V", sig := { parameters := [], returnType := none }, accessFlags := 1, code := none }
def k2c1 : Code := { maxStack := 2, maxLocals := 1, code := prog_40_method_4_code, exceptionTable := #[], attributes := #[] }
def k2m1 : Method := { name := "byteOrder", desc := "(I)Ljava/nio/ByteOrder;", sig := { parameters := [.int], returnType := some (.object "java/nio/ByteOrder") }, accessFlags := 9, code := some k2c1 }
/-- com/example/rock_dove/rockdove/mqi/MQMD -/
def k2 : Class := { plain "com/example/rock_dove/rockdove/mqi/MQMD" (some 0) with
  accessFlags := 49
  interfaces := #[]
  cf := some (fileOf pool2 10 #[.nestMembers #[38, 48]] #[{ accessFlags := 1, nameIndex := 7, descriptorIndex := 8, attributes := #[] }, { accessFlags := 9, nameIndex := 340, descriptorIndex := 341, attributes := #[] }] 49 4 #[] #[{ accessFlags := 25, nameIndex := 324, descriptorIndex := 55, attributes := #[] }, { accessFlags := 25, nameIndex := 327, descriptorIndex := 55, attributes := #[] }, { accessFlags := 25, nameIndex := 329, descriptorIndex := 55, attributes := #[] }, { accessFlags := 25, nameIndex := 331, descriptorIndex := 55, attributes := #[] }, { accessFlags := 25, nameIndex := 333, descriptorIndex := 55, attributes := #[] }, { accessFlags := 26, nameIndex := 115, descriptorIndex := 14, attributes := #[] }, { accessFlags := 26, nameIndex := 335, descriptorIndex := 55, attributes := #[] }, { accessFlags := 26, nameIndex := 13, descriptorIndex := 14, attributes := #[] }, { accessFlags := 26, nameIndex := 148, descriptorIndex := 149, attributes := #[] }, { accessFlags := 18, nameIndex := 22, descriptorIndex := 14, attributes := #[] }, { accessFlags := 18, nameIndex := 31, descriptorIndex := 32, attributes := #[] }])
  fields := #[{ name := "VERSION_1", type := .int, accessFlags := 25, slot := 0, constantValue := 0 }, { name := "VERSION_2", type := .int, accessFlags := 25, slot := 1, constantValue := 0 }, { name := "VERSION_1_LENGTH", type := .int, accessFlags := 25, slot := 2, constantValue := 0 }, { name := "VERSION_2_LENGTH", type := .int, accessFlags := 25, slot := 3, constantValue := 0 }, { name := "NATIVE_ENCODING", type := .int, accessFlags := 25, slot := 4, constantValue := 0 }, { name := "STRUC_ID", type := (.array .byte), accessFlags := 26, slot := 5, constantValue := 0 }, { name := "INTEGER_ENCODING", type := .int, accessFlags := 26, slot := 6, constantValue := 0 }, { name := "INITIAL", type := (.array .byte), accessFlags := 26, slot := 7, constantValue := 0 }, { name := "NUMBERS", type := (.array (.object "com/example/rock_dove/rockdove/mqi/MQMD$Field")), accessFlags := 26, slot := 8, constantValue := 0 }, { name := "image", type := (.array .byte), accessFlags := 18, slot := 0, constantValue := 0 }, { name := "numbers", type := (.object "java/nio/ByteBuffer"), accessFlags := 18, slot := 1, constantValue := 0 }]
  methods := #[k2m0, k2m1]
  instanceTypes := #[(.array .byte), (.object "java/nio/ByteBuffer")]
  staticTypes := #[.int, .int, .int, .int, .int, (.array .byte), .int, (.array .byte), (.array (.object "com/example/rock_dove/rockdove/mqi/MQMD$Field"))]
  resolved := Array.replicate 430 none
  statics := none }

def pool3 : Array CpInfo := pool [(2, .class_ 4), (1, u "java/lang/Object"), (3, .class_ 10), (1, u "java/nio/ByteOrder"), (0, u "name"), (0, u "Ljava/lang/String;"), (2, u "NATIVE_ORDER"), (0, u "Ljava/nio/ByteOrder;"), (1, u "BIG_ENDIAN"), (6, u "LITTLE_ENDIAN")] 24

/-- java/nio/ByteOrder -/
def k3 : Class := { plain "java/nio/ByteOrder" (some 0) with
  accessFlags := 49
  interfaces := #[]
  cf := some (fileOf pool3 8 #[] #[] 49 2 #[] #[{ accessFlags := 18, nameIndex := 11, descriptorIndex := 12, attributes := #[] }, { accessFlags := 25, nameIndex := 18, descriptorIndex := 16, attributes := #[] }, { accessFlags := 25, nameIndex := 25, descriptorIndex := 16, attributes := #[] }, { accessFlags := 26, nameIndex := 15, descriptorIndex := 16, attributes := #[] }])
  fields := #[{ name := "name", type := (.object "java/lang/String"), accessFlags := 18, slot := 0, constantValue := 0 }, { name := "BIG_ENDIAN", type := (.object "java/nio/ByteOrder"), accessFlags := 25, slot := 0, constantValue := 0 }, { name := "LITTLE_ENDIAN", type := (.object "java/nio/ByteOrder"), accessFlags := 25, slot := 1, constantValue := 0 }, { name := "NATIVE_ORDER", type := (.object "java/nio/ByteOrder"), accessFlags := 26, slot := 2, constantValue := 0 }]
  methods := #[]
  instanceTypes := #[(.object "java/lang/String")]
  staticTypes := #[(.object "java/nio/ByteOrder"), (.object "java/nio/ByteOrder"), (.object "java/nio/ByteOrder")]
  resolved := Array.replicate 50 none
  statics := some 0 }

def pool4 : Array CpInfo := pool [(1, .class_ 2), (0, u "java/io/Serializable"), (0, .class_ 4), (0, u "java/lang/Object")] 2

/-- java/io/Serializable -/
def k4 : Class := { plain "java/io/Serializable" (some 0) with
  accessFlags := 1537
  interfaces := #[]
  cf := some (fileOf pool4 1 #[] #[] 1537 3 #[] #[])
  fields := #[]
  methods := #[]
  instanceTypes := #[]
  staticTypes := #[]
  resolved := Array.replicate 7 none
  statics := none }

def pool5 : Array CpInfo := pool [(1, .class_ 2), (0, u "java/lang/Comparable"), (0, .class_ 4), (0, u "java/lang/Object")] 7

/-- java/lang/Comparable -/
def k5 : Class := { plain "java/lang/Comparable" (some 0) with
  accessFlags := 1537
  interfaces := #[]
  cf := some (fileOf pool5 1 #[] #[] 1537 3 #[] #[])
  fields := #[]
  methods := #[]
  instanceTypes := #[]
  staticTypes := #[]
  resolved := Array.replicate 12 none
  statics := none }

def pool6 : Array CpInfo := pool [(2, .class_ 4), (1, u "java/lang/CharSequence"), (42, .class_ 48), (0, u "java/lang/CharSequence$1CodePointIterator"), (10, .class_ 60), (0, u "java/lang/CharSequence$1CharIterator"), (5, .class_ 67), (0, u "java/lang/Object")] 63

/-- java/lang/CharSequence -/
def k6 : Class := { plain "java/lang/CharSequence" (some 0) with
  accessFlags := 1537
  interfaces := #[]
  cf := some (fileOf pool6 2 #[.nestMembers #[47, 59]] #[] 1537 66 #[] #[])
  fields := #[]
  methods := #[]
  instanceTypes := #[]
  staticTypes := #[]
  resolved := Array.replicate 131 none
  statics := none }

def pool7 : Array CpInfo := pool [(1, .class_ 2), (0, u "java/lang/constant/Constable"), (0, .class_ 4), (0, u "java/lang/Object")] 6

/-- java/lang/constant/Constable -/
def k7 : Class := { plain "java/lang/constant/Constable" (some 0) with
  accessFlags := 1537
  interfaces := #[]
  cf := some (fileOf pool7 1 #[] #[] 1537 3 #[] #[])
  fields := #[]
  methods := #[]
  instanceTypes := #[]
  staticTypes := #[]
  resolved := Array.replicate 11 none
  statics := none }

def pool8 : Array CpInfo := pool [(1, .class_ 2), (0, u "java/lang/constant/ConstantDesc"), (0, .class_ 4), (0, u "java/lang/Object")] 32

/-- java/lang/constant/ConstantDesc -/
def k8 : Class := { plain "java/lang/constant/ConstantDesc" (some 0) with
  accessFlags := 1537
  interfaces := #[]
  cf := some (fileOf pool8 1 #[] #[] 1537 3 #[] #[])
  fields := #[]
  methods := #[]
  instanceTypes := #[]
  staticTypes := #[]
  resolved := Array.replicate 37 none
  statics := none }

def pool9 : Array CpInfo := pool [(2, .class_ 4), (1, u "java/lang/Object"), (0, u "<init>"), (0, u "()V"), (3, .class_ 12), (1, u "java/lang/String"), (0, u "value"), (0, u "[B"), (2, u "coder"), (0, u "B"), (2, u "hash"), (0, u "I"), (2, u "hashIsZero"), (0, u "Z"), (13, u "COMPACT_STRINGS"), (534, .class_ 576), (0, u "java/lang/CharSequence"), (22, u "CASE_INSENSITIVE_ORDER"), (0, u "Ljava/util/Comparator;"), (500, u "serialPersistentFields"), (0, u "[Ljava/io/ObjectStreamField;"), (0, .class_ 1104), (0, u "java/lang/String$CaseInsensitiveComparator"), (1, .class_ 1107), (0, u "java/io/Serializable"), (0, .class_ 1109), (0, u "java/lang/Comparable"), (0, .class_ 1111), (0, u "java/lang/constant/Constable"), (0, .class_ 1113), (0, u "java/lang/constant/ConstantDesc"), (2, u "serialVersionUID"), (0, u "J"), (3, u "REPL"), (0, u "C"), (2, u "LATIN1"), (1, u "UTF16")] 323

def k9m0 : Method := { name := "<init>", desc := "()V", sig := { parameters := [], returnType := none }, accessFlags := 1, code := none }
/-- java/lang/String -/
def k9 : Class := { plain "java/lang/String" (some 0) with
  accessFlags := 49
  interfaces := #[4, 5, 6, 7, 8]
  cf := some (fileOf pool9 10 #[.nestMembers #[1103]] #[{ accessFlags := 1, nameIndex := 5, descriptorIndex := 6, attributes := #[] }] 49 2 #[1106, 1108, 575, 1110, 1112] #[{ accessFlags := 18, nameIndex := 13, descriptorIndex := 14, attributes := #[] }, { accessFlags := 18, nameIndex := 17, descriptorIndex := 18, attributes := #[] }, { accessFlags := 2, nameIndex := 21, descriptorIndex := 22, attributes := #[] }, { accessFlags := 2, nameIndex := 25, descriptorIndex := 26, attributes := #[] }, { accessFlags := 26, nameIndex := 1116, descriptorIndex := 1117, attributes := #[] }, { accessFlags := 24, nameIndex := 40, descriptorIndex := 26, attributes := #[] }, { accessFlags := 26, nameIndex := 1101, descriptorIndex := 1102, attributes := #[] }, { accessFlags := 26, nameIndex := 1121, descriptorIndex := 1122, attributes := #[] }, { accessFlags := 25, nameIndex := 599, descriptorIndex := 600, attributes := #[] }, { accessFlags := 24, nameIndex := 1125, descriptorIndex := 18, attributes := #[] }, { accessFlags := 24, nameIndex := 1127, descriptorIndex := 18, attributes := #[] }])
  fields := #[{ name := "value", type := (.array .byte), accessFlags := 18, slot := 0, constantValue := 0 }, { name := "coder", type := .byte, accessFlags := 18, slot := 1, constantValue := 0 }, { name := "hash", type := .int, accessFlags := 2, slot := 2, constantValue := 0 }, { name := "hashIsZero", type := .boolean, accessFlags := 2, slot := 3, constantValue := 0 }, { name := "serialVersionUID", type := .long, accessFlags := 26, slot := 0, constantValue := 0 }, { name := "COMPACT_STRINGS", type := .boolean, accessFlags := 24, slot := 1, constantValue := 0 }, { name := "serialPersistentFields", type := (.array (.object "java/io/ObjectStreamField")), accessFlags := 26, slot := 2, constantValue := 0 }, { name := "REPL", type := .char, accessFlags := 26, slot := 3, constantValue := 0 }, { name := "CASE_INSENSITIVE_ORDER", type := (.object "java/util/Comparator"), accessFlags := 25, slot := 4, constantValue := 0 }, { name := "LATIN1", type := .byte, accessFlags := 24, slot := 5, constantValue := 0 }, { name := "UTF16", type := .byte, accessFlags := 24, slot := 6, constantValue := 0 }]
  methods := #[k9m0]
  instanceTypes := #[(.array .byte), .byte, .int, .boolean]
  staticTypes := #[.long, .boolean, (.array (.object "java/io/ObjectStreamField")), .char, (.object "java/util/Comparator"), .byte, .byte]
  resolved := Array.replicate 1451 none
  statics := none }

def pool10 : Array CpInfo := pool [(1, u "java/lang/Cloneable"), (0, .class_ 1), (0, u "java/lang/Object"), (0, .class_ 3)] 3

/-- java/lang/Cloneable -/
def k10 : Class := { plain "java/lang/Cloneable" (some 0) with
  accessFlags := 1537
  interfaces := #[]
  cf := some (fileOf pool10 2 #[] #[] 1537 4 #[] #[])
  fields := #[]
  methods := #[]
  instanceTypes := #[]
  staticTypes := #[]
  resolved := Array.replicate 8 none
  statics := none }

/-- the primitive byte -/
def k11 : Class := { plain "byte" none with kind := .primitive 'B', accessFlags := 0x411 }
/-- [B -/
def k12 : Class := { plain "[B" (some 0) with kind := .array 11 .byte, interfaces := #[10, 4], accessFlags := 1041 }

/-- the primitive int -/
def k13 : Class := { plain "int" none with kind := .primitive 'I', accessFlags := 0x411 }
/-- [I -/
def k14 : Class := { plain "[I" (some 0) with kind := .array 13 .int, interfaces := #[10, 4], accessFlags := 1041 }

def heap : Heap := #[{ cls := 3, slots := #[.ref 2, .ref 3, .null], vm := .statics 3 },
  { cls := 9, slots := #[.null, .int 0, .int 0, .int 0], vm := .none },
  { cls := 3, slots := #[.ref 1], vm := .none },
  { cls := 3, slots := #[.ref 1], vm := .none }]
def classes : Array Class := #[k0, k1, k2, k3, k4, k5, k6, k7, k8, k9, k10, k11, k12, k13, k14]
def interned : List (Array UInt16 × Addr) := []
def slotsUsed : Nat := 9
def theMethod : MethodId := ⟨1, 1⟩
def args0 : Array Value := #[.int 5, .int 7]
def aboutOver (below : List Frame) : State where
  vm := { classes := classes, interned := interned.toArray }
  heap := heap
  slotsUsed := slotsUsed
  threads := #[{ frames := .invoking theMethod args0 :: below }]
def below0 : List Frame := [.native { method := ⟨0, 0⟩, args := #[] }]
def about1 : State := aboutOver below0
def p0 : Program := .bare "" "" ""
def e0 : Env := launch0.env 0 0 0
theorem w_frames : about1.frames = Frame.invoking theMethod args0 :: below0 := rfl
set_option maxRecDepth 65536 in
theorem w_args : argsFit about1.vm theMethod args0 = true := by decide +kernel
set_option maxRecDepth 65536 in
theorem w_heap : heapFits about1 = true := by decide +kernel
set_option maxRecDepth 65536 in
theorem w_runnable : about1.curStatus? = some .runnable := by decide +kernel
set_option maxRecDepth 65536 in
theorem w_alone : about1.alone = true := by decide +kernel
set_option maxRecDepth 65536 in
theorem w_named : about1.methodNamed? x = some theMethod := by decide +kernel
set_option maxRecDepth 65536 in
theorem w_hears : about1.hears theMethod below0 = true := by decide +kernel
set_option maxRecDepth 65536 in
theorem w_ripe : about1.ripe theMethod args0 below0 = true := by decide +kernel
theorem w_running : about1.status = .running := rfl
set_option maxRecDepth 65536 in
theorem w_room : about1.hasRoom e0.platform room_1 = true :=
  launch0.hasRoom_least _ room_1 (by decide +kernel) (by decide +kernel) (by decide +kernel) (by decide +kernel) (by decide +kernel) (by decide +kernel)
theorem allAtoms_all (ts : List Jvm.Cond) (a : Array Jvm.Value) (st : Jvm.State) : (allAtoms ts).before a st = ts.all (fun c => c.before a st) := by
  induction ts with
  | nil => rfl
  | cons c t ih =>
    show (Jvm.Cond.and c (allAtoms t)).before a st = _
    rw [Jvm.Cond.before_and, ih, List.all_cons]
def words1 : List Jvm.Cond := Jvm.Cond.code x code maxLocals ret :: tables_1
/-- a 'code' word, met by the world's own term for the bytes: nothing is compared byte by byte -/
theorem code_word {y : MethodName} {bytes : ByteArray} {mx : Nat} {rt : Option FieldType} {a : Array Value} {s : State} {m : MethodId} {meth : Method} {c : Code} (h1 : s.methodNamed? y = some m) (h2 : s.vm.method? m = some meth) (h3 : meth.code = some c) (h4 : c.code = bytes)
    (h5 : (c.maxLocals == mx && c.exceptionTable.isEmpty && decide (c.maxStack ≤ mostOperands) && decide (meth.sig.returnType = rt) && !meth.locks && decide (parseMethodDescriptor y.desc = some meth.sig)) = true) : (Jvm.Cond.code y bytes mx rt).before a s = true := by
  simp only [Bool.and_eq_true, beq_iff_eq, Bool.not_eq_true', decide_eq_true_eq] at h5
  obtain ⟨⟨⟨⟨⟨g1, g2⟩, g3⟩, g4⟩, g5⟩, g6⟩ := h5
  simp [Cond.before, Cond.holds, Cond.value, h1, h2, h3, h4, g1, g2, g3, g4, g5, g6]
def isCode : Jvm.Cond → Bool
  | .code _ _ _ _ => true
  | _ => false
theorem all_split {L : List Jvm.Cond} {P : Jvm.Cond → Bool} (h1 : L.all (fun c => isCode c || P c) = true) (h2 : ∀ c ∈ L.filter isCode, P c = true) : L.all P = true := by
  refine List.all_eq_true.mpr fun c hc => ?_
  have h := List.all_eq_true.mp h1 c hc
  rcases Bool.eq_false_or_eq_true (isCode c) with hi | hi
  · exact h2 c (List.mem_filter.mpr ⟨hc, hi⟩)
  · simpa [hi] using h
set_option maxRecDepth 65536 in
theorem w_c0 : (Jvm.Cond.code x code maxLocals ret).before args0 about1 = true := code_word (m := ⟨1, 1⟩) (meth := k1m1) (c := k1c1) (by decide +kernel) rfl rfl rfl (by decide +kernel)
set_option maxRecDepth 65536 in
theorem w_c1 : (Jvm.Cond.code ({ cls := "com/example/rock_dove/rockdove/mqi/MQMD", name := "byteOrder", desc := "(I)Ljava/nio/ByteOrder;" } : Jvm.MethodName) prog_40_method_4_code (1 : Nat) (Option.some (Jvm.ClassFile.FieldType.object "java/nio/ByteOrder"))).before args0 about1 = true := code_word (m := ⟨2, 1⟩) (meth := k2m1) (c := k2c1) (by decide +kernel) rfl rfl rfl (by decide +kernel)
def codes1 : List Jvm.Cond := [Jvm.Cond.code x code maxLocals ret, Jvm.Cond.code ({ cls := "com/example/rock_dove/rockdove/mqi/MQMD", name := "byteOrder", desc := "(I)Ljava/nio/ByteOrder;" } : Jvm.MethodName) prog_40_method_4_code (1 : Nat) (Option.some (Jvm.ClassFile.FieldType.object "java/nio/ByteOrder"))]
set_option maxRecDepth 65536 in
theorem codes_eq : words1.filter isCode = codes1 := rfl
theorem w_codes : ∀ c ∈ words1.filter isCode, c.before args0 about1 = true := by
  rw [codes_eq]
  intro c hc
  simp only [codes1, List.mem_cons, List.not_mem_nil, or_false] at hc
  rcases hc with rfl | rfl
  · exact w_c0
  · exact w_c1
set_option maxRecDepth 65536 in
theorem w_t1 : words1.all (fun c => isCode c || c.before args0 about1) = true := by decide +kernel
theorem w_tables : (allAtoms (Jvm.Cond.code x code maxLocals ret :: tables_1)).before args0 about1 = true := by
  rw [allAtoms_all]
  show words1.all (fun c => c.before args0 about1) = true
  refine all_split ?_ w_codes
  rw [w_t1]
set_option maxRecDepth 65536 in
theorem w_rest : rest_1_c.before args0 about1 = true := by decide +kernel
set_option maxRecDepth 65536 in
theorem w_case : (Jvm.Cond.and given_1 narrow_1).before args0 about1 = true := by decide +kernel
theorem w_applies : (headSpec (Jvm.Cond.code x code maxLocals ret :: tables_1) room_1).applies x e0.platform about1 = true :=
  (Spec.applies_iff w_frames).mpr ⟨w_running, w_runnable, w_alone, w_named, w_hears, w_ripe, w_room, w_tables⟩
theorem atStart : AtStart classFile x code maxLocals ret World_1 tables_1 room_1 Calls_1 rest_1 Pre_1 launch0 p0 e0 about1 theMethod args0 below0 :=
  ⟨lists_1, trivial, launch0.admits_env _ _ _, launch0.least_env, fairChoices_fair.cas, fairChoices_fair.clock, w_frames, w_args, w_heap, w_applies, trivial, w_rest, w_case⟩
end start1
theorem witness_1 : WitnessClaimed_1 := ⟨start1.p0, start1.e0, start1.about1, start1.theMethod, start1.args0, start1.below0, start1.atStart⟩
end Jvm.Pilot.@@N@@
